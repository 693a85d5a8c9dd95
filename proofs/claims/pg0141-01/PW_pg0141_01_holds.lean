import PyProof.Rows.All
import Wide.All
import OpenK.AllK
import Wide.FinOn
import PySem.Challenge.RW_pg0141_01
set_option Elab.async false
section
open PySem PySem.W PyProof.Rows
namespace Mine
set_option maxRecDepth 100000
set_option maxHeartbeats 8000000
open_top hd for PySem.Challenge.rw_pg0141_01
end Mine
end
section
open PySem PySem.W PyProof.Rows
set_option maxRecDepth 100000
namespace Mine
noncomputable abbrev PR : Program := PySem.Challenge.rw_pg0141_01.row.prog
noncomputable abbrev LO : List Str := looseW hd.view_39 [Str.ofString "insort_right", Str.ofString "bisect_right", Str.ofString "insort_left", Str.ofString "bisect_left", Str.ofString "BaseHandler", Str.ofString "HTTPErrorProcessor"]
/-- what an item of the row is: a handler with its order, or a number -/
inductive It where
  | h (o : Int)
  | n (k : Int)
/-- the order that a handler of class C with dict entries es has -/
inductive OrdIs : Addr → List DictEntry → Nat → Int → Prop where
  | base : OrdIs 88 [] 0 500
  | http : OrdIs 109 [] 0 1000
  | own {hs : Int} {t u : Tok} {o : Int} : OrdIs 88 [⟨hs, .str (Str.ofString "handler_order") t, .int o u⟩] 1 o
/-- the ledger bears the item at v -/
inductive IsIt (news : List (Addr × Obj)) : Value → It → Prop where
  | h {x C dx : Addr} {es : List DictEntry} {n : Nat} {o : Int} : (x, instObj C dx) ∈ news → (dx, dictOf es n) ∈ news → OrdIs C es n o → IsIt news (.ref x) (.h o)
  | n {k : Int} {t : Tok} : IsIt news (.int k t) (.n k)
theorem IsIt.mono {news news' : List (Addr × Obj)} {v : Value} {i : It} (h : IsIt news v i) (hs : ∀ p ∈ news, p ∈ news') : IsIt news' v i := by
  cases h with
  | h a b c => exact .h (hs _ a) (hs _ b) c
  | n => exact .n
/-- a < b: none is TypeError -/
def lessV : It → It → Option Bool
  | .h o, .h p => some (decide (o < p))
  | .h _, .n _ => some true
  | .n _, .h _ => none
  | .n k, .n l => some (decide (k < l))
end Mine
end
section
open PySem PySem.W PyProof.Rows
set_option maxRecDepth 100000
set_option maxHeartbeats 4000000
namespace Mine
theorem fill1 (w : World) (h : Heap) : (hd.heap_39 w.params).In h → PySem.Challenge.rw_pg0141_01 = PySem.Challenge.rw_pg0141_01 := by k_fill; intro _; rfl
theorem kind_hasattr : builtinKind "hasattr" = none := by decide +kernel
theorem plain_hasattr : plainId "hasattr" = true := by decide +kernel
theorem entry_hasattr : entryFor table "hasattr" = some Builtin.«hasattr» := entryFor_of_tree (by kernel_rfl)
theorem args_hasattr (a b : Value) : argsOk "hasattr" ⟨[a, b], []⟩ := by unfold argsOk; kernel_rfl
theorem int_no_order : typeLookup (.type "int") (Str.ofString "handler_order") = pure none := am_miss_of_fast (by kernel_rfl)
section
variable {prog : Program} {w : World} {A : Around} {Q E : Value → Shared → Prop} {s : Shared}
theorem hasattr_int {n : Int} {t u : Tok} (hA : A.handled = none)
    (h : ∀ h' tk, s.heap.StaysIn h' → Q (.bool false) { s with heap := h', toks := tk }) :
    wpAny (model prog w) A (call (.builtin "hasattr") [.int n t, .str (Str.ofString "handler_order") u]) Q E s := by
  refine Calls.call_function_entry kind_hasattr plain_hasattr entry_hasattr (args_hasattr _ _) ?_
  unfold Builtin.«hasattr»
  refine wpAny_bind (wpAny_of_eq (a := [.int n t, .str (Str.ofString "handler_order") u]) (by first | rfl | kernel_rfl) ?_)
  dsimp only
  refine wpAny_bind (wpAny_of_eq (a := ()) (by first | rfl | kernel_rfl) ?_)
  obtain ⟨hp, g, d, tk, os⟩ := s
  have hT : ∀ s' : Shared, s'.TypeIs (.int n t) "int" := fun _ => rfl
  have f1 := sub_AttributeError
  have f2 := int_no_order
  have f3 := F.slot_int_getattribute.lookup
  have f4 := F.slot_int_getattribute.bind (.int n t)
  have f5 := am_int_getattr_none
  rw [if_neg (show ¬ (Value.int n t == Value.builtin "__main__.__loader__#opaque") = true from Bool.false_ne_true)]
  refine wpAny_bind (wpAny_typeOf (hT _) ?_)
  dsimp only
  refine wpAny_bind (wpAny_of_eq (a := some (Str.ofString "handler_order")) rfl ?_)
  dsimp only
  refine wpAny_bind (wpAny_of_eq f2 ?_)
  dsimp only
  refine wpAny_bind (wpAny_of_eq (a := 0) rfl ?_)
  rw [if_neg (show ¬ ((0 : Nat) == 1) = true from Bool.false_ne_true)]
  unfold getAttrBy? getAttrBy
  repeat (any_goals (first | assumption | ((with_reducible show wpAny _ _ (call (Value.builtin "int.__getattribute__") _ _) _ _ _); refine call_meets F.slot_int_getattribute (hT _) am_entry_int_getattribute (F.args_int_getattribute_2 _ _) (meets_getattribute_miss_int n t (Str.ofString "handler_order") _ int_no_order (by rw [sizeLine_eq]; decide)) ⟨hA, fun h' tk' e hx => ?_⟩) | wp_step))
  obtain ⟨t', u', he⟩ := hx.there
  show wpAny _ _ (getattributeRaised _ _ _ _ _ _ _) _ _ _
  unfold getattributeRaised
  repeat (any_goals (first | assumption | wp_step))
  exact ⟨_, rfl, h _ _ hx.keeps⟩
theorem hasattr_inst {K : Frag} {x C L : Addr} {ox od : Obj} {v : Value} {h₀ : Heap} {m : Str → Option Value} {name : Str} {u : Tok} (F : Fr h₀ L s.heap m) (X₀ : K.In h₀) (I : InstAt s.heap x ox C (some od))
    (hga : findIn K (.ref C) "__getattribute__" = some (some (.builtin "object.__getattribute__"))) (hnm : subIn K (.ref C) (.type "module") = some false)
    (hf : findObj K C (some od) name = some (.value v)) (hh : handedIn v = true) (h : Q (.bool true) s) :
    wpAny (model prog w) A (call (.builtin "hasattr") [.ref x, .str name u]) Q E s := by
  have X := X₀.keeps F.keep
  refine Calls.call_function_entry kind_hasattr plain_hasattr entry_hasattr (args_hasattr _ _) ?_
  unfold Builtin.«hasattr»
  refine wpAny_bind (wpAny_of_eq (a := [.ref x, .str name u]) (by first | rfl | kernel_rfl) ?_)
  dsimp only
  refine wpAny_bind (wpAny_of_eq (a := ()) (by first | rfl | kernel_rfl) ?_)
  rw [if_neg (show ¬ (Value.ref x == Value.builtin "__main__.__loader__#opaque") = true from Bool.false_ne_true)]
  refine wpAny_bind (I.type.here ?_)
  try dsimp only
  have road : wpAny (model prog w) A.in1 (PySem.isInstance (.ref x) (.type "module")) (fun b s' => b = false ∧ s' = s) (fun _ _ => False) s := by
    unfold PySem.isInstance
    exact wpAny_bind (I.type.here ((looks_subIn X hnm).here ⟨rfl, rfl⟩))
  refine wpAny_bind ?_
  refine wpAny_bind (wpAny_of_eq (a := some name) rfl ?_)
  refine wpAny_bind (wpAny_mono road (fun b s' hb => ?_) (fun _ _ e => e.elim))
  obtain ⟨rfl, rfl⟩ := hb
  refine wpAny_pure ?_
  try dsimp only
  rw [if_neg (show ¬ ((0 : Nat) == 1) = true from Bool.false_ne_true)]
  unfold getAttrBy? getAttrBy
  refine wpAny_bind (wpAny_bind (wpAny_attempt (wpAny_holding (wpAny_bind (I.type.here (wpAny_bind ((looks_findIn X hga).here ?_)))))))
  show wpAny _ _ (getAttrEveryday _ _ _) _ _ _
  refine wpAny_bind (wpAny_onRaise (wpAny_runValue (codeAny_builtin PySem.F.plainObj_entry_getattr_hooked ?_)))
  refine wpAny_bind (wpAny_pure (wpAny_bind (I.type.here (wpAny_bind ((looks_find X I hf).here ?_)))))
  refine wpAny_pure ?_
  show wpAny _ _ (handedOut v) _ _ _
  rw [handedOut_of hh]
  refine wpAny_pure (wpAny_pure ?_)
  show wpAny _ _ (ret (.bool true)) _ _ _
  exact wpAny_pure ⟨_, rfl, h⟩
end
end Mine
end
section
open PySem PySem.W PyProof.Rows
set_option maxRecDepth 100000
set_option maxHeartbeats 4000000
namespace Mine
section
variable {prog : Program} {w : World} {A : Around} {Q E : Value → Shared → Prop} {s : Shared} {K : Frag}
theorem kind_gt : builtinKind "object.__gt__" = some .slot := by decide +kernel
theorem split_gt : splitId "object.__gt__" = some ("object", "__gt__") := by decide +kernel
theorem gt_declines {x C : Addr} {ox : Obj} {od : Option Obj} {b : Value} {R : Option Value → Shared → Prop} (X : K.In s.heap) (I : InstAt s.heap x ox C od)
    (hs : findIn K (.ref C) "__gt__" = some (some (.builtin "object.__gt__"))) (ho : subIn K (.ref C) (.type "object") = some true) (h : R none s) :
    wpAny (model prog w) A (tryCompare (.ref x) "__gt__" b) R E s := by
  have hcall : wpAny (model prog w) A (call (.builtin "object.__gt__") [.ref x, b]) (fun v s' => v = .notImplemented ∧ R none s') E s := by
    refine wpAny_call (codeAny_call_builtin PySem.F.slot_object_gt.plain PySem.F.entry_object_gt (check_slot kind_gt split_gt ?_ (PySem.F.args_object_gt_2 _ _) ?_))
    · exact I.type.andThen (looks_subIn X ho)
    · exact wpAny_bind (wpAny_of_eq (a := (.ref x, [b])) (by first | rfl | kernel_rfl) (wpAny_pure ⟨rfl, h⟩))
  unfold tryCompare
  refine wpAny_bind ?_
  simp only [callSpecialIfBound?, bindSpecialIfBound?]
  refine wpAny_holding (wpAny_bind (wpAny_bind (wpAny_bind (I.type.here ((looks_findIn X hs).here ?_)))))
  refine wpAny_bind (wpAny_askSetting (wpAny_ite ?_))
  have fin : wpAny (model prog w) A (call (.builtin "object.__gt__") ([.ref x] ++ [b]) >>= fun v => pure (some v)) (fun r s' => r = some .notImplemented ∧ R none s') E s := wpAny_bind (wpAny_mono hcall (fun v s' h' => wpAny_pure ⟨by rw [h'.1], h'.2⟩) fun _ _ h' => h')
  have fin' := wpAny_mono fin (Q' := fun r s' => wpAny (model prog w) A (match r with | some .notImplemented | none => pure none | some v => pure (some v)) R E s') (fun r s' z => by obtain ⟨rfl, z⟩ := z; exact wpAny_pure z) fun _ _ e => e
  have hb := PySem.F.slot_object_gt.bind (.ref x)
  split
  · rw [hb]; exact wpAny_bind (wpAny_pure (wpAny_pure fin'))
  · rw [hb]; exact wpAny_tryCatch (wpAny_bind (wpAny_pure (wpAny_pure fin')))
theorem lt_under {x y C D f L : Addr} {ox oy : Obj} {od oe : Option Obj} {h₀ : Heap} {m : Str → Option Value} (hu : A.units < cLine) (F : Fr h₀ L s.heap m) (X₀ : K.In h₀) (I : InstAt s.heap x ox C od) (J : InstAt s.heap y oy D oe)
    (hne : C ≠ D) (hsub : subIn K (.ref D) (.ref C) = some true) (hg : findIn K (.ref D) "__gt__" = some (some (.builtin "object.__gt__"))) (ho : subIn K (.ref D) (.type "object") = some true)
    (hs : findIn K (.ref C) "__lt__" = some (some (.ref f))) (hf : isFn K (.ref f) = true)
    (h : wpAny (model prog w) A (call (.ref f) [.ref x, .ref y]) (PySem.W.CmpBack Q) E s) : wpAny (model prog w) A (compareOp .Lt (.ref x) (.ref y)) Q E s := by
  have X := X₀.keeps F.keep
  have one : wpAny (model prog w) A (tryCompare (.ref x) (cmpInfo .Lt).2.1 (.ref y)) (fun r s' => ∃ v, r = some v ∧ Q v s') E s := by
    unfold tryCompare
    refine wpAny_bind (ifBound_K X I hs hf (wpAny_mono h (fun v s' hv => ?_) fun _ _ e => e))
    cases v <;> first | exact hv.elim | exact wpAny_pure ⟨_, rfl, hv⟩
  show wpAny _ _ (richCompare .Lt (.ref x) (.ref y)) _ _ _
  unfold richCompare
  simp only [oneThing_ref]
  refine wpAny_holding (wpAny_bind (wpAny_cRoomFor hu ?_))
  refine wpAny_bind (I.type.here (wpAny_bind (J.type.here ?_)))
  rw [if_pos (by simpa using hne)]
  refine wpAny_bind ((looks_subIn X hsub).here ?_)
  simp only [if_true]
  refine wpAny_bind (gt_declines X J hg ho ?_)
  refine wpAny_bind (wpAny_mono one (fun r s' z => ?_) fun _ _ e => e)
  obtain ⟨v, rfl, hq⟩ := z
  exact wpAny_pure hq
theorem lt_refused {y D dy L : Addr} {oe : Option Obj} {h₀ : Heap} {m : Str → Option Value} {k : Int} {t : Tok} {cd : ClassData} (hh : A.handled = none) (hu : A.units < cLine) (F : Fr h₀ L s.heap m) (X₀ : K.In h₀) (J : InstAt s.heap y (instObj D dy) D oe)
    (hsub : subIn K (.ref D) (.type "int") = some false) (hg : findIn K (.ref D) "__gt__" = some (some (.builtin "object.__gt__"))) (ho : subIn K (.ref D) (.type "object") = some true)
    (hc : clsIn K D = some cd) (hcn : (cd.name.cps.foldl (fun k c => k + (Str.utf8Of c).length) 0 > 50) = False) (hcl : cd.name.toString.length ≤ 1000)
    (h : ∀ h' tk e, Heap.NewExc s.heap h' e "TypeError" → E (.ref e) { s with heap := h', toks := tk }) : wpAny (model prog w) A (compareOp .Lt (.int k t) (.ref y)) Q E s := by
  have X := X₀.keeps F.keep
  show wpAny _ _ (richCompare .Lt (.int k t) (.ref y)) _ _ _
  have hT : ∀ s' : Shared, s'.TypeIs (.int k t) "int" := fun _ => rfl
  simp only [richCompare, cmpInfo, (hT s).oneThing_none]
  refine wpAny_holding (wpAny_bind (wpAny_cRoomFor hu ?_))
  refine wpAny_bind (wpAny_typeOf (hT s) (wpAny_bind (J.type.here ?_)))
  rw [if_pos (by rfl)]
  refine wpAny_bind ((looks_subIn X hsub).here ?_)
  simp only [Bool.false_eq_true, if_false, Bool.not_false, if_true]
  refine wpAny_bind (m := tryCompare (.int k t) _ (.ref y)) (wpAny_tryCompare_declines (hT s) slot_int_lt ?_)
  refine wpAny_call_entry slot_int_lt (hT s) entry_int_lt ?_ (args_int_lt _ _)
  unfold Builtin.«int.__lt__»
  refine wpAny_bind (wpAny_of_eq (a := (.int k t, [.ref y])) (by first | rfl | kernel_rfl) ?_)
  refine wpAny_bind (wpAny_of_eq (a := k) (by first | rfl | kernel_rfl) ?_)
  refine wpAny_bind (m := asInt? (.ref y)) ?_
  unfold asInt?
  refine wpAny_bind (wpAny_load J.at_ (wpAny_pure ?_))
  refine wpAny_bind (wpAny_rule (wpAny_pure ⟨_, rfl, rfl, ?_⟩))
  refine wpAny_bind (m := tryCompare (.ref y) _ (.int k t)) (gt_declines X J hg ho ?_)
  refine wpAny_bind (wpAny_rule (wpAny_bind (wpAny_typeNameOf' (hT _) (by decide) ?_)))
  have nm : Looks (model prog w) s.heap (PySem.typeNameOf (.ref y)) cd.name.toString := by
    unfold PySem.typeNameOf PySem.shownTypeOf
    refine Looks.andThen (a := .ref D) (J.type.andThen ?_) ?_
    · rw [if_neg (show ¬ (Value.ref D == Value.type "builtin_function_or_method") = true from Bool.false_ne_true)]
      exact .now
    unfold typeName
    refine (looks_clsIn X hc).andThen ?_
    rw [if_neg (by rw [hcn]; exact id)]
    exact .now
  refine wpAny_bind (nm.here (wpAny_raiseTypeError hh h ?_))
  show (Str.ofString _).length ≤ sizeLine
  rw [PySem.ofString_length, sizeLine_eq]
  simp only [String.length_append, toString]
  have e1 : "'".length ≤ 100 := by decide
  have e2 : "<".length ≤ 100 := by decide
  have e3 : "' not supported between instances of '".length ≤ 100 := by decide
  have e4 : "' and '".length ≤ 100 := by decide
  have e5 : (shownName "int").length ≤ 1000 := by decide
  omega
end
end Mine
end
section
open PySem PySem.W PyProof.Rows
set_option maxRecDepth 100000
set_option maxHeartbeats 4000000
namespace Mine
theorem fill2 (w : World) (h : Heap) : (hd.heap_39 w.params).In h → PySem.Challenge.rw_pg0141_01 = PySem.Challenge.rw_pg0141_01 := by k_fill; intro _; rfl
section
variable {prog : Program} {w : World} {A : Around} {Q E : Value → Shared → Prop} {s : Shared} {K : Frag}
theorem hasattr_own {x C L : Addr} {ox : Obj} {es : List DictEntry} {n : Nat} {attr : Option Value} {v : Value} {h₀ : Heap} {m : Str → Option Value} {name : Str} {u : Tok} (F : Fr h₀ L s.heap m) (X₀ : K.In h₀) (I : InstAt s.heap x ox C (some (dictOf es n)))
    (hg : plainGet K C name = true) (hh : hasDictIn K C = true) (hnm : subIn K (.ref C) (.type "module") = some false)
    (ha : findIn K (.ref C) name = some attr) (hn : noGet K attr = true) (hl : getL name es = some (some v)) (hv : handedIn v = true) (h : Q (.bool true) s) :
    wpAny (model prog w) A (call (.builtin "hasattr") [.ref x, .str name u]) Q E s :=
  hasattr_inst F X₀ I (plainGet_of hg).1 hnm (findObj_own hh ha hn (by show lookIn name (dictOf es n) = _; rw [lookIn_dict, hl])) hv h
theorem hasattr_cls {x C L : Addr} {ox : Obj} {es : List DictEntry} {n : Nat} {a : Value} {h₀ : Heap} {m : Str → Option Value} {name : Str} {u : Tok} (F : Fr h₀ L s.heap m) (X₀ : K.In h₀) (I : InstAt s.heap x ox C (some (dictOf es n)))
    (hg : plainGet K C name = true) (hh : hasDictIn K C = true) (hnm : subIn K (.ref C) (.type "module") = some false)
    (ha : findIn K (.ref C) name = some (some a)) (hn : specialIn K a "__get__" = some none) (hv : handedIn a = true) (hc : copiedNames.contains name = false) (hl : getL name es = some none) (h : Q (.bool true) s) :
    wpAny (model prog w) A (call (.builtin "hasattr") [.ref x, .str name u]) Q E s :=
  hasattr_inst F X₀ I (plainGet_of hg).1 hnm (findObj_cls hh ha hn hv hc (by show lookIn name (dictOf es n) = _; rw [lookIn_dict, hl])) hv h
theorem hasattr_intN {n : Int} {t u : Tok} {h₀ : Heap} {L : Addr} {m : Str → Option Value} {news : List (Addr × Obj)} (F : Fr h₀ L s.heap m) (N : News h₀ L s.heap news) (hA : A.handled = none)
    (h : ∀ h' tk, Fr h₀ L h' m → News h₀ L h' news → Q (.bool false) { s with heap := h', toks := tk }) :
    wpAny (model prog w) A (call (.builtin "hasattr") [.int n t, .str (Str.ofString "handler_order") u]) Q E s :=
  hasattr_int hA fun h' tk k => h h' tk ⟨F.ns.at' fun o e => k _ o e, fun b o e => k _ _ (F.keep b o e), F.above⟩ fun p hp => ⟨k _ _ (N p hp).1, (N p hp).2⟩
end
local macro_rules | `(tactic| walk_at "call builtin:hasattr") => `(tactic| (k_here; k_dflt (first
  | (refine' hasattr_own ?k1 ?k2 ?k3 ?k4 ?k5 ?k6 ?k7 ?k8 ?k9 ?k10 ?_; (case k1 => k_asm); (case k2 => k_asm); (case k3 => k_inst); (case k4 => k_is); (case k5 => k_is); (case k6 => k_is); (case k7 => k_is); (case k8 => k_is); (case k9 => k_get); (case k10 => k_handed); k_whole)
  | (refine' hasattr_cls ?k1 ?k2 ?k3 ?k4 ?k5 ?k6 ?k7 ?k8 ?k9 ?k10 ?k11 ?_; (case k1 => k_asm); (case k2 => k_asm); (case k3 => k_inst); (case k4 => k_is); (case k5 => k_is); (case k6 => k_is); (case k7 => k_is); (case k8 => k_is); (case k9 => k_handed); (case k10 => decide +kernel); (case k11 => k_get); k_whole)
  | (refine' hasattr_intN ?k1 ?k2 ?k3 ?_; (case k1 => k_asm); (case k2 => k_asm); (case k3 => rfl); k_whole; intro h' tk' F' N'; (try k_sweep)))))
section
variable {w : World} {dp un : Nat} {gd : Option (List Code)} {cn : Str} {cs : Scope} {a : Addr} {ccd : Value} {cl : List (Str × Addr)} {outer : List Env} {A₀ : Around} {base h₀ : Heap} {L : Addr} {m : Str → Option Value} {news : List (Addr × Obj)} {s : Shared} {mean : ExcName → Option Value} {mg mb : Str → Option Value} {Q E : Value → Shared → Prop}
theorem lt_call (B : Below A₀ base outer h₀) (F : Fr h₀ L s.heap m) (X : (hd.heap_39 w.params).In h₀) (N : News h₀ L s.heap news) (T : Top hd.view_39 LO mean mg mb h₀) (hk : cs.kind = .function) (hdp : dp + 4 < recursionLimit) (hun : un + 20 < cLine)
   {x C dx : Addr} {es : List DictEntry} {n : Nat} {o : Int} {v : Value} {b : It} {c : Bool} (hx : (x, instObj C dx) ∈ news) (hdx : (dx, dictOf es n) ∈ news) (ho : OrdIs C es n o) (hb : IsIt news v b) (hc : lessV (.h o) b = some c)
   (hret : ∀ h' tk', Fr h₀ L h' m → News h₀ L h' news → Q (.bool c) { s with heap := h', toks := tk' }) :
   wpAny (model PySem.Challenge.rw_pg0141_01.row.prog w) (ktrTop dp un gd cn cs L a ccd cl outer) (call (.ref 85) [.ref x, v]) Q E s := by
  cases hb with
  | n =>
    cases hc
    cases ho
    all_goals (
      refine wpAny_call ?_
      k_dflt cell_enter
      k_steps
      exact hret _ _ (by k_asm) (by k_asm))
  | h hy hdy hp =>
    cases hc
    cases ho
    all_goals cases hp
    all_goals (
      refine wpAny_call ?_
      k_dflt cell_enter
      k_steps
      exact hret _ _ (by k_asm) (by k_asm))
end
end Mine
end
section
open PySem PySem.W PyProof.Rows
set_option maxRecDepth 100000
set_option maxHeartbeats 4000000
namespace Mine
theorem fill3 (w : World) (h : Heap) : (hd.heap_39 w.params).In h → PySem.Challenge.rw_pg0141_01 = PySem.Challenge.rw_pg0141_01 := by k_fill; intro _; rfl
section
variable {w : World} {dp un : Nat} {gd : Option (List Code)} {cn : Str} {cs : Scope} {a : Addr} {ccd : Value} {cl : List (Str × Addr)} {outer : List Env} {A₀ : Around} {base h₀ : Heap} {L : Addr} {m : Str → Option Value} {news : List (Addr × Obj)} {s : Shared} {mean : ExcName → Option Value} {mg mb : Str → Option Value} {Q E : Value → Shared → Prop}
theorem cmp_lt (B : Below A₀ base outer h₀) (F : Fr h₀ L s.heap m) (X : (hd.heap_39 w.params).In h₀) (N : News h₀ L s.heap news) (T : Top hd.view_39 LO mean mg mb h₀) (hk : cs.kind = .function) (hdp : dp + 4 < recursionLimit) (hun : un + 20 < cLine)
   {l r : Value} {i j : It} (hl : IsIt news l i) (hr : IsIt news r j)
   (hQ : ∀ c h' tk', lessV i j = some c → Fr h₀ L h' m → News h₀ L h' news → Q (.bool c) { s with heap := h', toks := tk' })
   (hE : lessV i j = none → ∀ h' tk e, Heap.NewExc s.heap h' e "TypeError" → E (.ref e) { s with heap := h', toks := tk }) :
   wpAny (model PySem.Challenge.rw_pg0141_01.row.prog w) (ktrTop dp un gd cn cs L a ccd cl outer) (compareOp .Lt l r) Q E s := by
  have hu : (ktrTop dp un gd cn cs L a ccd cl outer).units < cLine := by show un < cLine; omega
  have lc : ∀ {x C dx : Addr} {es : List DictEntry} {n : Nat} {o : Int} {v : Value} {b : It} {c : Bool}, (x, instObj C dx) ∈ news → (dx, dictOf es n) ∈ news → OrdIs C es n o → IsIt news v b → lessV (.h o) b = some c →
      (∀ h' tk', Fr h₀ L h' m → News h₀ L h' news → Q (.bool c) { s with heap := h', toks := tk' }) →
      wpAny (model PySem.Challenge.rw_pg0141_01.row.prog w) (ktrTop dp un gd cn cs L a ccd cl outer) (call (.ref 85) [.ref x, v]) (PySem.W.CmpBack Q) E s :=
    fun hx hdx ho hb hc k => lt_call B F X N T hk hdp hun hx hdx ho hb hc fun h' tk' F' N' => k h' tk' F' N'
  cases hl with
  | h hx hdx ho =>
    have I := InstAt.of_news N hx hdx
    cases hr with
    | @n k t =>
      have q := lc hx hdx ho (.n (k := k) (t := t)) rfl (fun h' tk' => hQ _ h' tk' rfl)
      show wpAny _ _ (richCompare .Lt _ _) _ _ _
      cases ho
      all_goals exact cmp_K (tb := .type "int") hu F X I (Looks.of_pure rfl) (by k_is) (by k_is) (by k_is) q
    | h hy hdy hp =>
      have q := lc hx hdx ho (.h hy hdy hp) rfl (fun h' tk' => hQ _ h' tk' rfl)
      have J := InstAt.of_news N hy hdy
      have Jt := J.type (M := model PySem.Challenge.rw_pg0141_01.row.prog w)
      cases ho
      all_goals cases hp
      all_goals first
        | exact (show wpAny _ _ (richCompare .Lt _ _) _ _ _ from cmp_K hu F X I Jt (by k_is) (by k_is) (by k_is) q)
        | exact lt_under hu F X I J (by decide) (by k_is) (by k_is) (by k_is) (by k_is) (by k_is) q
  | n =>
    cases hr with
    | n =>
      exact wpAny_lt_int (hQ _ _ _ rfl F N)
    | h hy hdy hp =>
      have J := InstAt.of_news N hy hdy
      cases hp
      all_goals exact lt_refused rfl hu F X J (by k_is) (by k_is) (by k_is) (by k_is) (by decide +kernel) (by decide +kernel) (hE rfl)
end
end Mine
end
section
open PySem PySem.W PyProof.Rows
set_option maxRecDepth 100000
set_option maxHeartbeats 4000000
namespace Mine
theorem fill4 (w : World) (h : Heap) : (hd.heap_39 w.params).In h → PySem.Challenge.rw_pg0141_01 = PySem.Challenge.rw_pg0141_01 := by k_fill; intro _; rfl
/-- binary search by what is told at a place: some true = go right, some false = go left, none = refused -/
def bis (c : Nat → Option Bool) : Nat → Nat → Nat → Option Nat
  | 0, lo, _ => some lo
  | f + 1, lo, hi => if lo < hi then
      match c ((lo + hi) / 2) with
      | none => none
      | some true => bis c f ((lo + hi) / 2 + 1) hi
      | some false => bis c f lo ((lo + hi) / 2)
    else some lo
theorem bis_done {c : Nat → Option Bool} {f lo hi : Nat} (h : ¬ lo < hi) : bis c f lo hi = some lo := by
  cases f with
  | zero => rfl
  | succ f => rw [bis, if_neg h]
theorem bis_none {c : Nat → Option Bool} {f lo hi : Nat} (h : lo < hi) (hf : hi - lo ≤ f) (e : c ((lo + hi) / 2) = none) : bis c f lo hi = none := by
  cases f with
  | zero => omega
  | succ f => rw [bis, if_pos h, e]
theorem bis_more {c : Nat → Option Bool} (f : Nat) : ∀ (k lo hi : Nat), hi - lo ≤ f → bis c (f + k) lo hi = bis c f lo hi := by
  induction f with
  | zero => intro k lo hi h; rw [bis_done (by omega), bis_done (by omega)]
  | succ f ih =>
    intro k lo hi h
    rw [show f + 1 + k = (f + k) + 1 from by omega, bis, bis]
    by_cases hl : lo < hi
    · rw [if_pos hl, if_pos hl]
      cases c ((lo + hi) / 2) with
      | none => rfl
      | some b => cases b with
        | true => exact ih k _ _ (by omega)
        | false => exact ih k _ _ (by omega)
    · rw [if_neg hl, if_neg hl]
theorem bis_right {c : Nat → Option Bool} {f lo hi : Nat} (h : lo < hi) (hf : hi - lo ≤ f) (e : c ((lo + hi) / 2) = some true) : bis c f lo hi = bis c (f - 1) ((lo + hi) / 2 + 1) hi := by
  cases f with
  | zero => omega
  | succ f => rw [bis, if_pos h, e]; rfl
theorem bis_left {c : Nat → Option Bool} {f lo hi : Nat} (h : lo < hi) (hf : hi - lo ≤ f) (e : c ((lo + hi) / 2) = some false) : bis c f lo hi = bis c (f - 1) lo ((lo + hi) / 2) := by
  cases f with
  | zero => omega
  | succ f => rw [bis, if_pos h, e]; rfl
theorem norm4 {mm : Str → Option Value} {n1 n2 n3 n4 : Str} {a b c d : Option Value} (h1 : mm n1 = a) (h2 : mm n2 = b) (h3 : mm n3 = c) (h4 : mm n4 = d) :
    mm = fun y => if y = n1 then a else if y = n2 then b else if y = n3 then c else if y = n4 then d else mm y := by
  funext y
  by_cases e1 : y = n1
  · rw [if_pos e1, e1, h1]
  rw [if_neg e1]
  by_cases e2 : y = n2
  · rw [if_pos e2, e2, h2]
  rw [if_neg e2]
  by_cases e3 : y = n3
  · rw [if_pos e3, e3, h3]
  rw [if_neg e3]
  by_cases e4 : y = n4
  · rw [if_pos e4, e4, h4]
  rw [if_neg e4]
section
variable {prog : Program} {w : World} {A : Around} {E : Value → Shared → Prop} {env : Env} {test : PySem.Expr} {body orelse : List Stmt} {Q : Flow → Shared → Prop}
/-- what a while's body must show at its end -/
def WEnd (P : Nat → Shared → Prop) (f : Nat) (Q : Flow → Shared → Prop) : Flow → Shared → Prop
  | .brk, s => Q .next s
  | .ret v, s => Q (.ret v) s
  | .next, s => ∃ f', f' < f ∧ P f' s
  | .cont, s => ∃ f', f' < f ∧ P f' s
theorem whl_inv (P : Nat → Shared → Prop) (hE : PassesOwn (model prog w) A env E)
    (step : ∀ f s, P f s → wpAny (model prog w) A (isTrue test env (eval test env)) (fun b s₂ => WhlIf b (wpAny (model prog w) A (execs body env) (WEnd P f Q) E s₂) (wpAny (model prog w) A (execs orelse env) Q E s₂)) E s) :
    ∀ {f : Nat} {s : Shared}, P f s → WhlRest prog w A E env test body orelse Q 1 s := by
  have all : ∀ n f s, f < n → P f s → WhlRest prog w A E env test body orelse Q 1 s := by
    intro n
    induction n with
    | zero => intro f s h; exact absurd h (Nat.not_lt_zero _)
    | succ n ih =>
      intro f s hf hP
      refine whl_turn (k := 0) hE (wpAny_mono (step f s hP) (fun b s₂ h => ?_) fun _ _ e => e)
      unfold WhlIf at h ⊢
      split at h
      · rename_i hb
        rw [if_pos hb]
        refine wpAny_mono h (fun fl s₃ z => ?_) fun _ _ e => e
        cases fl with
        | next => obtain ⟨f', hf', hP'⟩ := z; exact ih f' s₃ (by omega) hP'
        | cont => obtain ⟨f', hf', hP'⟩ := z; exact ih f' s₃ (by omega) hP'
        | brk => exact z
        | ret v => exact z
      · rename_i hb
        rw [if_neg hb]
        exact h
  exact fun {f s} h => all (f + 1) f s (Nat.lt_succ_self _) h
end
end Mine
end
section
open PySem PySem.W PyProof.Rows
set_option maxRecDepth 100000
set_option maxHeartbeats 4000000
namespace Mine
theorem fill5 (w : World) (h : Heap) : (hd.heap_39 w.params).In h → PySem.Challenge.rw_pg0141_01 = PySem.Challenge.rw_pg0141_01 := by k_fill; intro _; rfl
/-- where the walk is to halt -/
def Halt (P : Prop) : Prop := P
theorem Halt.out {P : Prop} (h : Halt P) : P := h
def ItsAre (news : List (Addr × Obj)) (vs : List Value) (its : List It) : Prop := vs.length = its.length ∧ ∀ (j : Nat) (u : Value), vs[j]? = some u → ∃ i, its[j]? = some i ∧ IsIt news u i
def cL (its : List It) (t : It) (j : Nat) : Option Bool := match its[j]? with | some i => lessV i t | none => none
def cR (its : List It) (t : It) (j : Nat) : Option Bool := match its[j]? with | some i => (lessV t i).map (!·) | none => none
local macro_rules | `(tactic| walk_at "call builtin:len") => `(tactic| (k_here; k_dflt (refine' len_list ?k1 ?k2 ?_; (case k1 => exact News.isList (by k_asm) (by assumption)); (case k2 => (simp only [List.size_toArray]; omega)); k_whole)))
local macro_rules | `(tactic| walk_at "exec While Compare") => `(tactic| (refine whl_start 1 (Halt.out ?_)))
local macro_rules | `(tactic| walk_at "subscriptTail Name Name ref int") => `(tactic| (k_here; k_dflt (refine' item_list ?k1 ?k2 ?k3 ?k4 ?_ ?k6 ?k7; (case k1 => exact News.isList (by k_asm) (by assumption)); (case k2 => assumption); (case k3 => assumption); (case k4 => assumption); (case k6 => with_unfolding_all rfl); (case k7 => (intro _; with_unfolding_all rfl)); k_whole)))
section
variable {w : World} {dp un : Nat} {gd : Option (List Code)} {cn : Str} {cs : Scope} {a : Addr} {ccd : Value} {cl : List (Str × Addr)} {outer : List Env} {A₀ : Around} {base h₀ : Heap} {L : Addr} {m : Str → Option Value} {news : List (Addr × Obj)} {s : Shared} {mean : ExcName → Option Value} {mg mb : Str → Option Value} {Q E : Value → Shared → Prop}
theorem bl_call (B : Below A₀ base outer h₀) (F : Fr h₀ L s.heap m) (X : (hd.heap_39 w.params).In h₀) (N : News h₀ L s.heap news) (T : Top hd.view_39 LO mean mg mb h₀) (hk : cs.kind = .function) (hdp : dp + 10 < recursionLimit) (hun : un + 40 < cLine)
   {row : Addr} {vs : List Value} {k : Nat} {its : List It} {v : Value} {i : It} (hrow : (row, listOf vs.toArray k) ∈ news) (hlen : vs.length ≤ 1000) (hits : ItsAre news vs its) (hv : IsIt news v i)
   (hret : ∀ p t h' tk', bis (cL its i) vs.length 0 vs.length = some p → Fr h₀ L h' m → News h₀ L h' news → Q (.int (p : Nat) t) { s with heap := h', toks := tk' })
   (herr : bis (cL its i) vs.length 0 vs.length = none → ∀ e g h' tk', Fr h₀ L g m → RaisedSN base g (envX cn cs L a ccd cl :: outer) e (.type "TypeError") news h' → g.UpToSlots h' → E (.ref e) { s with heap := h', toks := tk' }) :
   wpAny (model PySem.Challenge.rw_pg0141_01.row.prog w) (ktrTop dp un gd cn cs L a ccd cl outer) (call (.ref 57) [.ref row, v]) Q E s := by
  refine wpAny_call ?_
  k_dflt (refine' code_def ?k1 ?k2 ?k3 ?k4 ?k5 ?kA ?kF ?kK ?k6 ?k7 ?k8 ?k9 ?kB ?_ ?c2 ?c3 ?c4 ?c5; (case kA => exact rfl); (case kF => exact rfl); (case kK => assumption); (case k1 => k_asm); (case k2 => k_asm); (case k3 => k_asm); (case k4 => k_asm); (case k5 => k_asm); (case k6 => k_is); (case k7 => k_is); (case k8 => ktr_room); (case k9 => (refine' kp_binds ?kx ?ke; (case kx => k_in); (case ke => exact fun _ => rfl))); (case c5 => decide); (case kB => exact locs rfl); (case c2 => exact rfl); (case c3 => exact rfl); (case c4 => exact rfl))
  intro g L' h1 FG F' N' B' X' T'
  (try dsimp only)
  (try k_fold)
  k_steps
  rename Fr g L' _ _ => F'
  rename News g L' _ _ => N'
  refine whl_inv (fun f s' => ∃ (lo hi : Nat) (t u : Tok) (h : Heap) (tk : Nat) (mm : Str → Option Value), s' = { s with heap := h, toks := tk } ∧
    Fr g L' h (fun y => if y = Str.ofString "lo" then some (.int lo t) else if y = Str.ofString "hi" then some (.int hi u) else if y = Str.ofString "a" then some (.ref row) else if y = Str.ofString "x" then some v else mm y) ∧
    News g L' h news ∧ hi ≤ vs.length ∧ hi - lo ≤ f ∧ bis (cL its i) f lo hi = bis (cL its i) vs.length 0 vs.length) ?hE ?step (f := vs.length) ?start
  case hE => first | passes_own | with_unfolding_all passes_own
  case start => exact ⟨0, vs.length, _, _, _, _, _, rfl, Eq.mp (congrArg (Fr g L' _) (norm4 rfl rfl rfl rfl)) F', N', Nat.le_refl _, by omega, rfl⟩
  case step =>
    rintro f s' ⟨lo, hi, t, u, h, tk, mm, rfl, F1, N1, hhi, hf, hb⟩
    clear F' N'
    k_steps
    by_cases hlt : lo < hi
    · refine WhlIf.yes (by simpa using hlt) ?_
      have hm : Int.fdiv ((lo : Int) + (hi : Int)) 2 = (((lo + hi) / 2 : Nat) : Int) := by rw [Int.fdiv_eq_ediv_of_nonneg _ (by omega)]; omega
      have hml : (lo + hi) / 2 < vs.length := by omega
      obtain ⟨i0, hi0, hI0⟩ := hits.2 _ _ (List.getElem?_eq_getElem hml)
      have hc0 : cL its i ((lo + hi) / 2) = lessV i0 i := by unfold cL; rw [hi0]
      have h0 : 0 ≤ Int.fdiv ((lo : Int) + (hi : Int)) 2 := by omega
      have h63 : Int.fdiv ((lo : Int) + (hi : Int)) 2 < 2 ^ 63 := by omega
      have hg : vs.toArray[(Int.fdiv ((lo : Int) + (hi : Int)) 2).toNat]? = some vs[(lo + hi) / 2] := by
        rw [hm, Int.toNat_natCast, List.getElem?_toArray]; exact List.getElem?_eq_getElem hml
      generalize vs[(lo + hi) / 2] = u0 at hI0 hg
      k_steps
      k_dflt (refine' cmp_lt B' ?f X' ?n T' ?k ?d ?u hI0 hv ?q ?e)
      case f => k_asm
      case n => k_asm
      case k => exact rfl
      case d => ktr_room
      case u => ktr_units
      case e =>
        intro hn h' tk' e hx
        rename Fr g L' _ _ => F2
        rename News g L' _ _ => N2
        refine leave_newS B' hx F2 N2 (fun h'' R1 R2 U => ?_)
        exact herr (by rw [← hb]; exact bis_none hlt hf (hc0.trans (by rw [hn]))) _ _ _ _ FG R1 U
      case q =>
        intro c h' tk' hc F2 N2
        cases c with
        | true =>
          k_steps
          rename Fr g L' _ _ => F3
          rename News g L' _ _ => N3
          exact ⟨f - 1, by omega, (lo + hi) / 2 + 1, hi, _, _, _, _, _, rfl, Eq.mp (congrArg (Fr g L' _) (norm4 (by show some (Value.int (Int.fdiv ((lo : Int) + (hi : Int)) 2 + 1) _) = _; rw [hm]; rfl) rfl rfl rfl)) F3, N3, hhi, by omega, by rw [← bis_right hlt hf (hc0.trans (by rw [hc])), hb]⟩
        | false =>
          k_steps
          rename Fr g L' _ _ => F3
          rename News g L' _ _ => N3
          exact ⟨f - 1, by omega, lo, (lo + hi) / 2, _, _, _, _, _, rfl, Eq.mp (congrArg (Fr g L' _) (norm4 rfl (by show some (Value.int (Int.fdiv ((lo : Int) + (hi : Int)) 2) _) = _; rw [hm]) rfl rfl)) F3, N3, by omega, by omega, by rw [← bis_left hlt hf (hc0.trans (by rw [hc])), hb]⟩
    · refine WhlIf.no (by simpa using hlt) ?_
      k_steps
      exact hret _ _ _ _ (by rw [← hb]; exact bis_done hlt) (by k_asm) (by k_asm)
theorem bl_call4 (B : Below A₀ base outer h₀) (F : Fr h₀ L s.heap m) (X : (hd.heap_39 w.params).In h₀) (N : News h₀ L s.heap news) (T : Top hd.view_39 LO mean mg mb h₀) (hk : cs.kind = .function) (hdp : dp + 10 < recursionLimit) (hun : un + 40 < cLine)
   {row : Addr} {vs : List Value} {k : Nat} {its : List It} {v : Value} {i : It} {t0 : Tok} (hrow : (row, listOf vs.toArray k) ∈ news) (hlen : vs.length ≤ 1000) (hits : ItsAre news vs its) (hv : IsIt news v i)
   (hret : ∀ p t h' tk', bis (cL its i) vs.length 0 vs.length = some p → Fr h₀ L h' m → News h₀ L h' news → Q (.int (p : Nat) t) { s with heap := h', toks := tk' })
   (herr : bis (cL its i) vs.length 0 vs.length = none → ∀ e g h' tk', Fr h₀ L g m → RaisedSN base g (envX cn cs L a ccd cl :: outer) e (.type "TypeError") news h' → g.UpToSlots h' → E (.ref e) { s with heap := h', toks := tk' }) :
   wpAny (model PySem.Challenge.rw_pg0141_01.row.prog w) (ktrTop dp un gd cn cs L a ccd cl outer) (call (.ref 57) [.ref row, v, .int 0 t0, .none]) Q E s := by
  refine wpAny_call ?_
  k_dflt (refine' code_def ?k1 ?k2 ?k3 ?k4 ?k5 ?kA ?kF ?kK ?k6 ?k7 ?k8 ?k9 ?kB ?_ ?c2 ?c3 ?c4 ?c5; (case kA => exact rfl); (case kF => exact rfl); (case kK => assumption); (case k1 => k_asm); (case k2 => k_asm); (case k3 => k_asm); (case k4 => k_asm); (case k5 => k_asm); (case k6 => k_is); (case k7 => k_is); (case k8 => ktr_room); (case k9 => (refine' kp_binds ?kx ?ke; (case kx => k_in); (case ke => exact fun _ => rfl))); (case c5 => decide); (case kB => exact locs rfl); (case c2 => exact rfl); (case c3 => exact rfl); (case c4 => exact rfl))
  intro g L' h1 FG F' N' B' X' T'
  (try dsimp only)
  (try k_fold)
  k_steps
  rename Fr g L' _ _ => F'
  rename News g L' _ _ => N'
  refine whl_inv (fun f s' => ∃ (lo hi : Nat) (t u : Tok) (h : Heap) (tk : Nat) (mm : Str → Option Value), s' = { s with heap := h, toks := tk } ∧
    Fr g L' h (fun y => if y = Str.ofString "lo" then some (.int lo t) else if y = Str.ofString "hi" then some (.int hi u) else if y = Str.ofString "a" then some (.ref row) else if y = Str.ofString "x" then some v else mm y) ∧
    News g L' h news ∧ hi ≤ vs.length ∧ hi - lo ≤ f ∧ bis (cL its i) f lo hi = bis (cL its i) vs.length 0 vs.length) ?hE ?step (f := vs.length) ?start
  case hE => first | passes_own | with_unfolding_all passes_own
  case start => exact ⟨0, vs.length, _, _, _, _, _, rfl, Eq.mp (congrArg (Fr g L' _) (norm4 rfl rfl rfl rfl)) F', N', Nat.le_refl _, by omega, rfl⟩
  case step =>
    rintro f s' ⟨lo, hi, t, u, h, tk, mm, rfl, F1, N1, hhi, hf, hb⟩
    clear F' N'
    k_steps
    by_cases hlt : lo < hi
    · refine WhlIf.yes (by simpa using hlt) ?_
      have hm : Int.fdiv ((lo : Int) + (hi : Int)) 2 = (((lo + hi) / 2 : Nat) : Int) := by rw [Int.fdiv_eq_ediv_of_nonneg _ (by omega)]; omega
      have hml : (lo + hi) / 2 < vs.length := by omega
      obtain ⟨i0, hi0, hI0⟩ := hits.2 _ _ (List.getElem?_eq_getElem hml)
      have hc0 : cL its i ((lo + hi) / 2) = lessV i0 i := by unfold cL; rw [hi0]
      have h0 : 0 ≤ Int.fdiv ((lo : Int) + (hi : Int)) 2 := by omega
      have h63 : Int.fdiv ((lo : Int) + (hi : Int)) 2 < 2 ^ 63 := by omega
      have hg : vs.toArray[(Int.fdiv ((lo : Int) + (hi : Int)) 2).toNat]? = some vs[(lo + hi) / 2] := by
        rw [hm, Int.toNat_natCast, List.getElem?_toArray]; exact List.getElem?_eq_getElem hml
      generalize vs[(lo + hi) / 2] = u0 at hI0 hg
      k_steps
      k_dflt (refine' cmp_lt B' ?f X' ?n T' ?k ?d ?u hI0 hv ?q ?e)
      case f => k_asm
      case n => k_asm
      case k => exact rfl
      case d => ktr_room
      case u => ktr_units
      case e =>
        intro hn h' tk' e hx
        rename Fr g L' _ _ => F2
        rename News g L' _ _ => N2
        refine leave_newS B' hx F2 N2 (fun h'' R1 R2 U => ?_)
        exact herr (by rw [← hb]; exact bis_none hlt hf (hc0.trans (by rw [hn]))) _ _ _ _ FG R1 U
      case q =>
        intro c h' tk' hc F2 N2
        cases c with
        | true =>
          k_steps
          rename Fr g L' _ _ => F3
          rename News g L' _ _ => N3
          exact ⟨f - 1, by omega, (lo + hi) / 2 + 1, hi, _, _, _, _, _, rfl, Eq.mp (congrArg (Fr g L' _) (norm4 (by show some (Value.int (Int.fdiv ((lo : Int) + (hi : Int)) 2 + 1) _) = _; rw [hm]; rfl) rfl rfl rfl)) F3, N3, hhi, by omega, by rw [← bis_right hlt hf (hc0.trans (by rw [hc])), hb]⟩
        | false =>
          k_steps
          rename Fr g L' _ _ => F3
          rename News g L' _ _ => N3
          exact ⟨f - 1, by omega, lo, (lo + hi) / 2, _, _, _, _, _, rfl, Eq.mp (congrArg (Fr g L' _) (norm4 rfl (by show some (Value.int (Int.fdiv ((lo : Int) + (hi : Int)) 2) _) = _; rw [hm]) rfl rfl)) F3, N3, by omega, by omega, by rw [← bis_left hlt hf (hc0.trans (by rw [hc])), hb]⟩
    · refine WhlIf.no (by simpa using hlt) ?_
      k_steps
      exact hret _ _ _ _ (by rw [← hb]; exact bis_done hlt) (by k_asm) (by k_asm)
theorem br_call (B : Below A₀ base outer h₀) (F : Fr h₀ L s.heap m) (X : (hd.heap_39 w.params).In h₀) (N : News h₀ L s.heap news) (T : Top hd.view_39 LO mean mg mb h₀) (hk : cs.kind = .function) (hdp : dp + 10 < recursionLimit) (hun : un + 40 < cLine)
   {row : Addr} {vs : List Value} {k : Nat} {its : List It} {v : Value} {i : It} (hrow : (row, listOf vs.toArray k) ∈ news) (hlen : vs.length ≤ 1000) (hits : ItsAre news vs its) (hv : IsIt news v i)
   (hret : ∀ p t h' tk', bis (cR its i) vs.length 0 vs.length = some p → Fr h₀ L h' m → News h₀ L h' news → Q (.int (p : Nat) t) { s with heap := h', toks := tk' })
   (herr : bis (cR its i) vs.length 0 vs.length = none → ∀ e g h' tk', Fr h₀ L g m → RaisedSN base g (envX cn cs L a ccd cl :: outer) e (.type "TypeError") news h' → g.UpToSlots h' → E (.ref e) { s with heap := h', toks := tk' }) :
   wpAny (model PySem.Challenge.rw_pg0141_01.row.prog w) (ktrTop dp un gd cn cs L a ccd cl outer) (call (.ref 39) [.ref row, v]) Q E s := by
  refine wpAny_call ?_
  k_dflt (refine' code_def ?k1 ?k2 ?k3 ?k4 ?k5 ?kA ?kF ?kK ?k6 ?k7 ?k8 ?k9 ?kB ?_ ?c2 ?c3 ?c4 ?c5; (case kA => exact rfl); (case kF => exact rfl); (case kK => assumption); (case k1 => k_asm); (case k2 => k_asm); (case k3 => k_asm); (case k4 => k_asm); (case k5 => k_asm); (case k6 => k_is); (case k7 => k_is); (case k8 => ktr_room); (case k9 => (refine' kp_binds ?kx ?ke; (case kx => k_in); (case ke => exact fun _ => rfl))); (case c5 => decide); (case kB => exact locs rfl); (case c2 => exact rfl); (case c3 => exact rfl); (case c4 => exact rfl))
  intro g L' h1 FG F' N' B' X' T'
  (try dsimp only)
  (try k_fold)
  k_steps
  rename Fr g L' _ _ => F'
  rename News g L' _ _ => N'
  refine whl_inv (fun f s' => ∃ (lo hi : Nat) (t u : Tok) (h : Heap) (tk : Nat) (mm : Str → Option Value), s' = { s with heap := h, toks := tk } ∧
    Fr g L' h (fun y => if y = Str.ofString "lo" then some (.int lo t) else if y = Str.ofString "hi" then some (.int hi u) else if y = Str.ofString "a" then some (.ref row) else if y = Str.ofString "x" then some v else mm y) ∧
    News g L' h news ∧ hi ≤ vs.length ∧ hi - lo ≤ f ∧ bis (cR its i) f lo hi = bis (cR its i) vs.length 0 vs.length) ?hE ?step (f := vs.length) ?start
  case hE => first | passes_own | with_unfolding_all passes_own
  case start => exact ⟨0, vs.length, _, _, _, _, _, rfl, Eq.mp (congrArg (Fr g L' _) (norm4 rfl rfl rfl rfl)) F', N', Nat.le_refl _, by omega, rfl⟩
  case step =>
    rintro f s' ⟨lo, hi, t, u, h, tk, mm, rfl, F1, N1, hhi, hf, hb⟩
    clear F' N'
    k_steps
    by_cases hlt : lo < hi
    · refine WhlIf.yes (by simpa using hlt) ?_
      have hm : Int.fdiv ((lo : Int) + (hi : Int)) 2 = (((lo + hi) / 2 : Nat) : Int) := by rw [Int.fdiv_eq_ediv_of_nonneg _ (by omega)]; omega
      have hml : (lo + hi) / 2 < vs.length := by omega
      obtain ⟨i0, hi0, hI0⟩ := hits.2 _ _ (List.getElem?_eq_getElem hml)
      have hc0 : cR its i ((lo + hi) / 2) = (lessV i i0).map (!·) := by unfold cR; rw [hi0]
      have h0 : 0 ≤ Int.fdiv ((lo : Int) + (hi : Int)) 2 := by omega
      have h63 : Int.fdiv ((lo : Int) + (hi : Int)) 2 < 2 ^ 63 := by omega
      have hg : vs.toArray[(Int.fdiv ((lo : Int) + (hi : Int)) 2).toNat]? = some vs[(lo + hi) / 2] := by
        rw [hm, Int.toNat_natCast, List.getElem?_toArray]; exact List.getElem?_eq_getElem hml
      generalize vs[(lo + hi) / 2] = u0 at hI0 hg
      k_steps
      k_dflt (refine' cmp_lt B' ?f X' ?n T' ?k ?d ?u hv hI0 ?q ?e)
      case f => k_asm
      case n => k_asm
      case k => exact rfl
      case d => ktr_room
      case u => ktr_units
      case e =>
        intro hn h' tk' e hx
        rename Fr g L' _ _ => F2
        rename News g L' _ _ => N2
        refine leave_newS B' hx F2 N2 (fun h'' R1 R2 U => ?_)
        exact herr (by rw [← hb]; exact bis_none hlt hf (hc0.trans (by rw [hn]; rfl))) _ _ _ _ FG R1 U
      case q =>
        intro c h' tk' hc F2 N2
        cases c with
        | false =>
          k_steps
          rename Fr g L' _ _ => F3
          rename News g L' _ _ => N3
          exact ⟨f - 1, by omega, (lo + hi) / 2 + 1, hi, _, _, _, _, _, rfl, Eq.mp (congrArg (Fr g L' _) (norm4 (by show some (Value.int (Int.fdiv ((lo : Int) + (hi : Int)) 2 + 1) _) = _; rw [hm]; rfl) rfl rfl rfl)) F3, N3, hhi, by omega, by rw [← bis_right hlt hf (hc0.trans (by rw [hc]; rfl)), hb]⟩
        | true =>
          k_steps
          rename Fr g L' _ _ => F3
          rename News g L' _ _ => N3
          exact ⟨f - 1, by omega, lo, (lo + hi) / 2, _, _, _, _, _, rfl, Eq.mp (congrArg (Fr g L' _) (norm4 rfl (by show some (Value.int (Int.fdiv ((lo : Int) + (hi : Int)) 2) _) = _; rw [hm]) rfl rfl)) F3, N3, by omega, by omega, by rw [← bis_left hlt hf (hc0.trans (by rw [hc]; rfl)), hb]⟩
    · refine WhlIf.no (by simpa using hlt) ?_
      k_steps
      exact hret _ _ _ _ (by rw [← hb]; exact bis_done hlt) (by k_asm) (by k_asm)
theorem br_call4 (B : Below A₀ base outer h₀) (F : Fr h₀ L s.heap m) (X : (hd.heap_39 w.params).In h₀) (N : News h₀ L s.heap news) (T : Top hd.view_39 LO mean mg mb h₀) (hk : cs.kind = .function) (hdp : dp + 10 < recursionLimit) (hun : un + 40 < cLine)
   {row : Addr} {vs : List Value} {k : Nat} {its : List It} {v : Value} {i : It} {t0 : Tok} (hrow : (row, listOf vs.toArray k) ∈ news) (hlen : vs.length ≤ 1000) (hits : ItsAre news vs its) (hv : IsIt news v i)
   (hret : ∀ p t h' tk', bis (cR its i) vs.length 0 vs.length = some p → Fr h₀ L h' m → News h₀ L h' news → Q (.int (p : Nat) t) { s with heap := h', toks := tk' })
   (herr : bis (cR its i) vs.length 0 vs.length = none → ∀ e g h' tk', Fr h₀ L g m → RaisedSN base g (envX cn cs L a ccd cl :: outer) e (.type "TypeError") news h' → g.UpToSlots h' → E (.ref e) { s with heap := h', toks := tk' }) :
   wpAny (model PySem.Challenge.rw_pg0141_01.row.prog w) (ktrTop dp un gd cn cs L a ccd cl outer) (call (.ref 39) [.ref row, v, .int 0 t0, .none]) Q E s := by
  refine wpAny_call ?_
  k_dflt (refine' code_def ?k1 ?k2 ?k3 ?k4 ?k5 ?kA ?kF ?kK ?k6 ?k7 ?k8 ?k9 ?kB ?_ ?c2 ?c3 ?c4 ?c5; (case kA => exact rfl); (case kF => exact rfl); (case kK => assumption); (case k1 => k_asm); (case k2 => k_asm); (case k3 => k_asm); (case k4 => k_asm); (case k5 => k_asm); (case k6 => k_is); (case k7 => k_is); (case k8 => ktr_room); (case k9 => (refine' kp_binds ?kx ?ke; (case kx => k_in); (case ke => exact fun _ => rfl))); (case c5 => decide); (case kB => exact locs rfl); (case c2 => exact rfl); (case c3 => exact rfl); (case c4 => exact rfl))
  intro g L' h1 FG F' N' B' X' T'
  (try dsimp only)
  (try k_fold)
  k_steps
  rename Fr g L' _ _ => F'
  rename News g L' _ _ => N'
  refine whl_inv (fun f s' => ∃ (lo hi : Nat) (t u : Tok) (h : Heap) (tk : Nat) (mm : Str → Option Value), s' = { s with heap := h, toks := tk } ∧
    Fr g L' h (fun y => if y = Str.ofString "lo" then some (.int lo t) else if y = Str.ofString "hi" then some (.int hi u) else if y = Str.ofString "a" then some (.ref row) else if y = Str.ofString "x" then some v else mm y) ∧
    News g L' h news ∧ hi ≤ vs.length ∧ hi - lo ≤ f ∧ bis (cR its i) f lo hi = bis (cR its i) vs.length 0 vs.length) ?hE ?step (f := vs.length) ?start
  case hE => first | passes_own | with_unfolding_all passes_own
  case start => exact ⟨0, vs.length, _, _, _, _, _, rfl, Eq.mp (congrArg (Fr g L' _) (norm4 rfl rfl rfl rfl)) F', N', Nat.le_refl _, by omega, rfl⟩
  case step =>
    rintro f s' ⟨lo, hi, t, u, h, tk, mm, rfl, F1, N1, hhi, hf, hb⟩
    clear F' N'
    k_steps
    by_cases hlt : lo < hi
    · refine WhlIf.yes (by simpa using hlt) ?_
      have hm : Int.fdiv ((lo : Int) + (hi : Int)) 2 = (((lo + hi) / 2 : Nat) : Int) := by rw [Int.fdiv_eq_ediv_of_nonneg _ (by omega)]; omega
      have hml : (lo + hi) / 2 < vs.length := by omega
      obtain ⟨i0, hi0, hI0⟩ := hits.2 _ _ (List.getElem?_eq_getElem hml)
      have hc0 : cR its i ((lo + hi) / 2) = (lessV i i0).map (!·) := by unfold cR; rw [hi0]
      have h0 : 0 ≤ Int.fdiv ((lo : Int) + (hi : Int)) 2 := by omega
      have h63 : Int.fdiv ((lo : Int) + (hi : Int)) 2 < 2 ^ 63 := by omega
      have hg : vs.toArray[(Int.fdiv ((lo : Int) + (hi : Int)) 2).toNat]? = some vs[(lo + hi) / 2] := by
        rw [hm, Int.toNat_natCast, List.getElem?_toArray]; exact List.getElem?_eq_getElem hml
      generalize vs[(lo + hi) / 2] = u0 at hI0 hg
      k_steps
      k_dflt (refine' cmp_lt B' ?f X' ?n T' ?k ?d ?u hv hI0 ?q ?e)
      case f => k_asm
      case n => k_asm
      case k => exact rfl
      case d => ktr_room
      case u => ktr_units
      case e =>
        intro hn h' tk' e hx
        rename Fr g L' _ _ => F2
        rename News g L' _ _ => N2
        refine leave_newS B' hx F2 N2 (fun h'' R1 R2 U => ?_)
        exact herr (by rw [← hb]; exact bis_none hlt hf (hc0.trans (by rw [hn]; rfl))) _ _ _ _ FG R1 U
      case q =>
        intro c h' tk' hc F2 N2
        cases c with
        | false =>
          k_steps
          rename Fr g L' _ _ => F3
          rename News g L' _ _ => N3
          exact ⟨f - 1, by omega, (lo + hi) / 2 + 1, hi, _, _, _, _, _, rfl, Eq.mp (congrArg (Fr g L' _) (norm4 (by show some (Value.int (Int.fdiv ((lo : Int) + (hi : Int)) 2 + 1) _) = _; rw [hm]; rfl) rfl rfl rfl)) F3, N3, hhi, by omega, by rw [← bis_right hlt hf (hc0.trans (by rw [hc]; rfl)), hb]⟩
        | true =>
          k_steps
          rename Fr g L' _ _ => F3
          rename News g L' _ _ => N3
          exact ⟨f - 1, by omega, lo, (lo + hi) / 2, _, _, _, _, _, rfl, Eq.mp (congrArg (Fr g L' _) (norm4 rfl (by show some (Value.int (Int.fdiv ((lo : Int) + (hi : Int)) 2) _) = _; rw [hm]) rfl rfl)) F3, N3, by omega, by omega, by rw [← bis_left hlt hf (hc0.trans (by rw [hc]; rfl)), hb]⟩
    · refine WhlIf.no (by simpa using hlt) ?_
      k_steps
      exact hret _ _ _ _ (by rw [← hb]; exact bis_done hlt) (by k_asm) (by k_asm)
end
end Mine
end
section
open PySem PySem.W PyProof.Rows
set_option maxRecDepth 100000
set_option maxHeartbeats 4000000
namespace Mine
theorem fill6 (w : World) (h : Heap) : (hd.heap_39 w.params).In h → PySem.Challenge.rw_pg0141_01 = PySem.Challenge.rw_pg0141_01 := by k_fill; intro _; rfl
def ins {α : Type} (l : List α) (p : Nat) (y : α) : List α := l.take p ++ y :: l.drop p
theorem ins_length {α : Type} (l : List α) (p : Nat) (y : α) : (ins l p y).length = l.length + 1 := by
  unfold ins
  rw [List.length_append, List.length_cons, List.length_take, List.length_drop]
  omega
theorem take_min {α : Type} (p : Nat) : ∀ l : List α, l.take (min p l.length) = l.take p := fun l => by
  rcases Nat.le_total p l.length with h | h
  · rw [Nat.min_eq_left h]
  · rw [Nat.min_eq_right h, List.take_of_length_le h, List.take_of_length_le (Nat.le_refl _)]
theorem drop_min {α : Type} (p : Nat) : ∀ l : List α, l.drop (min p l.length) = l.drop p := fun l => by
  rcases Nat.le_total p l.length with h | h
  · rw [Nat.min_eq_left h]
  · rw [Nat.min_eq_right h, List.drop_of_length_le h, List.drop_of_length_le (Nat.le_refl _)]
theorem kl_ins_nat (l : List Value) (p : Nat) (y : Value) : kl_ins l (p : Int) y = ins l p y := by
  unfold kl_ins ins
  rw [if_neg (by omega), Int.toNat_natCast, take_min, drop_min]
theorem fits_nat {p : Nat} (h : p ≤ 1000) : Builtin.List.listFitsIndex (p : Int) = true := by
  unfold Builtin.List.listFitsIndex
  simp
  omega
theorem bis_le {c : Nat → Option Bool} : ∀ (f lo hi p : Nat), lo ≤ hi → bis c f lo hi = some p → p ≤ hi := by
  intro f
  induction f with
  | zero => intro lo hi p h e; cases e; exact h
  | succ f ih =>
    intro lo hi p h e
    rw [bis] at e
    split at e
    · split at e
      · cases e
      · exact ih _ _ _ (by omega) e
      · have := ih _ _ _ (by omega) e; omega
    · cases e; exact h
theorem ItsAre.mono {news news' : List (Addr × Obj)} {vs : List Value} {its : List It} (h : ItsAre news vs its) (hs : ∀ p ∈ news, p ∈ news') : ItsAre news' vs its :=
  ⟨h.1, fun j u hj => by obtain ⟨i, a, b⟩ := h.2 j u hj; exact ⟨i, a, b.mono hs⟩⟩
local macro_rules | `(tactic| walk_at "call ref") => `(tactic| (refine Halt.out ?_))
local macro_rules | `(tactic| walk_at "call builtin:list.insert") => `(tactic| (k_here; k_dflt (refine' kl_insert ?F ?N ?f ?e ?U ?z ?_; (case F => k_asm); (case N => k_asm); (case U => exact Upd.head (by assumption)); (case f => assumption); (case e => exact kl_ins_nat _ _ _); (case z => (rw [sizeLine_eq]; simp only [List.toList_toArray]; omega))); intro h' F' N'))
section
variable {w : World} {dp un : Nat} {gd : Option (List Code)} {cn : Str} {cs : Scope} {a : Addr} {ccd : Value} {cl : List (Str × Addr)} {outer : List Env} {A₀ : Around} {base h₀ : Heap} {L : Addr} {m : Str → Option Value} {rest : List (Addr × Obj)} {s : Shared} {mean : ExcName → Option Value} {mg mb : Str → Option Value} {Q E : Value → Shared → Prop}
theorem il_call (B : Below A₀ base outer h₀) (F : Fr h₀ L s.heap m) (X : (hd.heap_39 w.params).In h₀) {row : Addr} {vs : List Value} {k : Nat} (N : News h₀ L s.heap ((row, listOf vs.toArray k) :: rest)) (T : Top hd.view_39 LO mean mg mb h₀) (hk : cs.kind = .function) (hdp : dp + 20 < recursionLimit) (hun : un + 60 < cLine)
   {its : List It} {v : Value} {i : It} (hoff : ∀ p ∈ rest, p.1 ≠ row) (hlen : vs.length ≤ 1000) (hits : ItsAre rest vs its) (hv : IsIt rest v i)
   (hret : ∀ p h' tk', bis (cL its i) vs.length 0 vs.length = some p → Fr h₀ L h' m → News h₀ L h' ((row, listOf (ins vs p v).toArray (k + 1)) :: rest) → Q .none { s with heap := h', toks := tk' })
   (herr : bis (cL its i) vs.length 0 vs.length = none → ∀ e g h' tk', Fr h₀ L g m → RaisedSN base g (envX cn cs L a ccd cl :: outer) e (.type "TypeError") ((row, listOf vs.toArray k) :: rest) h' → g.UpToSlots h' → E (.ref e) { s with heap := h', toks := tk' }) :
   wpAny (model PySem.Challenge.rw_pg0141_01.row.prog w) (ktrTop dp un gd cn cs L a ccd cl outer) (call (.ref 48) [.ref row, v]) Q E s := by
  refine wpAny_call ?_
  k_dflt (refine' code_def ?k1 ?k2 ?k3 ?k4 ?k5 ?kA ?kF ?kK ?k6 ?k7 ?k8 ?k9 ?kB ?_ ?c2 ?c3 ?c4 ?c5; (case kA => exact rfl); (case kF => exact rfl); (case kK => assumption); (case k1 => k_asm); (case k2 => k_asm); (case k3 => k_asm); (case k4 => k_asm); (case k5 => k_asm); (case k6 => k_is); (case k7 => k_is); (case k8 => ktr_room); (case k9 => (refine' kp_binds ?kx ?ke; (case kx => k_in); (case ke => exact fun _ => rfl))); (case c5 => decide); (case kB => exact locs rfl); (case c2 => exact rfl); (case c3 => exact rfl); (case c4 => exact rfl))
  intro g L' h1 FG F' N' B' X' T'
  (try dsimp only)
  (try k_fold)
  k_steps
  refine Halt.out ?_
  k_dflt (refine' bl_call4 B' ?f X' ?n T' ?k ?d ?u (List.mem_cons_self ..) hlen (hits.mono fun p hp => List.mem_cons_of_mem _ hp) (hv.mono fun p hp => List.mem_cons_of_mem _ hp) ?q ?e)
  case f => k_asm
  case n => k_asm
  case k => exact rfl
  case d => ktr_room
  case u => ktr_units
  case e =>
    intro hn e g2 h' tk' F2 R U
    refine leave_onSN B' F2 R U (fun h'' R1 R2 U2 => ?_)
    exact herr hn _ _ _ _ FG R1 U2
  case q =>
    intro p t h' tk' hp F2 N2
    have hfit := fits_nat (Nat.le_trans (bis_le _ _ _ _ (Nat.zero_le _) hp) hlen)
    k_steps
    exact hret _ _ _ hp (by k_asm) (by k_asm)
theorem ir_call (B : Below A₀ base outer h₀) (F : Fr h₀ L s.heap m) (X : (hd.heap_39 w.params).In h₀) {row : Addr} {vs : List Value} {k : Nat} (N : News h₀ L s.heap ((row, listOf vs.toArray k) :: rest)) (T : Top hd.view_39 LO mean mg mb h₀) (hk : cs.kind = .function) (hdp : dp + 20 < recursionLimit) (hun : un + 60 < cLine)
   {its : List It} {v : Value} {i : It} (hoff : ∀ p ∈ rest, p.1 ≠ row) (hlen : vs.length ≤ 1000) (hits : ItsAre rest vs its) (hv : IsIt rest v i)
   (hret : ∀ p h' tk', bis (cR its i) vs.length 0 vs.length = some p → Fr h₀ L h' m → News h₀ L h' ((row, listOf (ins vs p v).toArray (k + 1)) :: rest) → Q .none { s with heap := h', toks := tk' })
   (herr : bis (cR its i) vs.length 0 vs.length = none → ∀ e g h' tk', Fr h₀ L g m → RaisedSN base g (envX cn cs L a ccd cl :: outer) e (.type "TypeError") ((row, listOf vs.toArray k) :: rest) h' → g.UpToSlots h' → E (.ref e) { s with heap := h', toks := tk' }) :
   wpAny (model PySem.Challenge.rw_pg0141_01.row.prog w) (ktrTop dp un gd cn cs L a ccd cl outer) (call (.ref 30) [.ref row, v]) Q E s := by
  refine wpAny_call ?_
  k_dflt (refine' code_def ?k1 ?k2 ?k3 ?k4 ?k5 ?kA ?kF ?kK ?k6 ?k7 ?k8 ?k9 ?kB ?_ ?c2 ?c3 ?c4 ?c5; (case kA => exact rfl); (case kF => exact rfl); (case kK => assumption); (case k1 => k_asm); (case k2 => k_asm); (case k3 => k_asm); (case k4 => k_asm); (case k5 => k_asm); (case k6 => k_is); (case k7 => k_is); (case k8 => ktr_room); (case k9 => (refine' kp_binds ?kx ?ke; (case kx => k_in); (case ke => exact fun _ => rfl))); (case c5 => decide); (case kB => exact locs rfl); (case c2 => exact rfl); (case c3 => exact rfl); (case c4 => exact rfl))
  intro g L' h1 FG F' N' B' X' T'
  (try dsimp only)
  (try k_fold)
  k_steps
  refine Halt.out ?_
  k_dflt (refine' br_call4 B' ?f X' ?n T' ?k ?d ?u (List.mem_cons_self ..) hlen (hits.mono fun p hp => List.mem_cons_of_mem _ hp) (hv.mono fun p hp => List.mem_cons_of_mem _ hp) ?q ?e)
  case f => k_asm
  case n => k_asm
  case k => exact rfl
  case d => ktr_room
  case u => ktr_units
  case e =>
    intro hn e g2 h' tk' F2 R U
    refine leave_onSN B' F2 R U (fun h'' R1 R2 U2 => ?_)
    exact herr hn _ _ _ _ FG R1 U2
  case q =>
    intro p t h' tk' hp F2 N2
    have hfit := fits_nat (Nat.le_trans (bis_le _ _ _ _ (Nat.zero_le _) hp) hlen)
    k_steps
    exact hret _ _ _ hp (by k_asm) (by k_asm)
end
end Mine
end
section
open PySem PySem.W PyProof.Rows
set_option maxRecDepth 100000
set_option maxHeartbeats 4000000
namespace Mine
theorem fill7 (w : World) (h : Heap) : (hd.heap_39 w.params).In h → PySem.Challenge.rw_pg0141_01 = PySem.Challenge.rw_pg0141_01 := by k_fill; intro _; rfl
theorem te_sub : isSubtype (.type "TypeError") (.type "TypeError") = pure true := by rw [isSubtype_type]; kernel_rfl
local macro_rules | `(tactic| walk_at "call ref") => `(tactic| (refine Halt.out ?_))
section
variable {w : World} {dp un : Nat} {gd : Option (List Code)} {cn : Str} {cs : Scope} {a : Addr} {ccd : Value} {A₀ : Around} {h₀ : Heap} {L : Addr} {m : Str → Option Value} {rest : List (Addr × Obj)} {s : Shared} {mean : ExcName → Option Value} {mg mb : Str → Option Value} {Q E : Value → Shared → Prop}
theorem told_bl (B : Below A₀ h₀ [] h₀) (F : Fr h₀ L s.heap m) (X : (hd.heap_39 w.params).In h₀) {row : Addr} {vs : List Value} {k : Nat} (N : News h₀ L s.heap ((row, listOf vs.toArray k) :: rest)) (T : Top hd.view_39 LO mean mg mb h₀) (hk : cs.kind = .function) (hdp : dp + 30 < recursionLimit) (hun : un + 80 < cLine)
   {its : List It} {v : Value} {i : It} {t0 : Tok} (hoff : ∀ p ∈ rest, p.1 ≠ row) (hlen : vs.length ≤ 1000) (hits : ItsAre rest vs its) (hv : IsIt rest v i)
   (hret : ∀ p t h' tk', bis (cL its i) vs.length 0 vs.length = some p → Fr h₀ L h' m → News h₀ L h' ((row, listOf vs.toArray k) :: rest) → Q (.int (p : Nat) t) { s with heap := h', toks := tk' })
   (href : bis (cL its i) vs.length 0 vs.length = none → ∀ t h' tk', Fr h₀ L h' m → News h₀ L h' ((row, listOf vs.toArray k) :: rest) → Q (.str (Str.ofString "refused") t) { s with heap := h', toks := tk' }) :
   wpAny (model PySem.Challenge.rw_pg0141_01.row.prog w) (ktrTop dp un gd cn cs L a ccd [] []) (call (.ref 125) [.str (Str.ofString "bisect_left") t0, .ref row, v]) Q E s := by
  refine wpAny_call ?_
  k_dflt (refine' code_defS0 B F X N T rfl ?k6 ?k7 ?k8 ?k9 ?kB ?_ hk ?c2 ?c3 ?c4 ?c5; (case k6 => k_is); (case k7 => k_is); (case k8 => ktr_room); (case k9 => exact BindsTo.of_eq rfl); (case c5 => decide); (case kB => exact locs rfl); (case c2 => exact rfl); (case c3 => exact rfl); (case c4 => exact rfl))
  intro g L' h1 FG F' N' B' X' T' D'
  (try dsimp only)
  (try k_fold)
  k_steps
  refine Halt.out ?_
  k_dflt (refine' bl_call B' F' X' N' T' rfl ?d ?u (List.mem_cons_self ..) hlen (hits.mono fun p hp => List.mem_cons_of_mem _ hp) (hv.mono fun p hp => List.mem_cons_of_mem _ hp) ?q ?e)
  case d => ktr_room
  case u => ktr_units
  case q =>
    intro p t h' tk' hp F2 N2
    exact leaveS0_ F2 N2 KtsTurn.refl (fun kF kN => hret p t _ _ hp kF kN)
  case e =>
    intro hn e g2 h' tk' F2 R U
    refine caught_SN0 R F2 B' U X T D' KtsTurn.refl (by k_is) PyProof.Rows.Boot.«TypeError» (by decide) PySem.F.isExc_TypeError PySem.F.notTuple_TypeError te_sub ?_
    intro h'' g' TU F3 N3 B3 X3 T3 D3
    clear F2 F' N' F N
    k_steps
    exact href hn _ _ _ (by k_asm) (by k_asm)
theorem told_br (B : Below A₀ h₀ [] h₀) (F : Fr h₀ L s.heap m) (X : (hd.heap_39 w.params).In h₀) {row : Addr} {vs : List Value} {k : Nat} (N : News h₀ L s.heap ((row, listOf vs.toArray k) :: rest)) (T : Top hd.view_39 LO mean mg mb h₀) (hk : cs.kind = .function) (hdp : dp + 30 < recursionLimit) (hun : un + 80 < cLine)
   {its : List It} {v : Value} {i : It} {t0 : Tok} (hoff : ∀ p ∈ rest, p.1 ≠ row) (hlen : vs.length ≤ 1000) (hits : ItsAre rest vs its) (hv : IsIt rest v i)
   (hret : ∀ p t h' tk', bis (cR its i) vs.length 0 vs.length = some p → Fr h₀ L h' m → News h₀ L h' ((row, listOf vs.toArray k) :: rest) → Q (.int (p : Nat) t) { s with heap := h', toks := tk' })
   (href : bis (cR its i) vs.length 0 vs.length = none → ∀ t h' tk', Fr h₀ L h' m → News h₀ L h' ((row, listOf vs.toArray k) :: rest) → Q (.str (Str.ofString "refused") t) { s with heap := h', toks := tk' }) :
   wpAny (model PySem.Challenge.rw_pg0141_01.row.prog w) (ktrTop dp un gd cn cs L a ccd [] []) (call (.ref 125) [.str (Str.ofString "bisect_right") t0, .ref row, v]) Q E s := by
  refine wpAny_call ?_
  k_dflt (refine' code_defS0 B F X N T rfl ?k6 ?k7 ?k8 ?k9 ?kB ?_ hk ?c2 ?c3 ?c4 ?c5; (case k6 => k_is); (case k7 => k_is); (case k8 => ktr_room); (case k9 => exact BindsTo.of_eq rfl); (case c5 => decide); (case kB => exact locs rfl); (case c2 => exact rfl); (case c3 => exact rfl); (case c4 => exact rfl))
  intro g L' h1 FG F' N' B' X' T' D'
  (try dsimp only)
  (try k_fold)
  k_steps
  refine Halt.out ?_
  k_dflt (refine' br_call B' F' X' N' T' rfl ?d ?u (List.mem_cons_self ..) hlen (hits.mono fun p hp => List.mem_cons_of_mem _ hp) (hv.mono fun p hp => List.mem_cons_of_mem _ hp) ?q ?e)
  case d => ktr_room
  case u => ktr_units
  case q =>
    intro p t h' tk' hp F2 N2
    exact leaveS0_ F2 N2 KtsTurn.refl (fun kF kN => hret p t _ _ hp kF kN)
  case e =>
    intro hn e g2 h' tk' F2 R U
    refine caught_SN0 R F2 B' U X T D' KtsTurn.refl (by k_is) PyProof.Rows.Boot.«TypeError» (by decide) PySem.F.isExc_TypeError PySem.F.notTuple_TypeError te_sub ?_
    intro h'' g' TU F3 N3 B3 X3 T3 D3
    clear F2 F' N' F N
    k_steps
    exact href hn _ _ _ (by k_asm) (by k_asm)
theorem told_il (B : Below A₀ h₀ [] h₀) (F : Fr h₀ L s.heap m) (X : (hd.heap_39 w.params).In h₀) {row : Addr} {vs : List Value} {k : Nat} (N : News h₀ L s.heap ((row, listOf vs.toArray k) :: rest)) (T : Top hd.view_39 LO mean mg mb h₀) (hk : cs.kind = .function) (hdp : dp + 30 < recursionLimit) (hun : un + 80 < cLine)
   {its : List It} {v : Value} {i : It} {t0 : Tok} (hoff : ∀ p ∈ rest, p.1 ≠ row) (hlen : vs.length ≤ 1000) (hits : ItsAre rest vs its) (hv : IsIt rest v i)
   (hret : ∀ p h' tk', bis (cL its i) vs.length 0 vs.length = some p → Fr h₀ L h' m → News h₀ L h' ((row, listOf (ins vs p v).toArray (k + 1)) :: rest) → Q (.none) { s with heap := h', toks := tk' })
   (href : bis (cL its i) vs.length 0 vs.length = none → ∀ t h' tk', Fr h₀ L h' m → News h₀ L h' ((row, listOf vs.toArray k) :: rest) → Q (.str (Str.ofString "refused") t) { s with heap := h', toks := tk' }) :
   wpAny (model PySem.Challenge.rw_pg0141_01.row.prog w) (ktrTop dp un gd cn cs L a ccd [] []) (call (.ref 125) [.str (Str.ofString "insort_left") t0, .ref row, v]) Q E s := by
  refine wpAny_call ?_
  k_dflt (refine' code_defS0 B F X N T rfl ?k6 ?k7 ?k8 ?k9 ?kB ?_ hk ?c2 ?c3 ?c4 ?c5; (case k6 => k_is); (case k7 => k_is); (case k8 => ktr_room); (case k9 => exact BindsTo.of_eq rfl); (case c5 => decide); (case kB => exact locs rfl); (case c2 => exact rfl); (case c3 => exact rfl); (case c4 => exact rfl))
  intro g L' h1 FG F' N' B' X' T' D'
  (try dsimp only)
  (try k_fold)
  k_steps
  refine Halt.out ?_
  k_dflt (refine' il_call B' F' X' N' T' rfl ?d ?u hoff hlen hits hv ?q ?e)
  case d => ktr_room
  case u => ktr_units
  case q =>
    intro p h' tk' hp F2 N2
    exact leaveS0_ F2 N2 KtsTurn.refl (fun kF kN => hret p _ _ hp kF kN)
  case e =>
    intro hn e g2 h' tk' F2 R U
    refine caught_SN0 R F2 B' U X T D' KtsTurn.refl (by k_is) PyProof.Rows.Boot.«TypeError» (by decide) PySem.F.isExc_TypeError PySem.F.notTuple_TypeError te_sub ?_
    intro h'' g' TU F3 N3 B3 X3 T3 D3
    clear F2 F' N' F N
    k_steps
    exact href hn _ _ _ (by k_asm) (by k_asm)
theorem told_ir (B : Below A₀ h₀ [] h₀) (F : Fr h₀ L s.heap m) (X : (hd.heap_39 w.params).In h₀) {row : Addr} {vs : List Value} {k : Nat} (N : News h₀ L s.heap ((row, listOf vs.toArray k) :: rest)) (T : Top hd.view_39 LO mean mg mb h₀) (hk : cs.kind = .function) (hdp : dp + 30 < recursionLimit) (hun : un + 80 < cLine)
   {its : List It} {v : Value} {i : It} {t0 : Tok} (hoff : ∀ p ∈ rest, p.1 ≠ row) (hlen : vs.length ≤ 1000) (hits : ItsAre rest vs its) (hv : IsIt rest v i)
   (hret : ∀ p h' tk', bis (cR its i) vs.length 0 vs.length = some p → Fr h₀ L h' m → News h₀ L h' ((row, listOf (ins vs p v).toArray (k + 1)) :: rest) → Q (.none) { s with heap := h', toks := tk' })
   (href : bis (cR its i) vs.length 0 vs.length = none → ∀ t h' tk', Fr h₀ L h' m → News h₀ L h' ((row, listOf vs.toArray k) :: rest) → Q (.str (Str.ofString "refused") t) { s with heap := h', toks := tk' }) :
   wpAny (model PySem.Challenge.rw_pg0141_01.row.prog w) (ktrTop dp un gd cn cs L a ccd [] []) (call (.ref 125) [.str (Str.ofString "insort_right") t0, .ref row, v]) Q E s := by
  refine wpAny_call ?_
  k_dflt (refine' code_defS0 B F X N T rfl ?k6 ?k7 ?k8 ?k9 ?kB ?_ hk ?c2 ?c3 ?c4 ?c5; (case k6 => k_is); (case k7 => k_is); (case k8 => ktr_room); (case k9 => exact BindsTo.of_eq rfl); (case c5 => decide); (case kB => exact locs rfl); (case c2 => exact rfl); (case c3 => exact rfl); (case c4 => exact rfl))
  intro g L' h1 FG F' N' B' X' T' D'
  (try dsimp only)
  (try k_fold)
  k_steps
  refine Halt.out ?_
  k_dflt (refine' ir_call B' F' X' N' T' rfl ?d ?u hoff hlen hits hv ?q ?e)
  case d => ktr_room
  case u => ktr_units
  case q =>
    intro p h' tk' hp F2 N2
    exact leaveS0_ F2 N2 KtsTurn.refl (fun kF kN => hret p _ _ hp kF kN)
  case e =>
    intro hn e g2 h' tk' F2 R U
    refine caught_SN0 R F2 B' U X T D' KtsTurn.refl (by k_is) PyProof.Rows.Boot.«TypeError» (by decide) PySem.F.isExc_TypeError PySem.F.notTuple_TypeError te_sub ?_
    intro h'' g' TU F3 N3 B3 X3 T3 D3
    clear F2 F' N' F N
    k_steps
    exact href hn _ _ _ (by k_asm) (by k_asm)
end
end Mine
end
section
open PySem PySem.W PyProof.Rows
set_option maxRecDepth 100000
set_option maxHeartbeats 4000000
namespace Mine
theorem fill8 (w : World) (h : Heap) : (hd.heap_39 w.params).In h → PySem.Challenge.rw_pg0141_01 = PySem.Challenge.rw_pg0141_01 := by k_fill; intro _; rfl
def ordOf (y : Int) : Int := if y.fmod 3 = 1 then 1000 else if y.fmod 3 = 2 then ((y.fdiv 3).fmod 7) * 250 else 500
section
variable {w : World} {dp un : Nat} {gd : Option (List Code)} {cn : Str} {cs : Scope} {a : Addr} {ccd : Value} {cl : List (Str × Addr)} {outer : List Env} {A₀ : Around} {base h₀ : Heap} {L : Addr} {m : Str → Option Value} {news : List (Addr × Obj)} {s : Shared} {mean : ExcName → Option Value} {mg mb : Str → Option Value} {Q E : Value → Shared → Prop}
theorem handler_call (B : Below A₀ base outer h₀) (F : Fr h₀ L s.heap m) (X : (hd.heap_39 w.params).In h₀) (N : News h₀ L s.heap news) (T : Top hd.view_39 LO mean mg mb h₀) (hk : cs.kind = .function) (hdp : dp + 10 < recursionLimit) (hun : un + 40 < cLine)
   {y : Int} {t0 : Tok} (hy0 : 0 ≤ y) (hy1 : y < 105)
   (hret : ∀ x dx C es n h' tk', OrdIs C es n (ordOf y) → Fr h₀ L h' m → News h₀ L h' ((x, instObj C dx) :: (dx, dictOf es n) :: news) → (∀ p ∈ news, p.1 < dx) → dx < x → Q (.ref x) { s with heap := h', toks := tk' }) :
   wpAny (model PySem.Challenge.rw_pg0141_01.row.prog w) (ktrTop dp un gd cn cs L a ccd cl outer) (call (.ref 118) [.int y t0]) Q E s := by
  refine wpAny_call ?_
  k_dflt cell_enter
  k_steps
  · refine' hret _ _ _ _ _ _ _ ?o ?f ?n ?l1 ?l2; (case f => k_asm); (case n => k_asm); (case l1 => assumption); (case l2 => assumption); (case o => (rw [show ordOf y = 1000 from by unfold ordOf; rw [if_pos (by assumption)]]; exact .http))
  · refine' hret _ _ _ _ _ _ _ ?o ?f ?n ?l1 ?l2; (case f => k_asm); (case n => k_asm); (case l1 => assumption); (case l2 => assumption); (case o => (rw [show ordOf y = (y.fdiv 3).fmod 7 * 250 from by unfold ordOf; rw [if_neg (by assumption), if_pos (by assumption)]]; exact .own))
  · refine' hret _ _ _ _ _ _ _ ?o ?f ?n ?l1 ?l2; (case f => k_asm); (case n => k_asm); (case l1 => assumption); (case l2 => assumption); (case o => (rw [show ordOf y = 500 from by unfold ordOf; rw [if_neg (by assumption), if_neg (by assumption)]]; exact .base))
end
end Mine
end
section
open PySem PySem.W PyProof.Rows PyProof.Rows.LCt PyProof.Rows.LCg
set_option maxRecDepth 100000
set_option maxHeartbeats 4000000
namespace Mine
/-- a block's turn has ended: what the test said, what is handed on -/
def TurnEnd (h₀ : Heap) (L : Addr) (m : Str → Option Value) (s : Shared) (I : Addr) (oI : Obj) (C : Addr) (oC : Obj) (D : Addr) (oD : Obj) (news : List (Addr × Obj)) (b : Bool) (k : Int) (ok : Bool) (y : Value) (s' : Shared) : Prop :=
  ok = b ∧ (ok = true → ∃ t, y = .int k t) ∧ ∃ h' tk', s' = { s with heap := h', toks := tk' } ∧ Fr h₀ L h' m ∧ News h₀ L h' ((I, oI) :: (C, oC) :: (D, oD) :: news)
theorem TurnEnd.yes {h₀ : Heap} {L : Addr} {m : Str → Option Value} {s : Shared} {I C D : Addr} {oI oC oD : Obj} {news : List (Addr × Obj)} {b : Bool} {k k' : Int} {t : Tok} {h' : Heap} {tk' : Nat} (hb : b = true) (hk : k' = k) (F : Fr h₀ L h' m) (N : News h₀ L h' ((I, oI) :: (C, oC) :: (D, oD) :: news)) :
    TurnEnd h₀ L m s I oI C oC D oD news b k true (.int k' t) { s with heap := h', toks := tk' } := ⟨hb.symm, fun _ => ⟨t, by rw [hk]⟩, h', tk', rfl, F, N⟩
theorem TurnEnd.no {h₀ : Heap} {L : Addr} {m : Str → Option Value} {s : Shared} {I C D : Addr} {oI oC oD : Obj} {news : List (Addr × Obj)} {b : Bool} {k : Int} {y : Value} {h' : Heap} {tk' : Nat} (hb : b = false) (F : Fr h₀ L h' m) (N : News h₀ L h' ((I, oI) :: (C, oC) :: (D, oD) :: news)) :
    TurnEnd h₀ L m s I oI C oC D oD news b k false y { s with heap := h', toks := tk' } := ⟨hb.symm, fun e => (nomatch e), h', tk', rfl, F, N⟩
theorem ints_snoc {ys : List Value} {ks : List Int} {k : Int} {t : Tok} (h : IntsAre ys ks) : IntsAre (ys ++ [.int k t]) (ks ++ [k]) := h.append (.cons _ _ .nil)
section
variable {prog : Program} {w : World} {A : Around} {h₀ : Heap} {L : Addr} {m : Str → Option Value} {env : Env} {s : Shared} {ct elt : PySem.Expr} {x : Str} {scope : Scope} {cl : List (Str × Addr)} {S : List (Addr × Obj) → Prop} {P : Nat → Value → Prop} {Fin : List Value → List (Addr × Obj) → Prop} {news : List (Addr × Obj)}
theorem rest_ints (ns : List Int) (p : Int → Bool) (f : Int → Int) (hP : ∀ (i : Nat) (v : Value) (n : Int), P i v → ns[i]? = some n → ∃ t, v = .int n t) (hS : S news)
    (turn : ∀ (n : Int) (t : Tok) I oI C oC D m₂ h tk ys (E' : Value → Shared → Prop), n ∈ ns → NsObj oC m₂ → m₂ x = some (.int n t) → Fr h₀ L h m → News h₀ L h ((I, oI) :: (C, oC) :: (D, lst ys) :: news) → Off3 I C D news → ((@Ne Nat I C) ∧ (@Ne Nat I D) ∧ (@Ne Nat C D)) →
      wpAny (model prog w) A (isTrue ct (compEnvC scope cl C env) (eval ct (compEnvC scope cl C env))) (fun ok s' => if ok = true then
        wpAny (model prog w) A (eval elt (compEnvC scope cl C env)) (TurnEnd h₀ L m { s with heap := h, toks := tk } I oI C oC D (lst ys) news (p n) (f n) true) E' s'
        else TurnEnd h₀ L m { s with heap := h, toks := tk } I oI C oC D (lst ys) news (p n) (f n) false .none s') E' { s with heap := h, toks := tk })
    (fin : ∀ ys, IntsAre ys ((ns.filter p).map f) → Fin ys news) :
    CompRestT prog w A h₀ L m env ct elt x scope cl s S P Fin ns.length 0 [] news := by
  have all : ∀ (k i : Nat) (ys : List Value), i + k = ns.length → IntsAre ys (((ns.take i).filter p).map f) → CompRestT prog w A h₀ L m env ct elt x scope cl s S P Fin k i ys news := by
    intro k
    induction k with
    | zero =>
      intro i ys hi hys
      refine CompRestT.zero (fin ys ?_)
      rw [show ns.take i = ns from List.take_of_length_le (by omega)] at hys
      exact hys
    | succ k ih =>
      intro i ys hi hys
      refine CompRestT.succ ?_
      intro v I oI C oC D m₂ h tk E' hv hC hx F N off ne
      have hlt : i < ns.length := by omega
      obtain ⟨t, rfl⟩ := hP i v ns[i] hv (List.getElem?_eq_getElem hlt)
      have ht : ns.take (i + 1) = ns.take i ++ [ns[i]] := by rw [List.take_add_one, List.getElem?_eq_getElem hlt]; rfl
      refine wpAny_mono (turn ns[i] t I oI C oC D m₂ h tk ys E' (List.getElem_mem hlt) hC hx F N off ne) (fun ok s' z => ?_) fun _ _ e => e
      split
      · rename_i hok
        rw [if_pos hok] at z
        refine wpAny_mono z (fun y s'' z => ?_) fun _ _ e => e
        obtain ⟨hb, hy, h', tk', rfl, F', N'⟩ := z
        obtain ⟨ty, rfl⟩ := hy rfl
        refine ⟨h', tk', news, rfl, F', N', off, hS, ih (i + 1) _ (by omega) ?_⟩
        rw [ht, List.filter_append, List.map_append, List.filter_cons, if_pos hb.symm]
        exact ints_snoc hys
      · rename_i hok
        rw [if_neg hok] at z
        obtain ⟨hb, hy, h', tk', rfl, F', N'⟩ := z
        refine ⟨h', tk', news, rfl, F', N', off, hS, ih (i + 1) _ (by omega) ?_⟩
        rw [ht, List.filter_append, List.map_append, List.filter_cons, if_neg (by rw [← hb]; exact Bool.false_ne_true)]
        simpa using hys
  exact all ns.length 0 [] (by omega) .nil
end
end Mine
end
section
open PySem PySem.W PyProof.Rows PyProof.Rows.LCt PyProof.Rows.LCg
set_option maxRecDepth 100000
set_option maxHeartbeats 4000000
namespace Mine
theorem fill9 (w : World) (h : Heap) : (hd.heap_39 w.params).In h → PySem.Challenge.rw_pg0141_01 = PySem.Challenge.rw_pg0141_01 := by k_fill; intro _; rfl
def lowN (os : List Int) (o : Int) : Nat := (os.filter (fun n => decide (n < o))).length
def highN (os : List Int) (o : Int) : Nat := (os.filter (fun n => decide (n ≤ o))).length
def askH (size : Int) : List Int := (([1, 2, 3, 4, 5] : List Int).filter (fun n => decide ((size + 1).fdiv (2 ^ n.toNat) > 0))).map (fun n => size - (size + 1).fdiv (2 ^ n.toNat))
def refH (size : Int) (ahead low : Nat) : Bool := match (askH size).filter (fun n => decide (n ≥ (low : Int))) with | [] => false | k :: _ => decide (k ≥ (ahead : Int))
/-- a place told, or 'refused' -/
def Told (o : Option Nat) (v : Value) : Prop := match o with | some p => ∃ t, v = .int (p : Int) t | none => ∃ t, v = .str (Str.ofString "refused") t
theorem lt_of_all {d : Addr} : ∀ {l : List (Addr × Obj)}, AllLt d l → ∀ p ∈ l, p.1 < d
  | [], _, _, h => nomatch h
  | _ :: _, x, _, .head _ => x.1
  | _ :: _, x, p, .tail _ h => lt_of_all x.2 p h
local macro_rules | `(tactic| walk_at "eval ListComp") => `(tactic| (refine Halt.out ?_))
local macro_rules | `(tactic| walk_at "exec Assign cons ListComp") => `(tactic| (refine Halt.out ?_))
theorem len_as {prog : Program} {w : World} {A : Around} {Q E : Value → Shared → Prop} {s : Shared} {l : Addr} {items : Array Value} {n : Nat} (hl : s.heap.IsList l items) (hn : items.size = n) (hfit : (n : Int) < 2 ^ 63)
    (h : Q (.int n (s.toks + 1)) { s with toks := s.toks + 1 + 1 }) : wpAny (model prog w) A (call (.builtin "len") [.ref l]) Q E s := by
  subst hn; exact len_list hl hfit h
local macro_rules | `(tactic| walk_at "call builtin:len") => `(tactic| (k_here; k_dflt (refine' len_as ?k1 ?k0 ?k2 ?_; (case k1 => exact News.isList (by k_asm) (by k_mem)); (case k0 => assumption); (case k2 => omega); k_whole)))
local macro_rules | `(tactic| walk_at "compareOp NotEq ref ref") => `(tactic| (refine Halt.out ?_))
local macro_rules | `(tactic| walk_at "CompSrcT") => `(tactic| (refine Halt.out ?_))
theorem pow_two {prog : Program} {w : World} {A : Around} {Q E : Value → Shared → Prop} {s : Shared} {n : Int} {t u : Tok} (h0 : 0 ≤ n) (h1 : n ≤ 5) (h : Q (.int (2 ^ n.toNat) s.toks) { s with toks := s.toks + 1 }) :
    wpAny (model prog w) A (binaryOp .Pow (.int 2 t) (.int n u)) Q E s := pow_int h0 (by have : (Builtin.Int.intBits 2 : Int) = 2 := by decide
                                                                                         rw [this]; omega) h
local macro_rules | `(tactic| walk_at "binaryOp Pow int int") => `(tactic| (refine pow_two (by assumption) (by assumption) ?_))
local macro_rules | `(tactic| walk_at "binaryOp FloorDiv int int") => `(tactic| (refine floordiv_int (by assumption) ?_ (Or.inl (PyProof.noPylong_small (by assumption)))))
local macro_rules | `(tactic| k_mem) => `(tactic| (refine List.mem_cons_of_mem _ ?_; k_mem))
local macro_rules | `(tactic| k_mem) => `(tactic| exact List.mem_cons_self ..)
local macro_rules | `(tactic| k_mem) => `(tactic| with_reducible assumption)
local macro_rules | `(tactic| k_all) => `(tactic| with_reducible assumption)
section
variable {w : World} {dp un : Nat} {gd : Option (List Code)} {cn : Str} {cs : Scope} {a : Addr} {ccd : Value} {cl : List (Str × Addr)} {outer : List Env} {A₀ : Around} {base h₀ : Heap} {L : Addr} {m : Str → Option Value} {news : List (Addr × Obj)} {s : Shared} {mean : ExcName → Option Value} {mg mb : Str → Option Value} {Q E : Value → Shared → Prop}
theorem ph_call (B : Below A₀ base outer h₀) (F : Fr h₀ L s.heap m) (X : (hd.heap_39 w.params).In h₀) (N : News h₀ L s.heap news) (T : Top hd.view_39 LO mean mg mb h₀) (hk : cs.kind = .function) (hdp : dp + 10 < recursionLimit) (hun : un + 120 < cLine)
   {ol : Addr} {ws : List Value} {ko : Nat} {os : List Int} {size order : Int} {t0 t1 : Tok} (hol : (ol, listOf ws.toArray ko) ∈ news) (hI : IntsAre ws os) (hlen : os.length ≤ 16) (hs0 : 0 ≤ size) (hs1 : size ≤ 16)
   (hret : ∀ l v1 v2 h' tk', Told (if refH size os.length (lowN os order) then none else some (lowN os order)) v1 → Told (some (highN os order)) v2 → Fr h₀ L h' m → News h₀ L h' ((l, listOf #[v1, v2] 0) :: news) → (∀ p ∈ news, p.1 < l) → Q (.ref l) { s with heap := h', toks := tk' }) :
   wpAny (model PySem.Challenge.rw_pg0141_01.row.prog w) (ktrTop dp un gd cn cs L a ccd cl outer) (call (.ref 130) [.ref ol, .int size t0, .int order t1]) Q E s := by
  refine wpAny_call ?_
  k_dflt (refine' code_defC ?k1 ?k2 ?k3 ?k4 ?k5 ?kA ?kF ?kK ?k6 ?k7 ?k8 ?k9 ?kB ?kD ?_ ?c2 ?c3 ?c4; (case kA => exact rfl); (case kF => exact rfl); (case kK => assumption); (case k1 => k_asm); (case k2 => k_asm); (case k3 => k_asm); (case k4 => k_asm); (case k5 => k_asm); (case k6 => k_is); (case k7 => k_is); (case k8 => ktr_room); (case k9 => exact BindsTo.of_eq rfl); (case kB => exact rfl); (case kD => decide +kernel); (case c2 => exact rfl); (case c3 => exact rfl); (case c4 => exact rfl))
  intro g L' h1 tk1 cells FG F' N' Y' B' X' T' l1
  k_cells Y'
  have hn1 : ∀ p ∈ news, p.1 ≠ L' + 1 := fun p hp => neN (by have := ltN (l1 p hp); omega)
  have hn2 : ∀ p ∈ news, p.1 ≠ L' + 1 + 1 := fun p hp => neN (by have := ltN (l1 p hp); omega)
  have hn3 : ∀ p ∈ news, p.1 ≠ L' + 1 + 1 + 1 := fun p hp => neN (by have := ltN (l1 p hp); omega)
  (try simp only [List.cons_append, List.nil_append] at N')
  (try dsimp only)
  (try k_fold)
  k_steps
  refine Halt.out ?_
  have hlw : ws.length = os.length := hI.length
  k_dflt (refine ListComp_T (F₀ := by k_asm) (by with_unfolding_all rfl) (by decide) (by rfl) (by decide) (by rfl) ?_)
  k_steps
  refine Halt.out ?_
  k_dflt (refine CompSrcT.ledger (by rfl) (by k_asm) (by k_asm) (show (ol, listOf ws.toArray ko) ∈ _ from by k_mem) (by rw [sizeLine_eq, List.size_toArray]; omega) (fun g2 => ?_))
  rw [List.size_toArray, hlw]
  refine rest_ints os (fun n => decide (n < order)) id ?_ (.inr ⟨_, by k_mem, rfl, _, rfl⟩) ?_ ?_
  · intro i v n hv hn
    obtain ⟨n', t, rfl, e⟩ := hI.at i v (by simpa using hv)
    rw [hn] at e; cases e; exact ⟨t, rfl⟩
  · intro n t I oI C oC D m₂ h tk ys E' hmem hC hx F2 N2 off ne
    k_steps
    · exact TurnEnd.yes (by simpa using ‹n < order›) rfl F2 N2
    · exact TurnEnd.no (by simpa using ‹¬ n < order›) F2 N2
  · intro ys hys D h tk F2 N2 off
    simp only [Off1] at off
    obtain ⟨of1, of2, of3, of4⟩ := off
    obtain ⟨low, hlow⟩ : ∃ k, k = lowN os order := ⟨_, rfl⟩
    have hyl : ys.toArray.size = low := by rw [hlow, List.size_toArray, hys.length, List.length_map]; rfl
    have hlowb : low ≤ os.length := by rw [hlow]; exact List.length_filter_le ..
    clear hys
    k_steps
    refine Halt.out ?_
    k_dflt (refine ListComp_T (F₀ := by k_asm) (by with_unfolding_all rfl) (by decide) (by rfl) (by decide) (by rfl) ?_)
    k_steps
    refine Halt.out ?_
    k_dflt (refine CompSrcT.ledger (by rfl) (by k_asm) (by k_asm) (show (ol, listOf ws.toArray ko) ∈ _ from by k_mem) (by rw [sizeLine_eq, List.size_toArray]; omega) (fun g2 => ?_))
    rw [List.size_toArray, hlw]
    refine rest_ints os (fun n => decide (n ≤ order)) id ?_ (.inr ⟨_, by k_mem, rfl, _, rfl⟩) ?_ ?_
    · intro i v n hv hn
      obtain ⟨n', t, rfl, e⟩ := hI.at i v (by simpa using hv)
      rw [hn] at e; cases e; exact ⟨t, rfl⟩
    · intro n t I oI C oC D m₂ h tk ys E' hmem hC hx F3 N3 off ne
      k_steps
      · exact TurnEnd.yes (by simpa using ‹n ≤ order›) rfl F3 N3
      · exact TurnEnd.no (by simpa using ‹¬ n ≤ order›) F3 N3
    intro ys2 hys2 D2 h2 tk2 F3 N3 off
    obtain ⟨high, hhigh⟩ : ∃ k, k = highN os order := ⟨_, rfl⟩
    have hyl2 : ys2.toArray.size = high := by rw [hhigh, List.size_toArray, hys2.length, List.length_map]; rfl
    have hhighb : high ≤ os.length := by rw [hhigh]; exact List.length_filter_le ..
    clear hys2
    k_steps
    refine Halt.out ?_
    k_dflt (refine Assign_ListComp_T (F₀ := by k_asm) (by rfl) (by with_unfolding_all rfl) (by with_unfolding_all rfl) (by decide) (by rfl) (by decide) (by rfl) (by rfl) (by rfl) ?_)
    k_steps
    refine Halt.out ?_
    k_dflt (refine CompSrcT.range (n := 5) (by rfl) (by k_asm) (by k_asm) (by assumption) (by decide) (by rfl) (by rw [sizeLine_eq]; decide) (fun g2 => ?_))
    refine rest_ints [1, 2, 3, 4, 5] (fun n => decide ((size + 1).fdiv (2 ^ n.toNat) > 0)) (fun n => size - (size + 1).fdiv (2 ^ n.toNat)) ?_ trivial ?_ ?_
    · rintro i v n ⟨t, rfl⟩ hn
      refine ⟨t, ?_⟩
      rcases i with _ | _ | _ | _ | _ | i <;> simp at hn <;> subst hn <;> rfl
    · intro n t I oI C oC D m₂ h tk ys E' hmem hC hx F3 N3 off ne
      have hb1 : 1 ≤ n ∧ n ≤ 5 := by
        simp only [List.mem_cons, List.mem_nil_iff, or_false] at hmem
        omega
      obtain ⟨hb1, hb5⟩ := hb1
      have hb0 : 0 ≤ n := by omega
      clear hmem
      have hpn : (2 : Int) ^ n.toNat ≠ 0 := Int.ne_of_gt (Int.pow_pos (by decide))
      have hpy : ((2 : Int) ^ n.toNat).natAbs < 1073741824 := by
        have : n.toNat = 1 ∨ n.toNat = 2 ∨ n.toNat = 3 ∨ n.toNat = 4 ∨ n.toNat = 5 := by omega
        rcases this with e | e | e | e | e <;> rw [e] <;> decide
      k_steps
      · exact TurnEnd.yes (decide_eq_true (by assumption)) rfl F3 N3
      · exact TurnEnd.no (decide_eq_false (by assumption)) F3 N3
    intro ys3 hys3 D3 h3 tk3 F4 N4 off3
    obtain ⟨ask, hask⟩ : ∃ l, l = askH size := ⟨_, rfl⟩
    rw [show List.map (fun n : Int => size - (size + 1).fdiv (2 ^ n.toNat)) (List.filter (fun n : Int => decide ((size + 1).fdiv (2 ^ n.toNat) > 0)) [1, 2, 3, 4, 5]) = ask from hask.symm] at hys3
    have hkl : ask.length ≤ 5 := by rw [hask, askH, List.length_map]; exact List.length_filter_le ..
    have hlw3 : ys3.length = ask.length := hys3.length
    k_steps
    refine Halt.out ?_
    k_dflt (refine ListComp_T (F₀ := by k_asm) (by with_unfolding_all rfl) (by decide) (by rfl) (by decide) (by rfl) ?_)
    k_steps
    refine Halt.out ?_
    k_dflt (refine CompSrcT.ledger (by rfl) (by k_asm) (by k_asm) (show (D3, listOf ys3.toArray ys3.length) ∈ _ from by k_mem) (by rw [sizeLine_eq, List.size_toArray]; omega) (fun g2 => ?_))
    rw [List.size_toArray, hlw3]
    refine rest_ints ask (fun n => decide (n ≥ (low : Int))) id ?_ (.inr ⟨_, by k_mem, rfl, _, rfl⟩) ?_ ?_
    · intro i v n hv hn
      obtain ⟨n', t, rfl, e⟩ := hys3.at i v (by simpa using hv)
      rw [hn] at e; cases e; exact ⟨t, rfl⟩
    · intro n t I oI C oC D m₂ h tk ys E' hmem hC hx F3 N3 off ne
      k_steps
      · exact TurnEnd.yes (decide_eq_true (by assumption)) rfl F3 N3
      · exact TurnEnd.no (decide_eq_false (by assumption)) F3 N3
    intro ys4 hys4 D4 h4 tk4 F5 N5 off4
    have hwsz : ws.toArray.size = os.length := by rw [List.size_toArray, hlw]
    simp only [List.map_id] at hys4
    obtain ⟨fl, hfl⟩ : ∃ l, l = ask.filter (fun n => decide (n ≥ (low : Int))) := ⟨_, rfl⟩
    rw [← hfl] at hys4
    have hflb : fl.length ≤ 5 := by rw [hfl]; exact Nat.le_trans (List.length_filter_le ..) hkl
    have hysl : ys4.length = fl.length := hys4.length
    k_steps
    rename IntsAre _ (List.take 1 _) => hI4
    refine Halt.out ?_
    k_dflt (refine' ne_intsK (us := []) (News.isList ?n1 ?m1) hI4 (News.isList ?n2 ?m2) .nil ?u ?_; (case n1 => k_asm); (case m1 => k_mem); (case n2 => k_asm); (case m2 => k_mem); (case u => ktr_units))
    cases fl with
    | nil =>
      obtain rfl := IntsAre.nil_inv hI4
      simp only [List.take_nil, decide_true, Bool.not_true]
      k_steps
      refine' hret _ _ _ _ _ ?o1 ?o2 ?f ?n ?l
      case f => k_asm
      case n =>
        refine' cb_drop ?cbN ?cbS
        case cbN => assumption
        case cbS =>
          intro p hp
          rcases List.mem_cons.mp hp with rfl | hp
          · exact List.mem_cons_self ..
          · repeat (first | exact hp | refine List.mem_cons_of_mem _ ?_)
      case l => exact lt_of_all (by rename (_ < _ ∧ _) => z; repeat (first | exact z | replace z := z.2))
      case o1 =>
        have hr : refH size os.length (lowN os order) = false := by unfold refH; rw [← hask, ← hlow, ← hfl]
        rw [hr, ← hlow]; exact ⟨_, rfl⟩
      case o2 => rw [← hhigh]; exact ⟨_, rfl⟩
    | cons k r =>
      obtain ⟨t4, ws2, rfl, h5⟩ := IntsAre.cons_inv hI4
      obtain rfl := IntsAre.nil_inv h5
      simp only [List.take_succ_cons, List.take_zero, reduceCtorEq, decide_false, Bool.not_false]
      have hr : refH size os.length (lowN os order) = decide (k ≥ (os.length : Int)) := by unfold refH; rw [← hask, ← hlow, ← hfl]
      k_steps
      all_goals (
        refine' hret _ _ _ _ _ ?o1 ?o2 ?f ?n ?l
        case f => k_asm
        case n =>
          refine' cb_drop ?cbN ?cbS
          case cbN => assumption
          case cbS =>
            intro p hp
            rcases List.mem_cons.mp hp with rfl | hp
            · exact List.mem_cons_self ..
            · repeat (first | exact hp | refine List.mem_cons_of_mem _ ?_)
        case l => exact lt_of_all (by rename (_ < _ ∧ _) => z; repeat (first | exact z | replace z := z.2))
        case o1 =>
          rw [hr]
          first
            | (rw [decide_eq_true (by assumption), if_pos rfl]; exact ⟨_, rfl⟩)
            | (rw [decide_eq_false (by assumption), if_neg Bool.false_ne_true, ← hlow]; exact ⟨_, rfl⟩)
        case o2 => rw [← hhigh]; exact ⟨_, rfl⟩)
end
end Mine
end
section
open PySem PySem.W PyProof.Rows PyProof.Rows.LCt PyProof.Rows.LCg
set_option maxRecDepth 100000
set_option maxHeartbeats 4000000
namespace Mine
theorem fill10 (w : World) (h : Heap) : (hd.heap_39 w.params).In h → PySem.Challenge.rw_pg0141_01 = PySem.Challenge.rw_pg0141_01 := by k_fill; intro _; rfl
section
variable {prog : Program} {w : World} {A : Around} {h₀ : Heap} {L : Addr} {m : Str → Option Value} {env : Env} {s : Shared} {elt : PySem.Expr} {x : Str} {scope : Scope} {cl : List (Str × Addr)} {S : List (Addr × Obj) → Prop} {P : Nat → Value → Prop} {Fin : List Value → List (Addr × Obj) → Prop} {news : List (Addr × Obj)}
theorem rest_map (ns : List Int) (f : Int → Int) (hP : ∀ (i : Nat) (v : Value) (n : Int), P i v → ns[i]? = some n → ∃ t, v = .int n t) (hS : S news)
    (turn : ∀ (n : Int) (t : Tok) I oI C oC D m₂ h tk ys (E' : Value → Shared → Prop), n ∈ ns → NsObj oC m₂ → m₂ x = some (.int n t) → Fr h₀ L h m → News h₀ L h ((I, oI) :: (C, oC) :: (D, lst ys) :: news) → Off3 I C D news → ((@Ne Nat I C) ∧ (@Ne Nat I D) ∧ (@Ne Nat C D)) →
      wpAny (model prog w) A (eval elt (compEnvC scope cl C env)) (TurnEnd h₀ L m { s with heap := h, toks := tk } I oI C oC D (lst ys) news true (f n) true) E' { s with heap := h, toks := tk })
    (fin : ∀ ys, IntsAre ys (ns.map f) → Fin ys news) :
    CompRest prog w A h₀ L m env elt x scope cl s S P Fin ns.length 0 [] news := by
  have all : ∀ (k i : Nat) (ys : List Value), i + k = ns.length → IntsAre ys ((ns.take i).map f) → CompRest prog w A h₀ L m env elt x scope cl s S P Fin k i ys news := by
    intro k
    induction k with
    | zero =>
      intro i ys hi hys
      refine CompRest.zero (fin ys ?_)
      rw [show ns.take i = ns from List.take_of_length_le (by omega)] at hys
      exact hys
    | succ k ih =>
      intro i ys hi hys
      refine CompRest.succ ?_
      intro v I oI C oC D m₂ h tk E' hv hC hx F N off ne
      have hlt : i < ns.length := by omega
      obtain ⟨t, rfl⟩ := hP i v ns[i] hv (List.getElem?_eq_getElem hlt)
      have ht : ns.take (i + 1) = ns.take i ++ [ns[i]] := by rw [List.take_add_one, List.getElem?_eq_getElem hlt]; rfl
      refine wpAny_mono (turn ns[i] t I oI C oC D m₂ h tk ys E' (List.getElem_mem hlt) hC hx F N off ne) (fun y s'' z => ?_) fun _ _ e => e
      obtain ⟨hb, hy, h', tk', rfl, F', N'⟩ := z
      obtain ⟨ty, rfl⟩ := hy rfl
      refine ⟨h', tk', news, rfl, F', N', off, hS, ih (i + 1) _ (by omega) ?_⟩
      rw [ht, List.map_append]
      exact ints_snoc hys
  exact all ns.length 0 [] (by omega) .nil
end
def askN (n : Int) : List Int := ([1, 2, 3, 4, 5] : List Int).map (fun j => n.fdiv (2 ^ j.toNat))
def hdLt (ahead : Nat) : List Int → Bool | [] => false | k :: _ => decide (k < (ahead : Int))
def refN (n : Int) (ahead high : Nat) : Bool := hdLt ahead ((askN n).filter (fun k => decide (k < (high : Int))))
local macro_rules | `(tactic| walk_at "eval ListComp") => `(tactic| (refine Halt.out ?_))
local macro_rules | `(tactic| walk_at "exec Assign cons ListComp") => `(tactic| (refine Halt.out ?_))
local macro_rules | `(tactic| walk_at "call builtin:len") => `(tactic| (k_here; k_dflt (refine' len_as ?k1 ?k0 ?k2 ?_; (case k1 => exact News.isList (by k_asm) (by k_mem)); (case k0 => assumption); (case k2 => omega); k_whole)))
local macro_rules | `(tactic| walk_at "compareOp NotEq ref ref") => `(tactic| (refine Halt.out ?_))
local macro_rules | `(tactic| walk_at "CompSrcT") => `(tactic| (refine Halt.out ?_))
local macro_rules | `(tactic| walk_at "binaryOp Pow int int") => `(tactic| (refine pow_two (by assumption) (by assumption) ?_))
local macro_rules | `(tactic| walk_at "binaryOp FloorDiv int int") => `(tactic| (refine floordiv_int (by assumption) ?_ (Or.inl (PyProof.noPylong_small (by assumption)))))
local macro_rules | `(tactic| k_mem) => `(tactic| (refine List.mem_cons_of_mem _ ?_; k_mem))
local macro_rules | `(tactic| k_mem) => `(tactic| exact List.mem_cons_self ..)
local macro_rules | `(tactic| k_mem) => `(tactic| with_reducible assumption)
local macro_rules | `(tactic| k_all) => `(tactic| with_reducible assumption)
local macro_rules | `(tactic| walk_at "CompSrc") => `(tactic| (refine Halt.out ?_))
section
variable {w : World} {dp un : Nat} {gd : Option (List Code)} {cn : Str} {cs : Scope} {a : Addr} {ccd : Value} {cl : List (Str × Addr)} {outer : List Env} {A₀ : Around} {base h₀ : Heap} {L : Addr} {m : Str → Option Value} {news : List (Addr × Obj)} {s : Shared} {mean : ExcName → Option Value} {mg mb : Str → Option Value} {Q E : Value → Shared → Prop}
theorem pn_call (B : Below A₀ base outer h₀) (F : Fr h₀ L s.heap m) (X : (hd.heap_39 w.params).In h₀) (N : News h₀ L s.heap news) (T : Top hd.view_39 LO mean mg mb h₀) (hk : cs.kind = .function) (hdp : dp + 10 < recursionLimit) (hun : un + 120 < cLine)
   {ol : Addr} {ws : List Value} {ko : Nat} {os : List Int} {ahead : Nat} {number : Int} {t0 t1 : Tok} (hol : (ol, listOf ws.toArray ko) ∈ news) (hI : IntsAre ws os) (hlen : os.length ≤ 16) (hs1 : ahead ≤ 16)
   (hret : ∀ l v1 v2 h' tk', Told (some (ahead + lowN os number)) v1 → Told (if refN ((ahead : Int) + os.length) ahead (ahead + highN os number) then none else some (ahead + highN os number)) v2 → Fr h₀ L h' m → News h₀ L h' ((l, listOf #[v1, v2] 0) :: news) → (∀ p ∈ news, p.1 < l) → Q (.ref l) { s with heap := h', toks := tk' }) :
   wpAny (model PySem.Challenge.rw_pg0141_01.row.prog w) (ktrTop dp un gd cn cs L a ccd cl outer) (call (.ref 135) [.int (ahead : Int) t0, .ref ol, .int number t1]) Q E s := by
  refine wpAny_call ?_
  k_dflt (refine' code_defC ?k1 ?k2 ?k3 ?k4 ?k5 ?kA ?kF ?kK ?k6 ?k7 ?k8 ?k9 ?kB ?kD ?_ ?c2 ?c3 ?c4; (case kA => exact rfl); (case kF => exact rfl); (case kK => assumption); (case k1 => k_asm); (case k2 => k_asm); (case k3 => k_asm); (case k4 => k_asm); (case k5 => k_asm); (case k6 => k_is); (case k7 => k_is); (case k8 => ktr_room); (case k9 => exact BindsTo.of_eq rfl); (case kB => exact rfl); (case kD => decide +kernel); (case c2 => exact rfl); (case c3 => exact rfl); (case c4 => exact rfl))
  intro g L' h1 tk1 cells FG F' N' Y' B' X' T' l1
  k_cells Y'
  have hn1 : ∀ p ∈ news, p.1 ≠ L' + 1 := fun p hp => neN (by have := ltN (l1 p hp); omega)
  have hn2 : ∀ p ∈ news, p.1 ≠ L' + 1 + 1 := fun p hp => neN (by have := ltN (l1 p hp); omega)
  have hn3 : ∀ p ∈ news, p.1 ≠ L' + 1 + 1 + 1 := fun p hp => neN (by have := ltN (l1 p hp); omega)
  have hn4 : ∀ p ∈ news, p.1 ≠ L' + 1 + 1 + 1 + 1 := fun p hp => neN (by have := ltN (l1 p hp); omega)
  (try simp only [List.cons_append, List.nil_append] at N')
  (try dsimp only)
  (try k_fold)
  have hlw : ws.length = os.length := hI.length
  have hwsz : ws.toArray.size = os.length := by rw [List.size_toArray, hlw]
  k_steps
  refine Halt.out ?_
  k_dflt (refine ListComp_T (F₀ := by k_asm) (by with_unfolding_all rfl) (by decide) (by rfl) (by decide) (by rfl) ?_)
  k_steps
  refine Halt.out ?_
  k_dflt (refine CompSrcT.ledger (by rfl) (by k_asm) (by k_asm) (show (ol, listOf ws.toArray ko) ∈ _ from by k_mem) (by rw [sizeLine_eq, List.size_toArray]; omega) (fun g2 => ?_))
  rw [List.size_toArray, hlw]
  refine rest_ints os (fun n => decide (n < number)) id ?_ (.inr ⟨_, by k_mem, rfl, _, rfl⟩) ?_ ?_
  · intro i v n hv hn
    obtain ⟨n', t, rfl, e⟩ := hI.at i v (by simpa using hv)
    rw [hn] at e; cases e; exact ⟨t, rfl⟩
  · intro n t I oI C oC D m₂ h tk ys E' hmem hC hx F2 N2 off ne
    k_steps
    · exact TurnEnd.yes (decide_eq_true (by assumption)) rfl F2 N2
    · exact TurnEnd.no (decide_eq_false (by assumption)) F2 N2
  intro ys hys D h tk F2 N2 off
  simp only [Off1] at off
  obtain ⟨of1, of2, of3, of5, of4⟩ := off
  obtain ⟨low, hlow⟩ : ∃ k, k = lowN os number := ⟨_, rfl⟩
  have hyl : ys.toArray.size = low := by rw [hlow, List.size_toArray, hys.length, List.length_map]; rfl
  have hlowb : low ≤ os.length := by rw [hlow]; exact List.length_filter_le ..
  clear hys
  k_steps
  refine Halt.out ?_
  k_dflt (refine ListComp_T (F₀ := by k_asm) (by with_unfolding_all rfl) (by decide) (by rfl) (by decide) (by rfl) ?_)
  k_steps
  refine Halt.out ?_
  k_dflt (refine CompSrcT.ledger (by rfl) (by k_asm) (by k_asm) (show (ol, listOf ws.toArray ko) ∈ _ from by k_mem) (by rw [sizeLine_eq, List.size_toArray]; omega) (fun g2 => ?_))
  rw [List.size_toArray, hlw]
  refine rest_ints os (fun n => decide (n ≤ number)) id ?_ (.inr ⟨_, by k_mem, rfl, _, rfl⟩) ?_ ?_
  · intro i v n hv hn
    obtain ⟨n', t, rfl, e⟩ := hI.at i v (by simpa using hv)
    rw [hn] at e; cases e; exact ⟨t, rfl⟩
  · intro n t I oI C oC D m₂ h tk ys E' hmem hC hx F3 N3 off ne
    k_steps
    · exact TurnEnd.yes (decide_eq_true (by assumption)) rfl F3 N3
    · exact TurnEnd.no (decide_eq_false (by assumption)) F3 N3
  intro ys2 hys2 D2 h2 tk2 F3 N3 off
  simp only [Off1] at off
  obtain ⟨og0, og1, og2, og3, og5, og4⟩ := off
  obtain ⟨high, hhigh⟩ : ∃ k, k = highN os number := ⟨_, rfl⟩
  have hyl2 : ys2.toArray.size = high := by rw [hhigh, List.size_toArray, hys2.length, List.length_map]; rfl
  have hhighb : high ≤ os.length := by rw [hhigh]; exact List.length_filter_le ..
  clear hys2
  k_steps
  refine Halt.out ?_
  k_dflt (refine Assign_ListComp_U (F₀ := by k_asm) (by rfl) (by with_unfolding_all rfl) (by with_unfolding_all rfl) (by decide) (by rfl) (by decide) (by rfl) (by rfl) (by rfl) ?_)
  k_steps
  refine Halt.out ?_
  k_dflt (refine CompSrc.range (n := 5) (by rfl) (by k_asm) (by k_asm) (by assumption) (by decide) (by rfl) (by rw [sizeLine_eq]; decide) (fun g2 => ?_))
  refine rest_map [1, 2, 3, 4, 5] (fun n => ((ahead : Int) + os.length).fdiv (2 ^ n.toNat)) ?_ trivial ?_ ?_
  · rintro i v n ⟨t, rfl⟩ hn
    refine ⟨t, ?_⟩
    rcases i with _ | _ | _ | _ | _ | i <;> simp at hn <;> subst hn <;> rfl
  · intro n t I oI C oC D m₂ h tk ys E' hmem hC hx F3 N3 off ne
    have hb1 : 1 ≤ n ∧ n ≤ 5 := by
      simp only [List.mem_cons, List.mem_nil_iff, or_false] at hmem
      omega
    obtain ⟨hb1, hb5⟩ := hb1
    have hb0 : 0 ≤ n := by omega
    clear hmem
    have hpn : (2 : Int) ^ n.toNat ≠ 0 := Int.ne_of_gt (Int.pow_pos (by decide))
    have hpy : ((2 : Int) ^ n.toNat).natAbs < 1073741824 := by
      have : n.toNat = 1 ∨ n.toNat = 2 ∨ n.toNat = 3 ∨ n.toNat = 4 ∨ n.toNat = 5 := by omega
      rcases this with e | e | e | e | e <;> rw [e] <;> decide
    k_steps
    exact TurnEnd.yes rfl rfl F3 N3
  intro ys3 hys3 D3 h3 tk3 F4 N4 off3
  obtain ⟨ask, hask⟩ : ∃ l, l = askN ((ahead : Int) + os.length) := ⟨_, rfl⟩
  rw [show List.map (fun n : Int => ((ahead : Int) + os.length).fdiv (2 ^ n.toNat)) [1, 2, 3, 4, 5] = ask from hask.symm] at hys3
  have hkl : ask.length ≤ 5 := by rw [hask, askN, List.length_map]; exact Nat.le_refl _
  have hlw3 : ys3.length = ask.length := hys3.length
  k_steps
  refine Halt.out ?_
  k_dflt (refine ListComp_T (F₀ := by k_asm) (by with_unfolding_all rfl) (by decide) (by rfl) (by decide) (by rfl) ?_)
  k_steps
  refine Halt.out ?_
  k_dflt (refine CompSrcT.ledger (by rfl) (by k_asm) (by k_asm) (show (D3, listOf ys3.toArray ys3.length) ∈ _ from by k_mem) (by rw [sizeLine_eq, List.size_toArray]; omega) (fun g2 => ?_))
  rw [List.size_toArray, hlw3]
  refine rest_ints ask (fun n => decide (n < (ahead : Int) + (high : Int))) id ?_ (.inr ⟨_, by k_mem, rfl, _, rfl⟩) ?_ ?_
  · intro i v n hv hn
    obtain ⟨n', t, rfl, e⟩ := hys3.at i v (by simpa using hv)
    rw [hn] at e; cases e; exact ⟨t, rfl⟩
  · intro n t I oI C oC D m₂ h tk ys E' hmem hC hx F3 N3 off ne
    k_steps
    · exact TurnEnd.yes (decide_eq_true (by assumption)) rfl F3 N3
    · exact TurnEnd.no (decide_eq_false (by assumption)) F3 N3
  intro ys4 hys4 D4 h4 tk4 F5 N5 off4
  simp only [List.map_id] at hys4
  obtain ⟨fl, hfl⟩ : ∃ l, l = ask.filter (fun n => decide (n < (ahead : Int) + (high : Int))) := ⟨_, rfl⟩
  rw [← hfl] at hys4
  have hflb : fl.length ≤ 5 := by rw [hfl]; exact Nat.le_trans (List.length_filter_le ..) hkl
  have hysl : ys4.length = fl.length := hys4.length
  k_steps
  rename IntsAre _ (List.take 1 _) => hI4
  refine Halt.out ?_
  k_dflt (refine' ne_intsK (us := []) (News.isList ?n1 ?m1) hI4 (News.isList ?n2 ?m2) .nil ?u ?_; (case n1 => k_asm); (case m1 => k_mem); (case n2 => k_asm); (case m2 => k_mem); (case u => ktr_units))
  have hre : refN ((ahead : Int) + os.length) ahead (ahead + highN os number) = hdLt ahead fl := by
    unfold refN; rw [← hask, ← hhigh, Int.natCast_add, ← hfl]
  cases fl with
  | nil =>
    obtain rfl := IntsAre.nil_inv hI4
    simp only [List.take_nil, decide_true, Bool.not_true]
    k_steps
    refine' hret _ _ _ _ _ ?o1 ?o2 ?zf ?zn ?zl
    case zf => k_asm
    case zn =>
      refine' cb_drop ?cbN ?cbS
      case cbN => assumption
      case cbS =>
        intro p hp
        rcases List.mem_cons.mp hp with rfl | hp
        · exact List.mem_cons_self ..
        · repeat (first | exact hp | refine List.mem_cons_of_mem _ ?_)
    case zl => exact lt_of_all (by rename (_ < _ ∧ _) => z; repeat (first | exact z | replace z := z.2))
    case o1 => rw [← hlow]; exact ⟨_, by rw [Int.natCast_add]⟩
    case o2 => rw [hre, hdLt, ← hhigh]; exact ⟨_, by rw [Int.natCast_add]⟩
  | cons k r =>
    obtain ⟨t4, ws2, rfl, h5⟩ := IntsAre.cons_inv hI4
    obtain rfl := IntsAre.nil_inv h5
    simp only [List.take_succ_cons, List.take_zero, reduceCtorEq, decide_false, Bool.not_false]
    k_steps
    all_goals (
      refine' hret _ _ _ _ _ ?o1 ?o2 ?zf ?zn ?zl
      case zf => k_asm
      case zn =>
        refine' cb_drop ?cbN ?cbS
        case cbN => assumption
        case cbS =>
          intro p hp
          rcases List.mem_cons.mp hp with rfl | hp
          · exact List.mem_cons_self ..
          · repeat (first | exact hp | refine List.mem_cons_of_mem _ ?_)
      case zl => exact lt_of_all (by rename (_ < _ ∧ _) => z; repeat (first | exact z | replace z := z.2))
      case o1 => rw [← hlow]; exact ⟨_, by rw [Int.natCast_add]⟩
      case o2 =>
        rw [hre, hdLt]
        first
          | (rw [decide_eq_true (by assumption), if_pos rfl]; exact ⟨_, rfl⟩)
          | (rw [decide_eq_false (by assumption), if_neg Bool.false_ne_true, ← hhigh]; exact ⟨_, by rw [Int.natCast_add]⟩))
end
end Mine
end
section
open PySem PySem.W PyProof.Rows
set_option maxRecDepth 100000
set_option maxHeartbeats 4000000
namespace Mine
theorem fill11 (w : World) (h : Heap) : (hd.heap_39 w.params).In h → PySem.Challenge.rw_pg0141_01 = PySem.Challenge.rw_pg0141_01 := by k_fill; intro _; rfl
/-- a turn over pairs has ended -/
def PEnd (h₀ : Heap) (L : Addr) (s : Shared) (all : List (Addr × Obj)) (P : (Str → Option Value) → Prop) (fl : Flow) (s' : Shared) : Prop :=
  fl = .next ∧ ∃ h' tk' m', s' = { s with heap := h', toks := tk' } ∧ Fr h₀ L h' m' ∧ News h₀ L h' all ∧ P m'
section
variable {prog : Program} {w : World} {A : Around} {E : Value → Shared → Prop} {h₀ : Heap} {env : Env} {target : PySem.Expr} {body : List Stmt} {Q : Flow → Shared → Prop} {s : Shared} {ws : List (Addr × String)} {keep news : List (Addr × Obj)}
theorem same_rest (P : (Str → Option Value) → Prop) (hk : SubL keep news) (hoff : ∀ p ∈ news, ∀ q ∈ ws, p.1 ≠ q.1)
    (fin : ∀ m h tk, P m → Fr h₀ env.locals h m → News h₀ env.locals h news → Q .next { s with heap := h, toks := tk }) :
    ∀ (vs : List Value)
    (htn : ∀ v ∈ vs, ∀ T h tk m its, P m → IsTup h T #[v, v] → Fr h₀ env.locals h m → News h₀ env.locals h (its ++ news) →
      wpAny (model prog w) A (assign target env (.ref T)) (fun _ s₂ => wpAny (model prog w) A (execs body env) (PEnd h₀ env.locals { s with heap := h, toks := tk } (its ++ news) P) E s₂) E { s with heap := h, toks := tk })
    (m : Str → Option Value), P m → ItemsRest prog w A E h₀ env target body Q s ws keep (zipItems vs vs) m news := by
  intro vs
  induction vs with
  | nil => intro _ m hP; exact ItemsRest.zero fun h tk F N => fin m h tk hP F N
  | cons v r ih =>
    intro turn m hP
    refine ItemsRest.pair (fun T t h tk hT F => ?_)
    have gen : ∀ (ws' : List (Addr × String)) (pre : List (Addr × Obj)), (∀ p ∈ news, ∀ q ∈ pre, p.1 ≠ q.1) → (∀ p ∈ news, ∀ q ∈ ws', p.1 ≠ q.1) →
        AllObj ws' (fun its => News h₀ env.locals h ((pre ++ its) ++ news) →
          wpAny (model prog w) A (assign target env (.ref T)) (fun _ s₂ => wpAny (model prog w) A (execs body env) (UnrPostW h₀ env.locals { s with heap := h, toks := tk } (pre ++ its) (fun m' n' => SubL keep n' ∧ ItemsRest prog w A E h₀ env target body Q s ws keep (zipItems r r) m' n') Q) E s₂) E { s with heap := h, toks := tk }) := by
      intro ws'
      induction ws' with
      | nil =>
        intro pre hp _
        refine AllObj.nil (fun N => ?_)
        refine wpAny_mono (turn v (List.mem_cons_self ..) T h tk m _ hP hT F N) (fun _ s₂ z => wpAny_mono z (fun fl s₃ z => ?_) fun _ _ e => e) fun _ _ e => e
        obtain ⟨rfl, h', tk', m', rfl, F', N', hP'⟩ := z
        refine ⟨h', tk', m', news, rfl, F', N', fun p hp' q hq => ?_, hk, ih (fun v hv => turn v (List.mem_cons_of_mem _ hv)) m' hP'⟩
        rw [List.append_nil] at hq
        exact hp p hp' q hq
      | cons w' ws' ihw =>
        intro pre hp hq
        refine AllObj.cons (fun o ho => ?_)
        have := ihw (pre ++ [(w'.1, o)]) (fun p hp' q hq' => by
          rcases List.mem_append.mp hq' with h1 | h1
          · exact hp p hp' q h1
          · rw [List.mem_singleton.mp h1]; exact hq p hp' w' (List.mem_cons_self ..)) (fun p hp' q hq' => hq p hp' q (List.mem_cons_of_mem _ hq'))
        simpa only [List.append_assoc, List.singleton_append] using this
    exact gen ws [] (fun _ _ _ h => nomatch h) hoff
end
end Mine
end
section
open PySem PySem.W PyProof.Rows
set_option maxRecDepth 100000
set_option maxHeartbeats 4000000
namespace Mine
theorem fill12 (w : World) (h : Heap) : (hd.heap_39 w.params).In h → PySem.Challenge.rw_pg0141_01 = PySem.Challenge.rw_pg0141_01 := by k_fill; intro _; rfl
local macro_rules | `(tactic| walk_at "exec For") => `(tactic| (refine Halt.out ?_))
local macro_rules | `(tactic| walk_at "exec For Tuple Call cons nil") => `(tactic| (refine Halt.out ?_))
local macro_rules | `(tactic| walk_at "call type:zip") => `(tactic| (refine Halt.out ?_))
local macro_rules | `(tactic| walk_at "call builtin:len") => `(tactic| (k_here; k_dflt (refine' len_list ?k1 ?k2 ?_; (case k1 => exact News.isList (by k_asm) (by k_mem)); (case k2 => (simp only [List.size_toArray]; omega)); k_whole)))
local macro_rules | `(tactic| k_mem) => `(tactic| exact List.mem_append_right _ (by with_reducible assumption))
local macro_rules | `(tactic| k_mem) => `(tactic| with_reducible assumption)
section
variable {w : World} {dp un : Nat} {gd : Option (List Code)} {cn : Str} {cs : Scope} {a : Addr} {ccd : Value} {cl : List (Str × Addr)} {outer : List Env} {A₀ : Around} {base h₀ : Heap} {L : Addr} {m : Str → Option Value} {news : List (Addr × Obj)} {s : Shared} {mean : ExcName → Option Value} {mg mb : Str → Option Value} {Q E : Value → Shared → Prop}
theorem same_call (B : Below A₀ base outer h₀) (F : Fr h₀ L s.heap m) (X : (hd.heap_39 w.params).In h₀) (N : News h₀ L s.heap news) (T : Top hd.view_39 LO mean mg mb h₀) (hk : cs.kind = .function) (hdp : dp + 10 < recursionLimit) (hun : un + 120 < cLine)
   {row due : Addr} {vs : List Value} {k1 k2 : Nat} {its : List It} (hrow : (row, listOf vs.toArray k1) ∈ news) (hdue : (due, listOf vs.toArray k2) ∈ news) (hlen : vs.length ≤ 1000) (hits : ItsAre news vs its)
   (hret : ∀ h' tk', Fr h₀ L h' m → News h₀ L h' news → Q (.bool true) { s with heap := h', toks := tk' }) :
   wpAny (model PySem.Challenge.rw_pg0141_01.row.prog w) (ktrTop dp un gd cn cs L a ccd cl outer) (call (.ref 142) [.ref row, .ref due]) Q E s := by
  refine wpAny_call ?_
  k_dflt (refine' code_def ?k1 ?k2 ?k3 ?k4 ?k5 ?kA ?kF ?kK ?k6 ?k7 ?k8 ?k9 ?kB ?_ ?c2 ?c3 ?c4 ?c5; (case kA => exact rfl); (case kF => exact rfl); (case kK => assumption); (case k1 => k_asm); (case k2 => k_asm); (case k3 => k_asm); (case k4 => k_asm); (case k5 => k_asm); (case k6 => k_is); (case k7 => k_is); (case k8 => ktr_room); (case k9 => exact BindsTo.of_eq rfl); (case c5 => decide); (case kB => exact locs rfl); (case c2 => exact rfl); (case c3 => exact rfl); (case c4 => exact rfl))
  intro g L' h1 FG F' N' B' X' T'
  (try dsimp only)
  (try k_fold)
  k_steps
  refine Halt.out ?_
  k_dflt (refine For_turns F' ?_)
  k_steps
  refine Halt.out ?_
  k_dflt (refine ktu_zip (xs := vs) (ys := vs) (by rfl) F' N' hrow rfl rfl hdue rfl rfl (fun I hI => ?_))
  refine same_rest (fun mm => mm (Str.ofString "row") = some (.ref row) ∧ mm (Str.ofString "due") = some (.ref due)) (by exact ⟨hrow, hdue, trivial⟩) ?_ ?_ vs ?_ _ ⟨rfl, rfl⟩
  · intro p hp q hq
    have hlt := ltN (hI p hp)
    refine neN ?_
    simp only [List.mem_cons, List.mem_nil_iff, or_false] at hq
    rcases hq with rfl | rfl | rfl | rfl | rfl <;> dsimp only <;> omega
  · intro mm h tk hP F2 N2
    have F3 := Eq.mp (congrArg (Fr g L' h) (norm4 hP.1 hP.2 hP.1 hP.2)) F2
    clear F2 F' N'
    k_steps
    rw [beq_self_eq_true]
    exact hret _ _ (by k_asm) (by k_asm)
  · intro v hv TT h tk mm own hP hT F2 N2
    have F3 := Eq.mp (congrArg (Fr g L' h) (norm4 hP.1 hP.2 hP.1 hP.2)) F2
    clear F2 F' N'
    obtain ⟨j, hj⟩ := List.getElem?_of_mem hv
    obtain ⟨i, _, hi⟩ := hits.2 j v hj
    cases hi with
    | n =>
      k_steps
      all_goals first
        | (exfalso; omega)
        | exact ⟨rfl, _, _, _, rfl, by k_asm, by k_asm, rfl, rfl⟩
    | h hx hdx ho =>
      cases ho
      all_goals k_steps
      all_goals exact ⟨rfl, _, _, _, rfl, by k_asm, by k_asm, rfl, rfl⟩
end
end Mine
end
section
open PySem PySem.W PyProof.Rows
set_option maxRecDepth 100000
set_option maxHeartbeats 4000000
namespace Mine
theorem filter_at {p : Int → Bool} (hp : ∀ x y : Int, x ≤ y → p y = true → p x = true) : ∀ (l : List Int), l.Pairwise (· ≤ ·) → ∀ (j : Nat) (x : Int), l[j]? = some x → (p x = true ↔ j < (l.filter p).length) := by
  intro l
  induction l with
  | nil => intro _ j x h; simp at h
  | cons a r ih =>
    intro hs j x hx
    rw [List.pairwise_cons] at hs
    cases ha : p a with
    | true =>
      rw [List.filter_cons_of_pos ha, List.length_cons]
      cases j with
      | zero => simp at hx; subst hx; simp [ha]
      | succ j =>
        rw [List.getElem?_cons_succ] at hx
        rw [ih hs.2 j x hx]; omega
    | false =>
      have hx' : x ∈ a :: r := List.mem_of_getElem? hx
      have hall : ∀ y ∈ a :: r, ¬ p y = true := by
        intro y hy hpy
        rcases List.mem_cons.mp hy with rfl | hy
        · rw [ha] at hpy; cases hpy
        · have := hp a y (hs.1 y hy) hpy; rw [ha] at this; cases this
      rw [List.filter_eq_nil_iff.mpr hall]
      exact ⟨fun h => absurd h (hall x hx'), fun h => absurd h (Nat.not_lt_zero _)⟩
abbrev Srt (l : List Int) : Prop := l.Pairwise (· ≤ ·)
theorem low_at {l : List Int} (hs : Srt l) {o : Int} {j : Nat} {x : Int} (h : l[j]? = some x) : decide (x < o) = decide (j < lowN l o) := by
  have := filter_at (p := fun n => decide (n < o)) (fun x y hxy h => by simp at h ⊢; omega) l hs j x h
  rw [decide_eq_true_iff] at this
  exact decide_eq_decide.mpr this
theorem high_at {l : List Int} (hs : Srt l) {o : Int} {j : Nat} {x : Int} (h : l[j]? = some x) : decide (x ≤ o) = decide (j < highN l o) := by
  have := filter_at (p := fun n => decide (n ≤ o)) (fun x y hxy h => by simp at h ⊢; omega) l hs j x h
  rw [decide_eq_true_iff] at this
  exact decide_eq_decide.mpr this
theorem low_le (l : List Int) (o : Int) : lowN l o ≤ l.length := List.length_filter_le ..
theorem high_le (l : List Int) (o : Int) : highN l o ≤ l.length := List.length_filter_le ..
def itsOf (os ns : List Int) : List It := os.map .h ++ ns.map .n
theorem itsOf_length (os ns : List Int) : (itsOf os ns).length = os.length + ns.length := by simp [itsOf]
theorem itsOf_left {os ns : List Int} {j : Nat} (h : j < os.length) : (itsOf os ns)[j]? = some (.h os[j]) := by
  unfold itsOf; rw [List.getElem?_append_left (by simpa using h)]; simp [h]
theorem itsOf_right {os ns : List Int} {j : Nat} (h : os.length ≤ j) (h' : j < os.length + ns.length) : (itsOf os ns)[j]? = some (.n (ns[j - os.length]'(by omega))) := by
  unfold itsOf; rw [List.getElem?_append_right (by simpa using h)]
  simp only [List.length_map, List.getElem?_map]
  rw [List.getElem?_eq_getElem (by omega)]; rfl
theorem itsOf_out {os ns : List Int} {j : Nat} (h : os.length + ns.length ≤ j) : (itsOf os ns)[j]? = none := List.getElem?_eq_none (by rw [itsOf_length]; exact h)
theorem cL_h {os ns : List Int} {o : Int} (hs : Srt os) : cL (itsOf os ns) (.h o) = fun j => if j < os.length then some (decide (j < lowN os o)) else none := by
  funext j
  unfold cL
  by_cases h : j < os.length
  · rw [itsOf_left h, if_pos h]
    show some (decide (os[j] < o)) = _
    rw [low_at hs (List.getElem?_eq_getElem h)]
  · rw [if_neg h]
    by_cases h' : j < os.length + ns.length
    · rw [itsOf_right (by omega) h']; rfl
    · rw [itsOf_out (by omega)]
theorem cR_h {os ns : List Int} {o : Int} (hs : Srt os) : cR (itsOf os ns) (.h o) = fun j => if j < os.length + ns.length then some (decide (j < highN os o)) else none := by
  funext j
  unfold cR
  by_cases h : j < os.length
  · rw [itsOf_left h, if_pos (by omega)]
    show some (!decide (o < os[j])) = _
    rw [← high_at hs (List.getElem?_eq_getElem h)]
    by_cases hx : o < os[j] <;> simp [hx] <;> omega
  · by_cases h' : j < os.length + ns.length
    · rw [itsOf_right (by omega) h', if_pos h']
      show some (!true) = _
      have := high_le os o
      rw [decide_eq_false (by omega)]; rfl
    · rw [itsOf_out (by omega), if_neg h']
theorem cL_n {os ns : List Int} {k : Int} (hs : Srt ns) : cL (itsOf os ns) (.n k) = fun j => if j < os.length + ns.length then some (decide (j < os.length + lowN ns k)) else none := by
  funext j
  unfold cL
  by_cases h : j < os.length
  · rw [itsOf_left h, if_pos (by omega), decide_eq_true (by omega)]; rfl
  · by_cases h' : j < os.length + ns.length
    · rw [itsOf_right (by omega) h', if_pos h']
      show some (decide (ns[j - os.length] < k)) = _
      rw [low_at hs (List.getElem?_eq_getElem (by omega))]
      congr 1
      by_cases hx : j - os.length < lowN ns k <;> simp [hx] <;> omega
    · rw [itsOf_out (by omega), if_neg h']
theorem cR_n {os ns : List Int} {k : Int} (hs : Srt ns) : cR (itsOf os ns) (.n k) = fun j => if j < os.length then none else if j < os.length + ns.length then some (decide (j < os.length + highN ns k)) else none := by
  funext j
  unfold cR
  by_cases h : j < os.length
  · rw [itsOf_left h, if_pos h]; rfl
  · rw [if_neg h]
    by_cases h' : j < os.length + ns.length
    · rw [itsOf_right (by omega) h', if_pos h']
      show some (!decide (k < ns[j - os.length])) = _
      have e := high_at hs (o := k) (List.getElem?_eq_getElem (l := ns) (i := j - os.length) (by omega))
      congr 1
      rw [show (!decide (k < ns[j - os.length])) = decide (ns[j - os.length] ≤ k) from by by_cases hx : k < ns[j - os.length] <;> simp [hx] <;> omega, e]
      by_cases hx : j - os.length < highN ns k <;> simp [hx] <;> omega
    · rw [itsOf_out (by omega), if_neg h']
theorem plain_Lh : ∀ n : Fin 16, ∀ a : Fin 16, ∀ l : Fin 16, l.val ≤ a.val → a.val ≤ n.val → bis (fun j => if j < a.val then some (decide (j < l.val)) else none) n.val 0 n.val = if refH (n.val : Int) a.val l.val then none else some l.val := by decide +kernel
theorem plain_mid : ∀ n : Fin 16, ∀ l : Fin 16, l.val ≤ n.val → bis (fun j => if j < n.val then some (decide (j < l.val)) else none) n.val 0 n.val = some l.val := by decide +kernel
theorem plain_Rn : ∀ n : Fin 16, ∀ a : Fin 16, ∀ l : Fin 16, a.val ≤ l.val → l.val ≤ n.val → bis (fun j => if j < a.val then none else if j < n.val then some (decide (j < l.val)) else none) n.val 0 n.val = if refN (n.val : Int) a.val l.val then none else some l.val := by decide +kernel
theorem bis_Lh {os ns : List Int} {o : Int} (hs : Srt os) {n : Nat} (hn : n = os.length + ns.length) (hb : n < 16) : bis (cL (itsOf os ns) (.h o)) n 0 n = if refH (n : Int) os.length (lowN os o) then none else some (lowN os o) := by
  rw [cL_h hs]
  have h1 := low_le os o
  exact plain_Lh ⟨n, hb⟩ ⟨os.length, by omega⟩ ⟨lowN os o, by omega⟩ h1 (by show os.length ≤ n; omega)
theorem bis_Rh {os ns : List Int} {o : Int} (hs : Srt os) {n : Nat} (hn : n = os.length + ns.length) (hb : n < 16) : bis (cR (itsOf os ns) (.h o)) n 0 n = some (highN os o) := by
  rw [cR_h hs, ← hn]
  have h1 := high_le os o
  exact plain_mid ⟨n, hb⟩ ⟨highN os o, by omega⟩ (by show highN os o ≤ n; omega)
theorem bis_Ln {os ns : List Int} {k : Int} (hs : Srt ns) {n : Nat} (hn : n = os.length + ns.length) (hb : n < 16) : bis (cL (itsOf os ns) (.n k)) n 0 n = some (os.length + lowN ns k) := by
  rw [cL_n hs, ← hn]
  have h1 := low_le ns k
  exact plain_mid ⟨n, hb⟩ ⟨os.length + lowN ns k, by omega⟩ (by show os.length + lowN ns k ≤ n; omega)
theorem bis_Rn {os ns : List Int} {k : Int} (hs : Srt ns) {n : Nat} (hn : n = os.length + ns.length) (hb : n < 16) : bis (cR (itsOf os ns) (.n k)) n 0 n = if refN (n : Int) os.length (os.length + highN ns k) then none else some (os.length + highN ns k) := by
  rw [cR_n hs, ← hn]
  have h1 := high_le ns k
  exact plain_Rn ⟨n, hb⟩ ⟨os.length, by omega⟩ ⟨os.length + highN ns k, by omega⟩ (by show os.length ≤ os.length + highN ns k; omega) (by show os.length + highN ns k ≤ n; omega)
theorem srt_ins {l : List Int} (hs : Srt l) {p : Nat} {y : Int} (h1 : ∀ x ∈ l.take p, x ≤ y) (h2 : ∀ x ∈ l.drop p, y ≤ x) : Srt (ins l p y) := by
  unfold ins
  have hs' := hs
  rw [← List.take_append_drop p l] at hs'
  unfold Srt at hs' ⊢
  rw [List.pairwise_append] at hs' ⊢
  refine ⟨hs'.1, List.pairwise_cons.mpr ⟨h2, hs'.2.1⟩, fun a ha b hb => ?_⟩
  rcases List.mem_cons.mp hb with rfl | hb
  · exact h1 a ha
  · exact hs'.2.2 a ha b hb
theorem mem_take_at {l : List Int} {p : Nat} {x : Int} (h : x ∈ l.take p) : ∃ j, j < p ∧ l[j]? = some x := by
  obtain ⟨j, hj⟩ := List.getElem?_of_mem h
  rw [List.getElem?_take] at hj
  split at hj
  · exact ⟨j, by assumption, hj⟩
  · cases hj
theorem mem_drop_at {l : List Int} {p : Nat} {x : Int} (h : x ∈ l.drop p) : ∃ j, p ≤ j ∧ l[j]? = some x := by
  obtain ⟨j, hj⟩ := List.getElem?_of_mem h
  rw [List.getElem?_drop] at hj
  exact ⟨p + j, by omega, hj⟩
theorem srt_low {l : List Int} (hs : Srt l) (y : Int) : Srt (ins l (lowN l y) y) := by
  refine srt_ins hs (fun x hx => ?_) (fun x hx => ?_)
  · obtain ⟨j, hj, e⟩ := mem_take_at hx
    have := low_at hs (o := y) e
    rw [decide_eq_true hj] at this
    have := of_decide_eq_true this; omega
  · obtain ⟨j, hj, e⟩ := mem_drop_at hx
    have := low_at hs (o := y) e
    rw [decide_eq_false (show ¬ j < lowN l y by omega)] at this
    have := of_decide_eq_false this; omega
theorem srt_high {l : List Int} (hs : Srt l) (y : Int) : Srt (ins l (highN l y) y) := by
  refine srt_ins hs (fun x hx => ?_) (fun x hx => ?_)
  · obtain ⟨j, hj, e⟩ := mem_take_at hx
    have := high_at hs (o := y) e
    rw [decide_eq_true hj] at this
    exact of_decide_eq_true this
  · obtain ⟨j, hj, e⟩ := mem_drop_at hx
    have := high_at hs (o := y) e
    rw [decide_eq_false (show ¬ j < highN l y by omega)] at this
    have := of_decide_eq_false this; omega
theorem ins_its_h {os ns : List Int} {p : Nat} {o : Int} (h : p ≤ os.length) : ins (itsOf os ns) p (.h o) = itsOf (ins os p o) ns := by
  unfold ins itsOf
  rw [List.take_append_of_le_length (by simpa using h), List.drop_append_of_le_length (by simpa using h)]
  simp
theorem ins_its_n {os ns : List Int} {p : Nat} {k : Int} : ins (itsOf os ns) (os.length + p) (.n k) = itsOf os (ins ns p k) := by
  unfold ins itsOf
  rw [show os.length + p = (os.map It.h).length + p from by simp, List.take_length_add_append, List.drop_length_add_append]
  simp
theorem ins_get {α : Type} (l : List α) (p : Nat) (y : α) (j : Nat) (hp : p ≤ l.length) : (ins l p y)[j]? = if j < p then l[j]? else if j = p then some y else l[j - 1]? := by
  unfold ins
  by_cases h : j < p
  · rw [if_pos h, List.getElem?_append_left (by rw [List.length_take]; omega), List.getElem?_take, if_pos h]
  · rw [if_neg h, List.getElem?_append_right (by rw [List.length_take]; omega), List.length_take, Nat.min_eq_left hp]
    by_cases h' : j = p
    · subst h'; simp
    · rw [if_neg h', show j - p = (j - p - 1) + 1 from by omega, List.getElem?_cons_succ, List.getElem?_drop]
      congr 1; omega
theorem ItsAre.ins {news : List (Addr × Obj)} {vs : List Value} {its : List It} {v : Value} {i : It} {p : Nat} (h : ItsAre news vs its) (hv : IsIt news v i) (hp : p ≤ vs.length) : ItsAre news (Mine.ins vs p v) (Mine.ins its p i) := by
  refine ⟨by rw [ins_length, ins_length, h.1], fun j u hj => ?_⟩
  rw [ins_get _ _ _ _ hp] at hj
  rw [ins_get _ _ _ _ (by rw [← h.1]; exact hp)]
  split at hj
  · rename_i hl
    rw [if_pos hl]; exact h.2 j u hj
  · rename_i hl
    rw [if_neg hl]
    split at hj
    · rename_i he
      cases hj
      rw [if_pos he]; exact ⟨i, rfl, hv⟩
    · rename_i he
      rw [if_neg he]; exact h.2 _ u hj
end Mine
end
section
open PySem PySem.W PyProof.Rows
set_option maxRecDepth 100000
set_option maxHeartbeats 4000000
namespace Mine
section
variable {prog : Program} {w : World} {A : Around} {E : Value → Shared → Prop} {s : Shared} {env : Env} {h₀ : Heap} {x : Str} {body : List Stmt} {Q : Flow → Shared → Prop}
/-- a turn of the row's loop has ended -/
def RowEnd (h₀ : Heap) (L I : Addr) (own : List (Addr × Obj)) (J : (Str → Option Value) → List (Addr × Obj) → Prop) (s₁ : Shared) (Q : Flow → Shared → Prop) : Flow → Shared → Prop
  | .ret v, s₂ => Q (.ret v) s₂
  | .brk, s₂ => Q .next s₂
  | _, s₂ => ∃ h' tk m' news', s₂ = { s₁ with heap := h', toks := tk } ∧ Fr h₀ L h' m' ∧ News h₀ L h' (own ++ news') ∧ (∀ p ∈ news', p.1 ≠ I) ∧ J m' news'
theorem iter_made {l : Addr} {vs : List Value} {ns : List Int} {k : Nat} {m₀ : Str → Option Value} {news all : List (Addr × Obj)} (adr : List Addr) (J : Nat → (Str → Option Value) → List (Addr × Obj) → Prop)
    (hh : A.handled = none) (F : Fr h₀ env.locals s.heap m₀) (N : News h₀ env.locals s.heap all) (hl : (l, listOf vs.toArray k) ∈ all) (hi : IntsAre vs ns) (hsub : ∀ p ∈ news, p ∈ all) (hadr : ∀ b ∈ adr, b ≠ l ∧ ∃ o, s.heap.get? b = some o) (hj : J 0 m₀ news)
    (turn : ∀ i n t m₁ news₁ h tk own I oI, ns[i]? = some n → J i m₁ news₁ → (I, oI) ∈ own → (∀ p ∈ news₁, p.1 ≠ I) → (∀ p ∈ own, ∀ b ∈ adr, p.1 ≠ b) → Fr h₀ env.locals h (fun y => if y = x then some (.int n t) else m₁ y) → News h₀ env.locals h (own ++ news₁) →
      wpAny (model prog w) A (execs body env) (RowEnd h₀ env.locals I own (J (i + 1)) { s with heap := h, toks := tk } Q) E { s with heap := h, toks := tk })
    (done : ∀ m₁ news₁ h tk, J ns.length m₁ news₁ → Fr h₀ env.locals h m₁ → News h₀ env.locals h news₁ → Q .next { s with heap := h, toks := tk }) :
    wpAny (model prog w) A (pyIter (.ref l)) (fun it s₂ => LoopAtV prog w A h₀ env x body Q E it s₂) E s := by
  have hls : s.heap.IsList l vs.toArray := News.isList N hl
  have hlt : l < s.heap.objs.size := Heap.lt_size (N _ hl).1
  have hne : l ≠ s.heap.objs.size := Nat.ne_of_lt hlt
  refine wpAny_pyIter_list hls ?_
  have W := Walks.list (prog := prog) (w := w) hh s.heap.objs.size l hne vs.toArray
  have hlen : vs.toArray.size = ns.length := by simp [hi.length]
  rw [hlen] at W
  have N₀ : News h₀ env.locals s.heap news := fun p hp => N p (hsub p hp)
  have hI₀ : h₀.get? s.heap.objs.size = none := next_is_new F
  refine ⟨_, _, _, ns.length, _, _, m₀, news, J, rfl, W, ?_, ?_, ?_, ⟨⟨_, Heap.get?_push_size _ rfl, rfl, rfl⟩, hls.push _⟩, F.push _, (fun p hp => ⟨Heap.get?_push_of_some _ (N₀ p hp).1, (N₀ p hp).2⟩), hj, ?_, ?_⟩
  · intro hm
    rcases List.mem_cons.mp hm with e | hm
    · exact absurd F.ns.lt (e ▸ Nat.lt_irrefl _)
    · exact (N _ hl).2.1 (List.mem_singleton.mp hm).symm
  · intro b hb
    rw [List.mem_singleton.mp hb]
    exact hI₀
  · intro p hp hI
    exact absurd (Heap.lt_size (N₀ p hp).1) ((List.mem_singleton.mp hI) ▸ Nat.lt_irrefl _)
  · rintro i v m₁ news₁ s₁ own ⟨hh', tk', rfl⟩ hin hP hJ hoff hown hat hall hst F₁ N₁
    have hlt' : i < ns.length := hin
    obtain ⟨t, hx⟩ := hi.get i ns[i] (by simp [hlt'])
    have hv : v = .int ns[i] t := by
      have hP' : vs[i]? = some v := by simpa using hP
      rw [hx] at hP'; exact (Option.some.inj hP').symm
    subst hv
    obtain ⟨oI, hoI, _⟩ := hst.1
    have hIm : (s.heap.objs.size, oI) ∈ own := hall _ (List.mem_cons_self ..) hI₀ oI hoI
    have hsep : ∀ p ∈ own, ∀ b ∈ adr, p.1 ≠ b := by
      intro p hp b hb e
      obtain ⟨h1, o, ho⟩ := hadr b hb
      rcases List.mem_cons.mp (hown p hp) with h2 | h2
      · exact absurd (Heap.lt_size ho) (by rw [← e, h2]; exact Nat.lt_irrefl _)
      · exact h1 (by rw [← e]; exact List.mem_singleton.mp h2)
    refine wpAny_mono (turn i ns[i] t m₁ news₁ hh' tk' own s.heap.objs.size oI (by simp [hlt']) hJ hIm (fun p hp e => hoff p hp (List.mem_singleton.mpr e)) hsep F₁ N₁) (fun f s₂ p => ?_) fun _ _ e => e
    have fin : (∃ h' tk m' news', s₂ = { ({ s with heap := hh', toks := tk' } : Shared) with heap := h', toks := tk } ∧ Fr h₀ env.locals h' m' ∧ News h₀ env.locals h' (own ++ news') ∧ (∀ p ∈ news', p.1 ≠ s.heap.objs.size) ∧ J (i + 1) m' news') →
        LoopStepU h₀ env.locals [s.heap.objs.size] own (J (i + 1)) { s with heap := hh', toks := tk' } .next s₂ := by
      rintro ⟨h', tk, m', nx, e, F', N', hn, hm⟩
      exact ⟨rfl, h', tk, m', nx, e, F', N', fun p hp hq => hn p hp (List.mem_singleton.mp hq), hm⟩
    cases f with
    | ret v => exact .ret p
    | brk => exact .brk p
    | next => exact .next (fin p)
    | cont => exact .cont (fin p)
  · rintro h' tk m' news' F' N' _ hJ
    exact done m' news' h' tk hJ F' N'
end
end Mine
end
section
open PySem PySem.W PyProof.Rows
set_option maxRecDepth 100000
set_option maxHeartbeats 4000000
namespace Mine
/-- what holds between the turns -/
def RowInv (row due ord num : Addr) (i : Nat) (m : Str → Option Value) (news : List (Addr × Obj)) : Prop :=
  ∃ vs k1 k2 os ows k3 ns nws k4 hs, news = (row, listOf vs.toArray k1) :: (due, listOf vs.toArray k2) :: (ord, listOf ows.toArray k3) :: (num, listOf nws.toArray k4) :: hs ∧
    IntsAre ows os ∧ IntsAre nws ns ∧ Srt os ∧ Srt ns ∧ ItsAre hs vs (itsOf os ns) ∧ vs.length ≤ i ∧ (∀ p ∈ hs, p.1 ≠ row ∧ p.1 ≠ due ∧ p.1 ≠ ord ∧ p.1 ≠ num) ∧
    m (Str.ofString "row") = some (.ref row) ∧ m (Str.ofString "due") = some (.ref due) ∧ m (Str.ofString "orders") = some (.ref ord) ∧ m (Str.ofString "numbers") = some (.ref num)
theorem row_end {h₀ : Heap} {L I row due ord num : Addr} {own hs T : List (Addr × Obj)} {i : Nat} {s₁ : Shared} {Q : Flow → Shared → Prop} {h' : Heap} {tk : Nat} {m' : Str → Option Value} {vs ows nws : List Value} {a1 a2 a3 a4 : Nat} {os ns : List Int}
    (F : Fr h₀ L h' m') (N : News h₀ L h' ((row, listOf vs.toArray a1) :: (due, listOf vs.toArray a2) :: (ord, listOf ows.toArray a3) :: (num, listOf nws.toArray a4) :: T)) (hown : ∀ p ∈ own, p ∈ T) (hsT : ∀ p ∈ hs, p ∈ T)
    (hIo : IntsAre ows os) (hIn : IntsAre nws ns) (hso : Srt os) (hsn : Srt ns) (hits : ItsAre hs vs (itsOf os ns)) (hvl : vs.length ≤ i + 1) (hhs : ∀ p ∈ hs, p.1 ≠ row ∧ p.1 ≠ due ∧ p.1 ≠ ord ∧ p.1 ≠ num)
    (hI : row ≠ I ∧ due ≠ I ∧ ord ≠ I ∧ num ≠ I) (hoff : ∀ p ∈ hs, p.1 ≠ I)
    (m1 : m' (Str.ofString "row") = some (.ref row)) (m2 : m' (Str.ofString "due") = some (.ref due)) (m3 : m' (Str.ofString "orders") = some (.ref ord)) (m4 : m' (Str.ofString "numbers") = some (.ref num)) :
    RowEnd h₀ L I own (RowInv row due ord num (i + 1)) s₁ Q .next { s₁ with heap := h', toks := tk } := by
  refine ⟨h', tk, m', _, rfl, F, cb_drop N ?_, ?_, vs, a1, a2, os, ows, a3, ns, nws, a4, hs, rfl, hIo, hIn, hso, hsn, hits, hvl, hhs, m1, m2, m3, m4⟩
  · intro p hp
    simp only [List.mem_append, List.mem_cons] at hp ⊢
    rcases hp with hp | hp | hp | hp | hp | hp
    · simp [hown p hp]
    · simp [hp]
    · simp [hp]
    · simp [hp]
    · simp [hp]
    · simp [hsT p hp]
  · intro p hp
    simp only [List.mem_cons] at hp
    rcases hp with rfl | rfl | rfl | rfl | hp
    · exact hI.1
    · exact hI.2.1
    · exact hI.2.2.1
    · exact hI.2.2.2
    · exact hoff p hp
section
variable {h₀ : Heap} {L : Addr} {h' : Heap} {a b c d : Addr × Obj} {r : List (Addr × Obj)}
theorem led_ba {x : Addr × Obj} (N : News h₀ L h' (x :: a :: b :: r)) : News h₀ L h' (b :: a :: r) := cb_drop N fun p hp => by
  simp only [List.mem_cons] at hp ⊢
  rcases hp with h | h | h <;> simp [h]
theorem led_cba (N : News h₀ L h' (b :: a :: c :: r)) : News h₀ L h' (c :: b :: a :: r) := cb_drop N fun p hp => by
  simp only [List.mem_cons] at hp ⊢
  rcases hp with h | h | h | h <;> simp [h]
theorem led_dbac (N : News h₀ L h' (b :: a :: c :: d :: r)) : News h₀ L h' (d :: b :: a :: c :: r) := cb_drop N fun p hp => by
  simp only [List.mem_cons] at hp ⊢
  rcases hp with h | h | h | h | h <;> simp [h]
theorem led_h (N : News h₀ L h' (c :: b :: a :: d :: r)) : News h₀ L h' (a :: b :: c :: d :: r) := cb_drop N fun p hp => by
  simp only [List.mem_cons] at hp ⊢
  rcases hp with h | h | h | h | h <;> simp [h]
theorem led_n (N : News h₀ L h' (d :: b :: a :: c :: r)) : News h₀ L h' (a :: b :: c :: d :: r) := cb_drop N fun p hp => by
  simp only [List.mem_cons] at hp ⊢
  rcases hp with h | h | h | h | h <;> simp [h]
end
theorem its_ins_h {hs : List (Addr × Obj)} {vs : List Value} {os ns : List Int} {v : Value} {o : Int} {p : Nat} (h : ItsAre hs vs (itsOf os ns)) (hv : IsIt hs v (.h o)) (hp : p ≤ os.length) : ItsAre hs (ins vs p v) (itsOf (ins os p o) ns) := by
  have h5 := h.ins hv (show p ≤ vs.length by rw [h.1, itsOf_length]; omega)
  rw [ins_its_h hp] at h5
  exact h5
theorem its_ins_n {hs : List (Addr × Obj)} {vs : List Value} {os ns : List Int} {k : Int} {t : Tok} {p : Nat} (h : ItsAre hs vs (itsOf os ns)) (hp : p ≤ ns.length) : ItsAre hs (ins vs (os.length + p) (.int k t)) (itsOf os (ins ns p k)) := by
  have h5 := h.ins (IsIt.n (k := k) (t := t)) (show os.length + p ≤ vs.length by rw [h.1, itsOf_length]; omega)
  rw [ins_its_n] at h5
  exact h5
theorem off_cons {p : Addr × Obj} {r : List (Addr × Obj)} {d : Addr} (h : p.1 ≠ d) (hr : ∀ q ∈ r, q.1 ≠ d) : ∀ q ∈ p :: r, q.1 ≠ d := List.forall_mem_cons.mpr ⟨h, hr⟩
theorem ins_ints {vs : List Value} {ns : List Int} (h : IntsAre vs ns) (p : Nat) (k : Int) (t : Tok) : IntsAre (ins vs p (.int k t)) (ins ns p k) := by
  have hx : ∀ {l : List Value} {n : List Int}, IntsAre l n → ∀ p, IntsAre (l.take p) (n.take p) ∧ IntsAre (l.drop p) (n.drop p) := by
    intro l n h
    induction h with
    | nil => intro p; simp only [List.take_nil, List.drop_nil]; exact ⟨.nil, .nil⟩
    | cons k t h ih =>
      intro p
      cases p with
      | zero => exact ⟨.nil, .cons k t h⟩
      | succ p => exact ⟨.cons k t (ih p).1, (ih p).2⟩
  exact (hx h p).1.append (.cons k t (hx h p).2)
theorem li_insert {prog : Program} {w : World} {A : Around} {E : Value → Shared → Prop} {s : Shared} {h₀ : Heap} {L D : Addr} {m : Str → Option Value} {vs : List Value} {n : Nat} {rest : List (Addr × Obj)} {Q : Value → Shared → Prop} {x : Int} {u : Tok} {y : Value} {p : Nat}
    (F : Fr h₀ L s.heap m) (N : News h₀ L s.heap ((D, listOf vs.toArray n) :: rest)) (off : ∀ q ∈ rest, q.1 ≠ D) (hx : x = (p : Int)) (hp : p ≤ 1000) (hz : vs.length ≤ 1000)
    (h : ∀ h', Fr h₀ L h' m → News h₀ L h' ((D, listOf (ins vs p y).toArray (n + 1)) :: rest) → Q .none { s with heap := h' }) :
    wpAny (model prog w) A (call (.builtin "list.insert") [.ref D, .int x u, y]) Q E s := by
  subst hx
  exact kl_insert F N (fits_nat hp) (kl_ins_nat _ _ _) (Upd.head off) (by rw [sizeLine_eq]; simp only [List.toList_toArray]; omega) h
end Mine
end
section
open PySem PySem.W PyProof.Rows
set_option maxRecDepth 100000
set_option maxHeartbeats 8000000
namespace Mine
theorem ord_item {prog : Program} {w : World} {A : Around} {Q E : Value → Shared → Prop} {s : Shared} {value slice : PySem.Expr} {l : Addr} {y : Int} {u t1 t2 t3 : Tok} (hl : s.heap.IsList l #[.int 500 t1, .int 1000 t2, .int ((y.fdiv 3).fmod 7 * 250) t3])
    (h : ∀ t', Q (.int (ordOf y) t') s)
    (hs : subscripted slice false (.ref l) (.int (y.fmod 3) u) = operate [.ref l, .int (y.fmod 3) u] (getItem (.ref l) (.int (y.fmod 3) u)) := by with_unfolding_all rfl) :
    wpAny (model prog w) A (subscriptTail value slice (.ref l) (.int (y.fmod 3) u)) Q E s := by
  have h0 : 0 ≤ y.fmod 3 := Int.fmod_nonneg_of_pos _ (by decide)
  have h3 : y.fmod 3 < 3 := Int.fmod_lt_of_pos _ (by decide)
  have : y.fmod 3 = 0 ∨ y.fmod 3 = 1 ∨ y.fmod 3 = 2 := by omega
  rcases this with e | e | e
  · exact tail_any hl.typeIs slot_list_getitem.lookup (wpAny_getItem_list hl h0 (by omega) (by rw [e]; rfl) (by have := h t1; rw [show ordOf y = 500 from by unfold ordOf; rw [if_neg (by omega), if_neg (by omega)]] at this; exact this)) hs
  · exact tail_any hl.typeIs slot_list_getitem.lookup (wpAny_getItem_list hl h0 (by omega) (by rw [e]; rfl) (by have := h t2; rw [show ordOf y = 1000 from by unfold ordOf; rw [if_pos e]] at this; exact this)) hs
  · exact tail_any hl.typeIs slot_list_getitem.lookup (wpAny_getItem_list hl h0 (by omega) (by rw [e]; rfl) (by have := h t3; rw [show ordOf y = (y.fdiv 3).fmod 7 * 250 from by unfold ordOf; rw [if_neg (by omega), if_pos e]] at this; exact this)) hs
local macro_rules | `(tactic| walk_at "subscriptTail List") => `(tactic| (refine Halt.out ?_))
local macro_rules | `(tactic| walk_at "exec For Name BinOp cons nil") => `(tactic| (k_here; (rename Fr _ _ _ _ => lF'); (with_unfolding_all refine' For_invVF lF' ?k1 ?k2 ?_; (case k1 => exact rfl); (case k2 => exact rfl); k_whole)))
local macro_rules | `(tactic| walk_at "pyIter ref") => `(tactic| (refine Halt.out ?_))
local macro_rules | `(tactic| walk_at "call builtin:len") => `(tactic| (k_here; k_dflt (refine' len_as ?k1 ?k0 ?k2 ?_; (case k1 => exact News.isList (by k_asm) (by k_mem)); (case k0 => assumption); (case k2 => omega); k_whole)))
local macro_rules | `(tactic| walk_at "call ref") => `(tactic| (refine Halt.out ?_))
local macro_rules | `(tactic| walk_at "call builtin:list.insert") => `(tactic| (refine Halt.out ?_))
theorem law_try : PySem.Challenge.rw_pg0141_01.Holds := hd (by
  k_go0
  all_goals try k_fold
  k_steps
  rename_i row hA1 q1 due hA2 q2 ord hA3 q3 num hA4 q4 D2 hA5 q5 hA6 hA7 hA8 hA9 hA10 D1 ws1 hA11 hI1 hC1 hL1 q6 l0 hA12 q7 D0 ws0 hA13 F0 N0 hI0 q8
  refine Halt.out ?_
  have a1 : ∀ b ∈ [row, due, ord, num], b ≠ D0 ∧ ∃ o, hA13.get? b = some o := by
    intro b hb
    simp only [List.mem_cons, List.mem_nil_iff, or_false] at hb
    rcases hb with rfl | rfl | rfl | rfl
    · exact ⟨neN (by omega), _, (N0 (_, listOf #[] 0) (by simp)).1⟩
    · exact ⟨neN (by omega), _, (N0 (_, listOf #[] 0) (by simp)).1⟩
    · exact ⟨neN (by omega), _, (N0 (_, listOf #[] 0) (by simp)).1⟩
    · exact ⟨neN (by omega), _, (N0 (_, listOf #[] 0) (by simp)).1⟩
  have d1 : row ≠ due := neN (by omega)
  have d2 : row ≠ ord := neN (by omega)
  have d3 : row ≠ num := neN (by omega)
  have d4 : due ≠ ord := neN (by omega)
  have d5 : due ≠ num := neN (by omega)
  have d6 : ord ≠ num := neN (by omega)
  k_dflt (refine' iter_made [row, due, ord, num] (RowInv row due ord num) (news := [(row, listOf #[] 0), (due, listOf #[] 0), (ord, listOf #[] 0), (num, listOf #[] 0)]) rfl F0 N0 (List.mem_cons_self ..) hI0 ?sub a1 ?start ?turn ?done)
  case sub =>
    intro p hp
    simp only [List.mem_cons, List.mem_nil_iff, or_false] at hp ⊢
    rcases hp with rfl | rfl | rfl | rfl <;> simp
  case start => exact ⟨[], 0, 0, [], [], 0, [], [], 0, [], rfl, .nil, .nil, .nil, .nil, ⟨rfl, fun j u h => by simp at h⟩, Nat.zero_le _, (fun p hp => nomatch hp), rfl, rfl, rfl, rfl⟩
  case done =>
    intro m₁ news₁ h tk hJ F1 N1
    k_steps
  case turn =>
    intro i n t m₁ news₁ h tk own I oI hn hJ hIm hoffI hsep F1 N1
    obtain ⟨vs, k1, k2, os, ows, k3, ns, nws, k4, hs, rfl, hIo, hIn, hso, hsn, hits, hvl, hhs, m1, m2, m3, m4⟩ := hJ
    have hi16 : i < 16 := by
      have h1 := (List.getElem?_eq_some_iff.mp hn).1
      simp only [List.length_append, List.length_cons, List.length_nil] at h1
      have h2 := List.length_take_le 8 (by assumption : List Int)
      omega
    rw [norm4 m1 m2 m3 m4] at F1
    obtain ⟨tl, htl⟩ : ∃ tl, tl = hs ++ own := ⟨_, rfl⟩
    have N2 : News _ _ h ((row, listOf vs.toArray k1) :: (due, listOf vs.toArray k2) :: (ord, listOf ows.toArray k3) :: (num, listOf nws.toArray k4) :: tl) := fun p hp => N1 p (by
      rw [htl] at hp
      simp only [List.mem_cons, List.mem_append] at hp ⊢
      rcases hp with h | h | h | h | h | h
      all_goals simp [h])
    have offr : ∀ p ∈ tl, p.1 ≠ row := by
      intro p hp; rw [htl] at hp
      rcases List.mem_append.mp hp with h | h
      · exact (hhs p h).1
      · exact hsep p h _ (by simp)
    have offd : ∀ p ∈ tl, p.1 ≠ due := by
      intro p hp; rw [htl] at hp
      rcases List.mem_append.mp hp with h | h
      · exact (hhs p h).2.1
      · exact hsep p h _ (by simp)
    have offo : ∀ p ∈ tl, p.1 ≠ ord := by
      intro p hp; rw [htl] at hp
      rcases List.mem_append.mp hp with h | h
      · exact (hhs p h).2.2.1
      · exact hsep p h _ (by simp)
    have offn : ∀ p ∈ tl, p.1 ≠ num := by
      intro p hp; rw [htl] at hp
      rcases List.mem_append.mp hp with h | h
      · exact (hhs p h).2.2.2
      · exact hsep p h _ (by simp)
    have hItl : (I, oI) ∈ tl := by rw [htl]; exact List.mem_append_right _ hIm
    have hIoff : row ≠ I ∧ due ≠ I ∧ ord ≠ I ∧ num ≠ I := ⟨(offr _ hItl).symm, (offd _ hItl).symm, (offo _ hItl).symm, (offn _ hItl).symm⟩
    have hitl : ItsAre tl vs (itsOf os ns) := hits.mono fun p hp => by rw [htl]; exact List.mem_append_left _ hp
    have hvsz : vs.toArray.size = vs.length := List.size_toArray ..
    have hosz : ows.toArray.size = os.length := by rw [List.size_toArray, hIo.length]
    have hovn : vs.length = os.length + ns.length := by rw [hits.1, itsOf_length]
    replace hoffI : ∀ p ∈ hs, p.1 ≠ I := fun p hp => hoffI p (by simp [hp])
    clear N1
    have hk4 : n.fmod 4 = 0 ∨ n.fmod 4 = 1 ∨ n.fmod 4 = 2 ∨ n.fmod 4 = 3 := by
      have h0 : 0 ≤ n.fmod 4 := Int.fmod_nonneg_of_pos _ (by decide)
      have h3 : n.fmod 4 < 4 := Int.fmod_lt_of_pos _ (by decide)
      omega
    have hy0 : 0 ≤ (n.fdiv 4).fmod 105 := Int.fmod_nonneg_of_pos _ (by decide)
    have hy1 : (n.fdiv 4).fmod 105 < 105 := Int.fmod_lt_of_pos _ (by decide)
    rcases hk4 with hk4 | hk4 | hk4 | hk4
    · k_steps
      refine Halt.out ?_
      k_dflt (refine' ord_item ?k1_1 ?_ ?k2_1)
      case k1_1 => exact News.isList (by k_asm) (by k_mem)
      case k2_1 => with_unfolding_all rfl
      intro tq
      k_steps
      refine Halt.out ?_
      rename Fr _ _ _ _ => F2
      rename News _ _ _ _ => N3
      have N4 : News _ _ _ ((row, listOf vs.toArray k1) :: (due, listOf vs.toArray k2) :: (ord, listOf ows.toArray k3) :: (num, listOf nws.toArray k4) :: tl) := cb_drop N3 (fun p hp => List.mem_cons_of_mem _ (List.mem_cons_of_mem _ hp))
      clear N3
      k_dflt (refine' handler_call ?zb_1 F2 ?zx_1 N4 ?zt_1 rfl ?zd_1 ?zu_1 hy0 hy1 ?_; (case zb_1 => k_asm); (case zx_1 => k_asm); (case zt_1 => k_asm); (case zd_1 => ktr_room); (case zu_1 => ktr_units))
      intro hx hdx C es ne h5 tk5 ho F5 N5 lt1 lt2
      k_steps
      refine Halt.out ?_
      rename Fr _ _ _ _ => F6
      rename News _ _ _ _ => N6
      k_dflt (refine' ph_call ?yb_1 F6 ?yx_1 N6 ?yt_1 rfl ?yd_1 ?yu_1 ?ym_1 hIo ?yl_1 ?y0_1 ?y1_1 ?_; (case yb_1 => k_asm); (case yx_1 => k_asm); (case yt_1 => k_asm); (case yd_1 => ktr_room); (case yu_1 => ktr_units); (case ym_1 => k_mem); (case yl_1 => omega); (case y0_1 => omega); (case y1_1 => omega))
      intro pl v1 v2 h7 tk7 T1 T2 F7 N7 lt7
      have z1 := ltN (lt1 (row, listOf vs.toArray k1) (by simp))
      have z2 := ltN (lt1 (due, listOf vs.toArray k2) (by simp))
      have z3 := ltN (lt1 (ord, listOf ows.toArray k3) (by simp))
      have z4 := ltN (lt1 (num, listOf nws.toArray k4) (by simp))
      have z5 := ltN (lt1 (I, oI) (by simp [hItl]))
      have z6 := ltN lt2
      have z7 := ltN (lt7 (row, listOf vs.toArray k1) (by simp))
      dsimp only at z1 z2 z3 z4 z5 z7
      have hx4 : hx ≠ row ∧ hx ≠ due ∧ hx ≠ ord ∧ hx ≠ num := ⟨neN (by omega), neN (by omega), neN (by omega), neN (by omega)⟩
      have hdx4 : hdx ≠ row ∧ hdx ≠ due ∧ hdx ≠ ord ∧ hdx ≠ num := ⟨neN (by omega), neN (by omega), neN (by omega), neN (by omega)⟩
      have hxI : hx ≠ I := neN (by omega)
      have hdxI : hdx ≠ I := neN (by omega)
      have o3 : pl ≠ row := neN (by omega)
      obtain ⟨HS, hHS⟩ : ∃ R, R = (hx, instObj C hdx) :: (hdx, dictOf es ne) :: hs := ⟨_, rfl⟩
      have HS4 : ∀ p ∈ HS, p.1 ≠ row ∧ p.1 ≠ due ∧ p.1 ≠ ord ∧ p.1 ≠ num := by rw [hHS]; exact List.forall_mem_cons.mpr ⟨hx4, List.forall_mem_cons.mpr ⟨hdx4, hhs⟩⟩
      have HSI : ∀ p ∈ HS, p.1 ≠ I := by rw [hHS]; exact List.forall_mem_cons.mpr ⟨hxI, List.forall_mem_cons.mpr ⟨hdxI, hoffI⟩⟩
      have hitHS : ItsAre HS vs (itsOf os ns) := hits.mono fun p hp => by rw [hHS]; simp [hp]
      have hthHS : IsIt HS (.ref hx) (.h (ordOf ((n.fdiv 4).fmod 105))) := IsIt.h (C := C) (dx := hdx) (es := es) (n := ne) (by rw [hHS]; simp) (by rw [hHS]; simp) ho
      obtain ⟨T3, hT3⟩ : ∃ R, R = (hx, instObj C hdx) :: (hdx, dictOf es ne) :: tl := ⟨_, rfl⟩
      have HS3 : ∀ p ∈ HS, p ∈ T3 := by
        rw [hHS, hT3]; intro p hp
        simp only [List.mem_cons] at hp ⊢
        rcases hp with h | h | h
        · simp [h]
        · simp [h]
        · simp [htl, h]
      have own3 : ∀ p ∈ own, p ∈ T3 := fun p hp => by rw [hT3, htl]; simp [hp]
      have off3r : ∀ p ∈ T3, p.1 ≠ row := by rw [hT3]; exact off_cons hx4.1 (off_cons hdx4.1 offr)
      have off3d : ∀ p ∈ T3, p.1 ≠ due := by rw [hT3]; exact off_cons hx4.2.1 (off_cons hdx4.2.1 offd)
      have off3o : ∀ p ∈ T3, p.1 ≠ ord := by rw [hT3]; exact off_cons hx4.2.2.1 (off_cons hdx4.2.2.1 offo)
      have hth3 : IsIt T3 (.ref hx) (.h (ordOf ((n.fdiv 4).fmod 105))) := hthHS.mono HS3
      have hs3 : ∀ p ∈ hs, p ∈ T3 := fun p hp => by rw [hT3, htl]; simp [hp]
      have dr : ∀ p, p = (hx, instObj C hdx) ∨ p = (hdx, dictOf es ne) ∨ p ∈ tl ↔ p ∈ T3 := fun p => by rw [hT3]; simp only [List.mem_cons]
      have hlowb : lowN os (ordOf ((n.fdiv 4).fmod 105)) ≤ os.length := low_le ..
      have hhighb : highN os (ordOf ((n.fdiv 4).fmod 105)) ≤ os.length := high_le ..
      have bL := bis_Lh (ns := ns) (o := (ordOf ((n.fdiv 4).fmod 105))) hso hovn (by omega)
      have bR := bis_Rh (ns := ns) (o := (ordOf ((n.fdiv 4).fmod 105))) hso hovn (by omega)
      rw [← hovn] at T1
      cases hr : refH (vs.length : Int) os.length (lowN os (ordOf ((n.fdiv 4).fmod 105))) with
      | false =>
        rw [hr] at bL T1
        obtain ⟨t1, rfl⟩ := T1
        obtain ⟨t2, rfl⟩ := T2
        obtain ⟨R2, hR2⟩ : ∃ R, R = (due, listOf vs.toArray k2) :: (ord, listOf ows.toArray k3) :: (num, listOf nws.toArray k4) :: T3 := ⟨_, rfl⟩
        have offR2 : ∀ p ∈ R2, p.1 ≠ row := by rw [hR2]; exact off_cons d1.symm (off_cons d2.symm (off_cons d3.symm off3r))
        have hitR2 : ItsAre R2 vs (itsOf os ns) := (hitHS.mono HS3).mono fun p hp => by rw [hR2]; simp [hp]
        have hthR2 : IsIt R2 (.ref hx) (.h (ordOf ((n.fdiv 4).fmod 105))) := hth3.mono fun p hp => by rw [hR2]; simp [hp]
        obtain ⟨R, hR⟩ : ∃ R, R = (pl, listOf #[Value.int ((lowN os (ordOf ((n.fdiv 4).fmod 105)) : Nat) : Int) t1, Value.int ((highN os (ordOf ((n.fdiv 4).fmod 105)) : Nat) : Int) t2] 0) :: R2 := ⟨_, rfl⟩
        have offR : ∀ p ∈ R, p.1 ≠ row := by rw [hR]; exact off_cons o3 offR2
        have hitR : ItsAre R vs (itsOf os ns) := hitR2.mono fun p hp => by rw [hR]; simp [hp]
        have hthR : IsIt R (.ref hx) (.h (ordOf ((n.fdiv 4).fmod 105))) := hthR2.mono fun p hp => by rw [hR]; simp [hp]
        k_steps
        refine Halt.out ?_
        rename Fr _ _ _ _ => F8
        rename News _ _ _ _ => N8
        have N9 : News _ _ _ ((row, listOf vs.toArray k1) :: R) := cb_drop N8 (fun p hp => by
          rw [hR, hR2, hT3] at hp
          simp only [List.mem_cons] at hp ⊢
          rcases hp with h | h | h | h | h | h | h | h
          all_goals simp [h])
        clear N8
        k_dflt (refine' told_bl ?xab_2 F8 ?xax_2 N9 ?xat_2 rfl ?xad_2 ?xau_2 offR (by omega) hitR hthR ?xaq_2 ?xae_2; (case xab_2 => k_asm); (case xax_2 => k_asm); (case xat_2 => k_asm); (case xad_2 => ktr_room); (case xau_2 => ktr_units))
        case xae_2 => intro hn; rw [bL] at hn; cases hn
        intro p tp hxa tkxa hp Fxa Nxa
        rw [bL] at hp; cases hp
        k_steps
        refine Halt.out ?_
        rename Fr _ _ _ _ => F11
        rename News _ _ _ _ => N11
        k_dflt (refine' told_br ?xbb_2 F11 ?xbx_2 N11 ?xbt_2 rfl ?xbd_2 ?xbu_2 offR (by omega) hitR hthR ?xbq_2 ?xbe_2; (case xbb_2 => k_asm); (case xbx_2 => k_asm); (case xbt_2 => k_asm); (case xbd_2 => ktr_room); (case xbu_2 => ktr_units))
        case xbe_2 => intro hn; rw [bR] at hn; cases hn
        intro p tp hxb tkxb hp Fxb Nxb
        rw [bR] at hp; cases hp
        rw [hR] at Nxb
        clear hR offR hitR hthR
        k_steps
        rotate_left
        · exfalso; rename (List.any _ _ = false) => hab; rw [hk4] at hab; exact absurd hab (by decide)
        refine Halt.out ?_
        rename Fr _ _ _ _ => F13
        rename News _ _ _ _ => N13
        have N14 : News _ _ _ ((row, listOf vs.toArray k1) :: R2) := cb_drop N13 (fun p hp => by
          simp only [List.mem_cons] at hp ⊢
          rcases hp with h | h
          all_goals simp [h])
        clear N13
        k_dflt (refine' told_ir ?xcb_2 F13 ?xcx_2 N14 ?xct_2 rfl ?xcd_2 ?xcu_2 offR2 (by omega) hitR2 hthR2 ?xcq_2 ?xce_2; (case xcb_2 => k_asm); (case xcx_2 => k_asm); (case xct_2 => k_asm); (case xcd_2 => ktr_room); (case xcu_2 => ktr_units))
        case xce_2 => intro hn; rw [bR] at hn; cases hn
        intro p hxc tkxc hp Fxc Nxc
        rw [bR] at hp; cases hp
        clear offR2 hitR2 hthR2
        rw [hR2] at Nxc
        k_steps
        refine Halt.out ?_
        rename Fr _ _ _ _ => F16
        rename News _ _ _ _ => N16
        have N17 := led_ba N16
        clear N16
        k_dflt (refine' li_insert F16 N17 (off_cons d1 (off_cons d4.symm (off_cons d5.symm off3d))) ?ue_2 ?up_2 ?uz_2 ?_; (case ue_2 => exact rfl); (case up_2 => omega); (case uz_2 => omega))
        intro h18 F18 N18
        k_steps
        refine Halt.out ?_
        rename Fr _ _ _ _ => F19
        rename News _ _ _ _ => N19
        have N20 := led_cba N19
        clear N19
        k_dflt (refine' li_insert F19 N20 (off_cons d4 (off_cons d2 (off_cons d6.symm off3o))) ?re_2 ?rp_2 ?rz_2 ?_; (case re_2 => exact rfl); (case rp_2 => omega); (case rz_2 => (rw [hIo.length]; omega)))
        intro h21 F21 N21
        k_steps
        refine Halt.out ?_
        rename Fr _ _ _ _ => F22
        rename News _ _ _ _ => N22
        k_dflt (refine' same_call ?qb_2 F22 ?qx_2 N22 ?qt_2 rfl ?qd_2 ?qu_2 ?qr_2 ?qs_2 ?ql_2 ?qi_2 ?_; (case qb_2 => k_asm); (case qx_2 => k_asm); (case qt_2 => k_asm); (case qd_2 => ktr_room); (case qu_2 => ktr_units); (case qr_2 => k_mem); (case qs_2 => k_mem); (case ql_2 => (rw [ins_length]; omega)); (case qi_2 => exact ((its_ins_h hitHS hthHS hhighb).mono HS3).mono fun p hp => by simp [hp]))
        intro h23 tk23 F23 N23
        k_steps
        k_dflt (refine' row_end F23 (led_h N23) own3 HS3 (ins_ints hIo _ _ _) hIn (srt_high hso _) hsn (its_ins_h hitHS hthHS hhighb) ?pe_2 HS4 hIoff HSI rfl rfl rfl rfl; (case pe_2 => (rw [ins_length]; omega)))
      | true =>
        rw [hr] at bL T1
        obtain ⟨t1, rfl⟩ := T1
        obtain ⟨t2, rfl⟩ := T2
        obtain ⟨R2, hR2⟩ : ∃ R, R = (due, listOf vs.toArray k2) :: (ord, listOf ows.toArray k3) :: (num, listOf nws.toArray k4) :: T3 := ⟨_, rfl⟩
        have offR2 : ∀ p ∈ R2, p.1 ≠ row := by rw [hR2]; exact off_cons d1.symm (off_cons d2.symm (off_cons d3.symm off3r))
        have hitR2 : ItsAre R2 vs (itsOf os ns) := (hitHS.mono HS3).mono fun p hp => by rw [hR2]; simp [hp]
        have hthR2 : IsIt R2 (.ref hx) (.h (ordOf ((n.fdiv 4).fmod 105))) := hth3.mono fun p hp => by rw [hR2]; simp [hp]
        obtain ⟨R, hR⟩ : ∃ R, R = (pl, listOf #[Value.str (Str.ofString "refused") t1, Value.int ((highN os (ordOf ((n.fdiv 4).fmod 105)) : Nat) : Int) t2] 0) :: R2 := ⟨_, rfl⟩
        have offR : ∀ p ∈ R, p.1 ≠ row := by rw [hR]; exact off_cons o3 offR2
        have hitR : ItsAre R vs (itsOf os ns) := hitR2.mono fun p hp => by rw [hR]; simp [hp]
        have hthR : IsIt R (.ref hx) (.h (ordOf ((n.fdiv 4).fmod 105))) := hthR2.mono fun p hp => by rw [hR]; simp [hp]
        k_steps
        refine Halt.out ?_
        rename Fr _ _ _ _ => F8
        rename News _ _ _ _ => N8
        have N9 : News _ _ _ ((row, listOf vs.toArray k1) :: R) := cb_drop N8 (fun p hp => by
          rw [hR, hR2, hT3] at hp
          simp only [List.mem_cons] at hp ⊢
          rcases hp with h | h | h | h | h | h | h | h
          all_goals simp [h])
        clear N8
        k_dflt (refine' told_bl ?xab_3 F8 ?xax_3 N9 ?xat_3 rfl ?xad_3 ?xau_3 offR (by omega) hitR hthR ?xaq_3 ?xae_3; (case xab_3 => k_asm); (case xax_3 => k_asm); (case xat_3 => k_asm); (case xad_3 => ktr_room); (case xau_3 => ktr_units))
        case xaq_3 => intro p tp hxa tkxa hp; rw [bL] at hp; cases hp
        intro hn tp hxa tkxa Fxa Nxa
        k_steps
        refine Halt.out ?_
        rename Fr _ _ _ _ => F11
        rename News _ _ _ _ => N11
        k_dflt (refine' told_br ?xbb_3 F11 ?xbx_3 N11 ?xbt_3 rfl ?xbd_3 ?xbu_3 offR (by omega) hitR hthR ?xbq_3 ?xbe_3; (case xbb_3 => k_asm); (case xbx_3 => k_asm); (case xbt_3 => k_asm); (case xbd_3 => ktr_room); (case xbu_3 => ktr_units))
        case xbe_3 => intro hn; rw [bR] at hn; cases hn
        intro p tp hxb tkxb hp Fxb Nxb
        rw [bR] at hp; cases hp
        rw [hR] at Nxb
        clear hR offR hitR hthR
        k_steps
        rotate_left
        · exfalso; rename (List.any _ _ = false) => hab; rw [hk4] at hab; exact absurd hab (by decide)
        refine Halt.out ?_
        rename Fr _ _ _ _ => F13
        rename News _ _ _ _ => N13
        have N14 : News _ _ _ ((row, listOf vs.toArray k1) :: R2) := cb_drop N13 (fun p hp => by
          simp only [List.mem_cons] at hp ⊢
          rcases hp with h | h
          all_goals simp [h])
        clear N13
        k_dflt (refine' told_ir ?xcb_3 F13 ?xcx_3 N14 ?xct_3 rfl ?xcd_3 ?xcu_3 offR2 (by omega) hitR2 hthR2 ?xcq_3 ?xce_3; (case xcb_3 => k_asm); (case xcx_3 => k_asm); (case xct_3 => k_asm); (case xcd_3 => ktr_room); (case xcu_3 => ktr_units))
        case xce_3 => intro hn; rw [bR] at hn; cases hn
        intro p hxc tkxc hp Fxc Nxc
        rw [bR] at hp; cases hp
        clear offR2 hitR2 hthR2
        rw [hR2] at Nxc
        k_steps
        refine Halt.out ?_
        rename Fr _ _ _ _ => F16
        rename News _ _ _ _ => N16
        have N17 := led_ba N16
        clear N16
        k_dflt (refine' li_insert F16 N17 (off_cons d1 (off_cons d4.symm (off_cons d5.symm off3d))) ?ue_3 ?up_3 ?uz_3 ?_; (case ue_3 => exact rfl); (case up_3 => omega); (case uz_3 => omega))
        intro h18 F18 N18
        k_steps
        refine Halt.out ?_
        rename Fr _ _ _ _ => F19
        rename News _ _ _ _ => N19
        have N20 := led_cba N19
        clear N19
        k_dflt (refine' li_insert F19 N20 (off_cons d4 (off_cons d2 (off_cons d6.symm off3o))) ?re_3 ?rp_3 ?rz_3 ?_; (case re_3 => exact rfl); (case rp_3 => omega); (case rz_3 => (rw [hIo.length]; omega)))
        intro h21 F21 N21
        k_steps
        refine Halt.out ?_
        rename Fr _ _ _ _ => F22
        rename News _ _ _ _ => N22
        k_dflt (refine' same_call ?qb_3 F22 ?qx_3 N22 ?qt_3 rfl ?qd_3 ?qu_3 ?qr_3 ?qs_3 ?ql_3 ?qi_3 ?_; (case qb_3 => k_asm); (case qx_3 => k_asm); (case qt_3 => k_asm); (case qd_3 => ktr_room); (case qu_3 => ktr_units); (case qr_3 => k_mem); (case qs_3 => k_mem); (case ql_3 => (rw [ins_length]; omega)); (case qi_3 => exact ((its_ins_h hitHS hthHS hhighb).mono HS3).mono fun p hp => by simp [hp]))
        intro h23 tk23 F23 N23
        k_steps
        k_dflt (refine' row_end F23 (led_h N23) own3 HS3 (ins_ints hIo _ _ _) hIn (srt_high hso _) hsn (its_ins_h hitHS hthHS hhighb) ?pe_3 HS4 hIoff HSI rfl rfl rfl rfl; (case pe_3 => (rw [ins_length]; omega)))
    · k_steps
      refine Halt.out ?_
      k_dflt (refine' ord_item ?k1_4 ?_ ?k2_4)
      case k1_4 => exact News.isList (by k_asm) (by k_mem)
      case k2_4 => with_unfolding_all rfl
      intro tq
      k_steps
      refine Halt.out ?_
      rename Fr _ _ _ _ => F2
      rename News _ _ _ _ => N3
      have N4 : News _ _ _ ((row, listOf vs.toArray k1) :: (due, listOf vs.toArray k2) :: (ord, listOf ows.toArray k3) :: (num, listOf nws.toArray k4) :: tl) := cb_drop N3 (fun p hp => List.mem_cons_of_mem _ (List.mem_cons_of_mem _ hp))
      clear N3
      k_dflt (refine' handler_call ?zb_4 F2 ?zx_4 N4 ?zt_4 rfl ?zd_4 ?zu_4 hy0 hy1 ?_; (case zb_4 => k_asm); (case zx_4 => k_asm); (case zt_4 => k_asm); (case zd_4 => ktr_room); (case zu_4 => ktr_units))
      intro hx hdx C es ne h5 tk5 ho F5 N5 lt1 lt2
      k_steps
      refine Halt.out ?_
      rename Fr _ _ _ _ => F6
      rename News _ _ _ _ => N6
      k_dflt (refine' ph_call ?yb_4 F6 ?yx_4 N6 ?yt_4 rfl ?yd_4 ?yu_4 ?ym_4 hIo ?yl_4 ?y0_4 ?y1_4 ?_; (case yb_4 => k_asm); (case yx_4 => k_asm); (case yt_4 => k_asm); (case yd_4 => ktr_room); (case yu_4 => ktr_units); (case ym_4 => k_mem); (case yl_4 => omega); (case y0_4 => omega); (case y1_4 => omega))
      intro pl v1 v2 h7 tk7 T1 T2 F7 N7 lt7
      have z1 := ltN (lt1 (row, listOf vs.toArray k1) (by simp))
      have z2 := ltN (lt1 (due, listOf vs.toArray k2) (by simp))
      have z3 := ltN (lt1 (ord, listOf ows.toArray k3) (by simp))
      have z4 := ltN (lt1 (num, listOf nws.toArray k4) (by simp))
      have z5 := ltN (lt1 (I, oI) (by simp [hItl]))
      have z6 := ltN lt2
      have z7 := ltN (lt7 (row, listOf vs.toArray k1) (by simp))
      dsimp only at z1 z2 z3 z4 z5 z7
      have hx4 : hx ≠ row ∧ hx ≠ due ∧ hx ≠ ord ∧ hx ≠ num := ⟨neN (by omega), neN (by omega), neN (by omega), neN (by omega)⟩
      have hdx4 : hdx ≠ row ∧ hdx ≠ due ∧ hdx ≠ ord ∧ hdx ≠ num := ⟨neN (by omega), neN (by omega), neN (by omega), neN (by omega)⟩
      have hxI : hx ≠ I := neN (by omega)
      have hdxI : hdx ≠ I := neN (by omega)
      have o3 : pl ≠ row := neN (by omega)
      obtain ⟨HS, hHS⟩ : ∃ R, R = (hx, instObj C hdx) :: (hdx, dictOf es ne) :: hs := ⟨_, rfl⟩
      have HS4 : ∀ p ∈ HS, p.1 ≠ row ∧ p.1 ≠ due ∧ p.1 ≠ ord ∧ p.1 ≠ num := by rw [hHS]; exact List.forall_mem_cons.mpr ⟨hx4, List.forall_mem_cons.mpr ⟨hdx4, hhs⟩⟩
      have HSI : ∀ p ∈ HS, p.1 ≠ I := by rw [hHS]; exact List.forall_mem_cons.mpr ⟨hxI, List.forall_mem_cons.mpr ⟨hdxI, hoffI⟩⟩
      have hitHS : ItsAre HS vs (itsOf os ns) := hits.mono fun p hp => by rw [hHS]; simp [hp]
      have hthHS : IsIt HS (.ref hx) (.h (ordOf ((n.fdiv 4).fmod 105))) := IsIt.h (C := C) (dx := hdx) (es := es) (n := ne) (by rw [hHS]; simp) (by rw [hHS]; simp) ho
      obtain ⟨T3, hT3⟩ : ∃ R, R = (hx, instObj C hdx) :: (hdx, dictOf es ne) :: tl := ⟨_, rfl⟩
      have HS3 : ∀ p ∈ HS, p ∈ T3 := by
        rw [hHS, hT3]; intro p hp
        simp only [List.mem_cons] at hp ⊢
        rcases hp with h | h | h
        · simp [h]
        · simp [h]
        · simp [htl, h]
      have own3 : ∀ p ∈ own, p ∈ T3 := fun p hp => by rw [hT3, htl]; simp [hp]
      have off3r : ∀ p ∈ T3, p.1 ≠ row := by rw [hT3]; exact off_cons hx4.1 (off_cons hdx4.1 offr)
      have off3d : ∀ p ∈ T3, p.1 ≠ due := by rw [hT3]; exact off_cons hx4.2.1 (off_cons hdx4.2.1 offd)
      have off3o : ∀ p ∈ T3, p.1 ≠ ord := by rw [hT3]; exact off_cons hx4.2.2.1 (off_cons hdx4.2.2.1 offo)
      have hth3 : IsIt T3 (.ref hx) (.h (ordOf ((n.fdiv 4).fmod 105))) := hthHS.mono HS3
      have hs3 : ∀ p ∈ hs, p ∈ T3 := fun p hp => by rw [hT3, htl]; simp [hp]
      have dr : ∀ p, p = (hx, instObj C hdx) ∨ p = (hdx, dictOf es ne) ∨ p ∈ tl ↔ p ∈ T3 := fun p => by rw [hT3]; simp only [List.mem_cons]
      have hlowb : lowN os (ordOf ((n.fdiv 4).fmod 105)) ≤ os.length := low_le ..
      have hhighb : highN os (ordOf ((n.fdiv 4).fmod 105)) ≤ os.length := high_le ..
      have bL := bis_Lh (ns := ns) (o := (ordOf ((n.fdiv 4).fmod 105))) hso hovn (by omega)
      have bR := bis_Rh (ns := ns) (o := (ordOf ((n.fdiv 4).fmod 105))) hso hovn (by omega)
      rw [← hovn] at T1
      cases hr : refH (vs.length : Int) os.length (lowN os (ordOf ((n.fdiv 4).fmod 105))) with
      | false =>
        rw [hr] at bL T1
        obtain ⟨t1, rfl⟩ := T1
        obtain ⟨t2, rfl⟩ := T2
        obtain ⟨R2, hR2⟩ : ∃ R, R = (due, listOf vs.toArray k2) :: (ord, listOf ows.toArray k3) :: (num, listOf nws.toArray k4) :: T3 := ⟨_, rfl⟩
        have offR2 : ∀ p ∈ R2, p.1 ≠ row := by rw [hR2]; exact off_cons d1.symm (off_cons d2.symm (off_cons d3.symm off3r))
        have hitR2 : ItsAre R2 vs (itsOf os ns) := (hitHS.mono HS3).mono fun p hp => by rw [hR2]; simp [hp]
        have hthR2 : IsIt R2 (.ref hx) (.h (ordOf ((n.fdiv 4).fmod 105))) := hth3.mono fun p hp => by rw [hR2]; simp [hp]
        obtain ⟨R, hR⟩ : ∃ R, R = (pl, listOf #[Value.int ((lowN os (ordOf ((n.fdiv 4).fmod 105)) : Nat) : Int) t1, Value.int ((highN os (ordOf ((n.fdiv 4).fmod 105)) : Nat) : Int) t2] 0) :: R2 := ⟨_, rfl⟩
        have offR : ∀ p ∈ R, p.1 ≠ row := by rw [hR]; exact off_cons o3 offR2
        have hitR : ItsAre R vs (itsOf os ns) := hitR2.mono fun p hp => by rw [hR]; simp [hp]
        have hthR : IsIt R (.ref hx) (.h (ordOf ((n.fdiv 4).fmod 105))) := hthR2.mono fun p hp => by rw [hR]; simp [hp]
        k_steps
        refine Halt.out ?_
        rename Fr _ _ _ _ => F8
        rename News _ _ _ _ => N8
        have N9 : News _ _ _ ((row, listOf vs.toArray k1) :: R) := cb_drop N8 (fun p hp => by
          rw [hR, hR2, hT3] at hp
          simp only [List.mem_cons] at hp ⊢
          rcases hp with h | h | h | h | h | h | h | h
          all_goals simp [h])
        clear N8
        k_dflt (refine' told_bl ?xab_5 F8 ?xax_5 N9 ?xat_5 rfl ?xad_5 ?xau_5 offR (by omega) hitR hthR ?xaq_5 ?xae_5; (case xab_5 => k_asm); (case xax_5 => k_asm); (case xat_5 => k_asm); (case xad_5 => ktr_room); (case xau_5 => ktr_units))
        case xae_5 => intro hn; rw [bL] at hn; cases hn
        intro p tp hxa tkxa hp Fxa Nxa
        rw [bL] at hp; cases hp
        k_steps
        refine Halt.out ?_
        rename Fr _ _ _ _ => F11
        rename News _ _ _ _ => N11
        k_dflt (refine' told_br ?xbb_5 F11 ?xbx_5 N11 ?xbt_5 rfl ?xbd_5 ?xbu_5 offR (by omega) hitR hthR ?xbq_5 ?xbe_5; (case xbb_5 => k_asm); (case xbx_5 => k_asm); (case xbt_5 => k_asm); (case xbd_5 => ktr_room); (case xbu_5 => ktr_units))
        case xbe_5 => intro hn; rw [bR] at hn; cases hn
        intro p tp hxb tkxb hp Fxb Nxb
        rw [bR] at hp; cases hp
        rw [hR] at Nxb
        clear hR offR hitR hthR
        k_steps
        · exfalso; rename (List.any _ _ = true) => hab; rw [hk4] at hab; exact absurd hab (by decide)
        refine Halt.out ?_
        rename Fr _ _ _ _ => F13
        rename News _ _ _ _ => N13
        have N14 : News _ _ _ ((row, listOf vs.toArray k1) :: R2) := cb_drop N13 (fun p hp => by
          simp only [List.mem_cons] at hp ⊢
          rcases hp with h | h
          all_goals simp [h])
        clear N13
        k_dflt (refine' told_il ?xcb_5 F13 ?xcx_5 N14 ?xct_5 rfl ?xcd_5 ?xcu_5 offR2 (by omega) hitR2 hthR2 ?xcq_5 ?xce_5; (case xcb_5 => k_asm); (case xcx_5 => k_asm); (case xct_5 => k_asm); (case xcd_5 => ktr_room); (case xcu_5 => ktr_units))
        case xce_5 => intro hn; rw [bL] at hn; cases hn
        intro p hxc tkxc hp Fxc Nxc
        rw [bL] at hp; cases hp
        clear offR2 hitR2 hthR2
        rw [hR2] at Nxc
        k_steps
        refine Halt.out ?_
        rename Fr _ _ _ _ => F16
        rename News _ _ _ _ => N16
        have N17 := led_ba N16
        clear N16
        k_dflt (refine' li_insert F16 N17 (off_cons d1 (off_cons d4.symm (off_cons d5.symm off3d))) ?ue_5 ?up_5 ?uz_5 ?_; (case ue_5 => exact rfl); (case up_5 => omega); (case uz_5 => omega))
        intro h18 F18 N18
        k_steps
        refine Halt.out ?_
        rename Fr _ _ _ _ => F19
        rename News _ _ _ _ => N19
        have N20 := led_cba N19
        clear N19
        k_dflt (refine' li_insert F19 N20 (off_cons d4 (off_cons d2 (off_cons d6.symm off3o))) ?re_5 ?rp_5 ?rz_5 ?_; (case re_5 => exact rfl); (case rp_5 => omega); (case rz_5 => (rw [hIo.length]; omega)))
        intro h21 F21 N21
        k_steps
        refine Halt.out ?_
        rename Fr _ _ _ _ => F22
        rename News _ _ _ _ => N22
        k_dflt (refine' same_call ?qb_5 F22 ?qx_5 N22 ?qt_5 rfl ?qd_5 ?qu_5 ?qr_5 ?qs_5 ?ql_5 ?qi_5 ?_; (case qb_5 => k_asm); (case qx_5 => k_asm); (case qt_5 => k_asm); (case qd_5 => ktr_room); (case qu_5 => ktr_units); (case qr_5 => k_mem); (case qs_5 => k_mem); (case ql_5 => (rw [ins_length]; omega)); (case qi_5 => exact ((its_ins_h hitHS hthHS hlowb).mono HS3).mono fun p hp => by simp [hp]))
        intro h23 tk23 F23 N23
        k_steps
        k_dflt (refine' row_end F23 (led_h N23) own3 HS3 (ins_ints hIo _ _ _) hIn (srt_low hso _) hsn (its_ins_h hitHS hthHS hlowb) ?pe_5 HS4 hIoff HSI rfl rfl rfl rfl; (case pe_5 => (rw [ins_length]; omega)))
      | true =>
        rw [hr] at bL T1
        obtain ⟨t1, rfl⟩ := T1
        obtain ⟨t2, rfl⟩ := T2
        obtain ⟨R2, hR2⟩ : ∃ R, R = (due, listOf vs.toArray k2) :: (ord, listOf ows.toArray k3) :: (num, listOf nws.toArray k4) :: T3 := ⟨_, rfl⟩
        have offR2 : ∀ p ∈ R2, p.1 ≠ row := by rw [hR2]; exact off_cons d1.symm (off_cons d2.symm (off_cons d3.symm off3r))
        have hitR2 : ItsAre R2 vs (itsOf os ns) := (hitHS.mono HS3).mono fun p hp => by rw [hR2]; simp [hp]
        have hthR2 : IsIt R2 (.ref hx) (.h (ordOf ((n.fdiv 4).fmod 105))) := hth3.mono fun p hp => by rw [hR2]; simp [hp]
        obtain ⟨R, hR⟩ : ∃ R, R = (pl, listOf #[Value.str (Str.ofString "refused") t1, Value.int ((highN os (ordOf ((n.fdiv 4).fmod 105)) : Nat) : Int) t2] 0) :: R2 := ⟨_, rfl⟩
        have offR : ∀ p ∈ R, p.1 ≠ row := by rw [hR]; exact off_cons o3 offR2
        have hitR : ItsAre R vs (itsOf os ns) := hitR2.mono fun p hp => by rw [hR]; simp [hp]
        have hthR : IsIt R (.ref hx) (.h (ordOf ((n.fdiv 4).fmod 105))) := hthR2.mono fun p hp => by rw [hR]; simp [hp]
        k_steps
        refine Halt.out ?_
        rename Fr _ _ _ _ => F8
        rename News _ _ _ _ => N8
        have N9 : News _ _ _ ((row, listOf vs.toArray k1) :: R) := cb_drop N8 (fun p hp => by
          rw [hR, hR2, hT3] at hp
          simp only [List.mem_cons] at hp ⊢
          rcases hp with h | h | h | h | h | h | h | h
          all_goals simp [h])
        clear N8
        k_dflt (refine' told_bl ?xab_6 F8 ?xax_6 N9 ?xat_6 rfl ?xad_6 ?xau_6 offR (by omega) hitR hthR ?xaq_6 ?xae_6; (case xab_6 => k_asm); (case xax_6 => k_asm); (case xat_6 => k_asm); (case xad_6 => ktr_room); (case xau_6 => ktr_units))
        case xaq_6 => intro p tp hxa tkxa hp; rw [bL] at hp; cases hp
        intro hn tp hxa tkxa Fxa Nxa
        k_steps
        refine Halt.out ?_
        rename Fr _ _ _ _ => F11
        rename News _ _ _ _ => N11
        k_dflt (refine' told_br ?xbb_6 F11 ?xbx_6 N11 ?xbt_6 rfl ?xbd_6 ?xbu_6 offR (by omega) hitR hthR ?xbq_6 ?xbe_6; (case xbb_6 => k_asm); (case xbx_6 => k_asm); (case xbt_6 => k_asm); (case xbd_6 => ktr_room); (case xbu_6 => ktr_units))
        case xbe_6 => intro hn; rw [bR] at hn; cases hn
        intro p tp hxb tkxb hp Fxb Nxb
        rw [bR] at hp; cases hp
        rw [hR] at Nxb
        clear hR offR hitR hthR
        k_steps
        · exfalso; rename (List.any _ _ = true) => hab; rw [hk4] at hab; exact absurd hab (by decide)
        refine Halt.out ?_
        rename Fr _ _ _ _ => F13
        rename News _ _ _ _ => N13
        have N14 : News _ _ _ ((row, listOf vs.toArray k1) :: R2) := cb_drop N13 (fun p hp => by
          simp only [List.mem_cons] at hp ⊢
          rcases hp with h | h
          all_goals simp [h])
        clear N13
        k_dflt (refine' told_il ?xcb_6 F13 ?xcx_6 N14 ?xct_6 rfl ?xcd_6 ?xcu_6 offR2 (by omega) hitR2 hthR2 ?xcq_6 ?xce_6; (case xcb_6 => k_asm); (case xcx_6 => k_asm); (case xct_6 => k_asm); (case xcd_6 => ktr_room); (case xcu_6 => ktr_units))
        case xcq_6 => intro p hxc tkxc hp; rw [bL] at hp; cases hp
        intro hn tp hxc tkxc Fxc Nxc
        clear offR2 hitR2 hthR2
        rw [hR2] at Nxc
        k_steps
        refine Halt.out ?_
        rename Fr _ _ _ _ => F22
        rename News _ _ _ _ => N22
        k_dflt (refine' same_call ?qb_6 F22 ?qx_6 N22 ?qt_6 rfl ?qd_6 ?qu_6 ?qr_6 ?qs_6 ?ql_6 ?qi_6 ?_; (case qb_6 => k_asm); (case qx_6 => k_asm); (case qt_6 => k_asm); (case qd_6 => ktr_room); (case qu_6 => ktr_units); (case qr_6 => k_mem); (case qs_6 => k_mem); (case ql_6 => omega); (case qi_6 => exact (hitHS.mono HS3).mono fun p hp => by simp [hp]))
        intro h23 tk23 F23 N23
        k_steps
        k_dflt (refine' row_end F23 (cb_drop N23 fun p hp => List.mem_cons_of_mem _ hp) own3 hs3 hIo hIn hso hsn hits ?pe_6 hhs hIoff hoffI rfl rfl rfl rfl; (case pe_6 => omega))
    · k_steps
      refine Halt.out ?_
      rename Fr _ _ _ _ => F6
      rename News _ _ _ _ => N3
      have N6 : News _ _ _ ((row, listOf vs.toArray k1) :: (due, listOf vs.toArray k2) :: (ord, listOf ows.toArray k3) :: (num, listOf nws.toArray k4) :: tl) := cb_drop N3 (fun p hp => List.mem_cons_of_mem _ hp)
      clear N3
      k_dflt (refine' pn_call ?yb_7 F6 ?yx_7 N6 ?yt_7 rfl ?yd_7 ?yu_7 ?ym_7 hIn ?yl_7 ?y0_7 ?_; (case yb_7 => k_asm); (case yx_7 => k_asm); (case yt_7 => k_asm); (case yd_7 => ktr_room); (case yu_7 => ktr_units); (case ym_7 => k_mem); (case yl_7 => omega); (case y0_7 => omega))
      intro pl v1 v2 h7 tk7 T1 T2 F7 N7 lt7
      have z7 := ltN (lt7 (row, listOf vs.toArray k1) (by simp))
      dsimp only at z7
      have o3 : pl ≠ row := neN (by omega)
      obtain ⟨HS, hHS⟩ : ∃ R, R = hs := ⟨_, rfl⟩
      have HS4 : ∀ p ∈ HS, p.1 ≠ row ∧ p.1 ≠ due ∧ p.1 ≠ ord ∧ p.1 ≠ num := by rw [hHS]; exact hhs
      have HSI : ∀ p ∈ HS, p.1 ≠ I := by rw [hHS]; exact hoffI
      have hitHS : ItsAre HS vs (itsOf os ns) := by rw [hHS]; exact hits
      obtain ⟨T3, hT3⟩ : ∃ R, R = tl := ⟨_, rfl⟩
      have HS3 : ∀ p ∈ HS, p ∈ T3 := fun p hp => by rw [hHS] at hp; rw [hT3, htl]; simp [hp]
      have own3 : ∀ p ∈ own, p ∈ T3 := fun p hp => by rw [hT3, htl]; simp [hp]
      have hs3 : ∀ p ∈ hs, p ∈ T3 := fun p hp => by rw [hT3, htl]; simp [hp]
      have off3r : ∀ p ∈ T3, p.1 ≠ row := by rw [hT3]; exact offr
      have off3d : ∀ p ∈ T3, p.1 ≠ due := by rw [hT3]; exact offd
      have off3n : ∀ p ∈ T3, p.1 ≠ num := by rw [hT3]; exact offn
      have hlowb : lowN ns (((n.fdiv 4).fmod 105).fmod 5 * 500) ≤ ns.length := low_le ..
      have hhighb : highN ns (((n.fdiv 4).fmod 105).fmod 5 * 500) ≤ ns.length := high_le ..
      have bL := bis_Ln (os := os) (k := (((n.fdiv 4).fmod 105).fmod 5 * 500)) hsn hovn (by omega)
      have bR := bis_Rn (os := os) (k := (((n.fdiv 4).fmod 105).fmod 5 * 500)) hsn hovn (by omega)
      rw [show ((os.length : Int) + (ns.length : Int)) = (vs.length : Int) from by omega] at T2
      cases hr : refN (vs.length : Int) os.length (os.length + highN ns (((n.fdiv 4).fmod 105).fmod 5 * 500)) with
      | false =>
        rw [hr] at bR T2
        obtain ⟨t1, rfl⟩ := T1
        obtain ⟨t2, rfl⟩ := T2
        obtain ⟨R2, hR2⟩ : ∃ R, R = (due, listOf vs.toArray k2) :: (ord, listOf ows.toArray k3) :: (num, listOf nws.toArray k4) :: T3 := ⟨_, rfl⟩
        have offR2 : ∀ p ∈ R2, p.1 ≠ row := by rw [hR2]; exact off_cons d1.symm (off_cons d2.symm (off_cons d3.symm off3r))
        have hitR2 : ItsAre R2 vs (itsOf os ns) := (hitHS.mono HS3).mono fun p hp => by rw [hR2]; simp [hp]
        obtain ⟨R, hR⟩ : ∃ R, R = (pl, listOf #[Value.int ((os.length + lowN ns (((n.fdiv 4).fmod 105).fmod 5 * 500) : Nat) : Int) t1, Value.int ((os.length + highN ns (((n.fdiv 4).fmod 105).fmod 5 * 500) : Nat) : Int) t2] 0) :: R2 := ⟨_, rfl⟩
        have offR : ∀ p ∈ R, p.1 ≠ row := by rw [hR]; exact off_cons o3 offR2
        have hitR : ItsAre R vs (itsOf os ns) := hitR2.mono fun p hp => by rw [hR]; simp [hp]
        k_steps
        refine Halt.out ?_
        rename Fr _ _ _ _ => F8
        rename News _ _ _ _ => N8
        have N9 : News _ _ _ ((row, listOf vs.toArray k1) :: R) := cb_drop N8 (fun p hp => by
          rw [hR, hR2, hT3] at hp
          simp only [List.mem_cons] at hp ⊢
          rcases hp with h | h | h | h | h | h
          all_goals simp [h])
        clear N8
        k_dflt (refine' told_bl ?xab_8 F8 ?xax_8 N9 ?xat_8 rfl ?xad_8 ?xau_8 offR (by omega) hitR .n ?xaq_8 ?xae_8; (case xab_8 => k_asm); (case xax_8 => k_asm); (case xat_8 => k_asm); (case xad_8 => ktr_room); (case xau_8 => ktr_units))
        case xae_8 => intro hn; rw [bL] at hn; cases hn
        intro p tp hxa tkxa hp Fxa Nxa
        rw [bL] at hp; cases hp
        k_steps
        refine Halt.out ?_
        rename Fr _ _ _ _ => F11
        rename News _ _ _ _ => N11
        k_dflt (refine' told_br ?xbb_8 F11 ?xbx_8 N11 ?xbt_8 rfl ?xbd_8 ?xbu_8 offR (by omega) hitR .n ?xbq_8 ?xbe_8; (case xbb_8 => k_asm); (case xbx_8 => k_asm); (case xbt_8 => k_asm); (case xbd_8 => ktr_room); (case xbu_8 => ktr_units))
        case xbe_8 => intro hn; rw [bR] at hn; cases hn
        intro p tp hxb tkxb hp Fxb Nxb
        rw [bR] at hp; cases hp
        rw [hR] at Nxb
        clear hR offR hitR
        k_steps
        · exfalso; rename (List.any _ _ = true) => hab; rw [hk4] at hab; exact absurd hab (by decide)
        refine Halt.out ?_
        rename Fr _ _ _ _ => F13
        rename News _ _ _ _ => N13
        have N14 : News _ _ _ ((row, listOf vs.toArray k1) :: R2) := cb_drop N13 (fun p hp => by
          simp only [List.mem_cons] at hp ⊢
          rcases hp with h | h
          all_goals simp [h])
        clear N13
        k_dflt (refine' told_il ?xcb_8 F13 ?xcx_8 N14 ?xct_8 rfl ?xcd_8 ?xcu_8 offR2 (by omega) hitR2 .n ?xcq_8 ?xce_8; (case xcb_8 => k_asm); (case xcx_8 => k_asm); (case xct_8 => k_asm); (case xcd_8 => ktr_room); (case xcu_8 => ktr_units))
        case xce_8 => intro hn; rw [bL] at hn; cases hn
        intro p hxc tkxc hp Fxc Nxc
        rw [bL] at hp; cases hp
        clear offR2 hitR2
        rw [hR2] at Nxc
        k_steps
        refine Halt.out ?_
        rename Fr _ _ _ _ => F16
        rename News _ _ _ _ => N16
        have N17 := led_ba N16
        clear N16
        k_dflt (refine' li_insert F16 N17 (off_cons d1 (off_cons d4.symm (off_cons d5.symm off3d))) ?ue_8 ?up_8 ?uz_8 ?_; (case ue_8 => exact rfl); (case up_8 => omega); (case uz_8 => omega))
        intro h18 F18 N18
        k_steps
        refine Halt.out ?_
        rename Fr _ _ _ _ => F19
        rename News _ _ _ _ => N19
        have N20 := led_dbac N19
        clear N19
        k_dflt (refine' li_insert (p := lowN ns (((n.fdiv 4).fmod 105).fmod 5 * 500)) F19 N20 (off_cons d5 (off_cons d3 (off_cons d6 off3n))) ?re_8 ?rp_8 ?rz_8 ?_; (case re_8 => (show (((os.length + lowN ns (((n.fdiv 4).fmod 105).fmod 5 * 500) : Nat) : Int)) - (os.length : Int) = _; omega)); (case rp_8 => omega); (case rz_8 => (rw [hIn.length]; omega)))
        intro h21 F21 N21
        k_steps
        refine Halt.out ?_
        rename Fr _ _ _ _ => F22
        rename News _ _ _ _ => N22
        k_dflt (refine' same_call ?qb_8 F22 ?qx_8 N22 ?qt_8 rfl ?qd_8 ?qu_8 ?qr_8 ?qs_8 ?ql_8 ?qi_8 ?_; (case qb_8 => k_asm); (case qx_8 => k_asm); (case qt_8 => k_asm); (case qd_8 => ktr_room); (case qu_8 => ktr_units); (case qr_8 => k_mem); (case qs_8 => k_mem); (case ql_8 => (rw [ins_length]; omega)); (case qi_8 => exact ((its_ins_n hitHS hlowb).mono HS3).mono fun p hp => by simp [hp]))
        intro h23 tk23 F23 N23
        k_steps
        k_dflt (refine' row_end F23 (led_n N23) own3 HS3 hIo (ins_ints hIn _ _ _) hso (srt_low hsn _) (its_ins_n hitHS hlowb) ?pe_8 HS4 hIoff HSI rfl rfl rfl rfl; (case pe_8 => (rw [ins_length]; omega)))
      | true =>
        rw [hr] at bR T2
        obtain ⟨t1, rfl⟩ := T1
        obtain ⟨t2, rfl⟩ := T2
        obtain ⟨R2, hR2⟩ : ∃ R, R = (due, listOf vs.toArray k2) :: (ord, listOf ows.toArray k3) :: (num, listOf nws.toArray k4) :: T3 := ⟨_, rfl⟩
        have offR2 : ∀ p ∈ R2, p.1 ≠ row := by rw [hR2]; exact off_cons d1.symm (off_cons d2.symm (off_cons d3.symm off3r))
        have hitR2 : ItsAre R2 vs (itsOf os ns) := (hitHS.mono HS3).mono fun p hp => by rw [hR2]; simp [hp]
        obtain ⟨R, hR⟩ : ∃ R, R = (pl, listOf #[Value.int ((os.length + lowN ns (((n.fdiv 4).fmod 105).fmod 5 * 500) : Nat) : Int) t1, Value.str (Str.ofString "refused") t2] 0) :: R2 := ⟨_, rfl⟩
        have offR : ∀ p ∈ R, p.1 ≠ row := by rw [hR]; exact off_cons o3 offR2
        have hitR : ItsAre R vs (itsOf os ns) := hitR2.mono fun p hp => by rw [hR]; simp [hp]
        k_steps
        refine Halt.out ?_
        rename Fr _ _ _ _ => F8
        rename News _ _ _ _ => N8
        have N9 : News _ _ _ ((row, listOf vs.toArray k1) :: R) := cb_drop N8 (fun p hp => by
          rw [hR, hR2, hT3] at hp
          simp only [List.mem_cons] at hp ⊢
          rcases hp with h | h | h | h | h | h
          all_goals simp [h])
        clear N8
        k_dflt (refine' told_bl ?xab_9 F8 ?xax_9 N9 ?xat_9 rfl ?xad_9 ?xau_9 offR (by omega) hitR .n ?xaq_9 ?xae_9; (case xab_9 => k_asm); (case xax_9 => k_asm); (case xat_9 => k_asm); (case xad_9 => ktr_room); (case xau_9 => ktr_units))
        case xae_9 => intro hn; rw [bL] at hn; cases hn
        intro p tp hxa tkxa hp Fxa Nxa
        rw [bL] at hp; cases hp
        k_steps
        refine Halt.out ?_
        rename Fr _ _ _ _ => F11
        rename News _ _ _ _ => N11
        k_dflt (refine' told_br ?xbb_9 F11 ?xbx_9 N11 ?xbt_9 rfl ?xbd_9 ?xbu_9 offR (by omega) hitR .n ?xbq_9 ?xbe_9; (case xbb_9 => k_asm); (case xbx_9 => k_asm); (case xbt_9 => k_asm); (case xbd_9 => ktr_room); (case xbu_9 => ktr_units))
        case xbq_9 => intro p tp hxb tkxb hp; rw [bR] at hp; cases hp
        intro hn tp hxb tkxb Fxb Nxb
        rw [hR] at Nxb
        clear hR offR hitR
        k_steps
        · exfalso; rename (List.any _ _ = true) => hab; rw [hk4] at hab; exact absurd hab (by decide)
        refine Halt.out ?_
        rename Fr _ _ _ _ => F13
        rename News _ _ _ _ => N13
        have N14 : News _ _ _ ((row, listOf vs.toArray k1) :: R2) := cb_drop N13 (fun p hp => by
          simp only [List.mem_cons] at hp ⊢
          rcases hp with h | h
          all_goals simp [h])
        clear N13
        k_dflt (refine' told_il ?xcb_9 F13 ?xcx_9 N14 ?xct_9 rfl ?xcd_9 ?xcu_9 offR2 (by omega) hitR2 .n ?xcq_9 ?xce_9; (case xcb_9 => k_asm); (case xcx_9 => k_asm); (case xct_9 => k_asm); (case xcd_9 => ktr_room); (case xcu_9 => ktr_units))
        case xce_9 => intro hn; rw [bL] at hn; cases hn
        intro p hxc tkxc hp Fxc Nxc
        rw [bL] at hp; cases hp
        clear offR2 hitR2
        rw [hR2] at Nxc
        k_steps
        refine Halt.out ?_
        rename Fr _ _ _ _ => F16
        rename News _ _ _ _ => N16
        have N17 := led_ba N16
        clear N16
        k_dflt (refine' li_insert F16 N17 (off_cons d1 (off_cons d4.symm (off_cons d5.symm off3d))) ?ue_9 ?up_9 ?uz_9 ?_; (case ue_9 => exact rfl); (case up_9 => omega); (case uz_9 => omega))
        intro h18 F18 N18
        k_steps
        refine Halt.out ?_
        rename Fr _ _ _ _ => F19
        rename News _ _ _ _ => N19
        have N20 := led_dbac N19
        clear N19
        k_dflt (refine' li_insert (p := lowN ns (((n.fdiv 4).fmod 105).fmod 5 * 500)) F19 N20 (off_cons d5 (off_cons d3 (off_cons d6 off3n))) ?re_9 ?rp_9 ?rz_9 ?_; (case re_9 => (show (((os.length + lowN ns (((n.fdiv 4).fmod 105).fmod 5 * 500) : Nat) : Int)) - (os.length : Int) = _; omega)); (case rp_9 => omega); (case rz_9 => (rw [hIn.length]; omega)))
        intro h21 F21 N21
        k_steps
        refine Halt.out ?_
        rename Fr _ _ _ _ => F22
        rename News _ _ _ _ => N22
        k_dflt (refine' same_call ?qb_9 F22 ?qx_9 N22 ?qt_9 rfl ?qd_9 ?qu_9 ?qr_9 ?qs_9 ?ql_9 ?qi_9 ?_; (case qb_9 => k_asm); (case qx_9 => k_asm); (case qt_9 => k_asm); (case qd_9 => ktr_room); (case qu_9 => ktr_units); (case qr_9 => k_mem); (case qs_9 => k_mem); (case ql_9 => (rw [ins_length]; omega)); (case qi_9 => exact ((its_ins_n hitHS hlowb).mono HS3).mono fun p hp => by simp [hp]))
        intro h23 tk23 F23 N23
        k_steps
        k_dflt (refine' row_end F23 (led_n N23) own3 HS3 hIo (ins_ints hIn _ _ _) hso (srt_low hsn _) (its_ins_n hitHS hlowb) ?pe_9 HS4 hIoff HSI rfl rfl rfl rfl; (case pe_9 => (rw [ins_length]; omega)))
    · k_steps
      refine Halt.out ?_
      rename Fr _ _ _ _ => F6
      rename News _ _ _ _ => N3
      have N6 : News _ _ _ ((row, listOf vs.toArray k1) :: (due, listOf vs.toArray k2) :: (ord, listOf ows.toArray k3) :: (num, listOf nws.toArray k4) :: tl) := cb_drop N3 (fun p hp => List.mem_cons_of_mem _ hp)
      clear N3
      k_dflt (refine' pn_call ?yb_10 F6 ?yx_10 N6 ?yt_10 rfl ?yd_10 ?yu_10 ?ym_10 hIn ?yl_10 ?y0_10 ?_; (case yb_10 => k_asm); (case yx_10 => k_asm); (case yt_10 => k_asm); (case yd_10 => ktr_room); (case yu_10 => ktr_units); (case ym_10 => k_mem); (case yl_10 => omega); (case y0_10 => omega))
      intro pl v1 v2 h7 tk7 T1 T2 F7 N7 lt7
      have z7 := ltN (lt7 (row, listOf vs.toArray k1) (by simp))
      dsimp only at z7
      have o3 : pl ≠ row := neN (by omega)
      obtain ⟨HS, hHS⟩ : ∃ R, R = hs := ⟨_, rfl⟩
      have HS4 : ∀ p ∈ HS, p.1 ≠ row ∧ p.1 ≠ due ∧ p.1 ≠ ord ∧ p.1 ≠ num := by rw [hHS]; exact hhs
      have HSI : ∀ p ∈ HS, p.1 ≠ I := by rw [hHS]; exact hoffI
      have hitHS : ItsAre HS vs (itsOf os ns) := by rw [hHS]; exact hits
      obtain ⟨T3, hT3⟩ : ∃ R, R = tl := ⟨_, rfl⟩
      have HS3 : ∀ p ∈ HS, p ∈ T3 := fun p hp => by rw [hHS] at hp; rw [hT3, htl]; simp [hp]
      have own3 : ∀ p ∈ own, p ∈ T3 := fun p hp => by rw [hT3, htl]; simp [hp]
      have hs3 : ∀ p ∈ hs, p ∈ T3 := fun p hp => by rw [hT3, htl]; simp [hp]
      have off3r : ∀ p ∈ T3, p.1 ≠ row := by rw [hT3]; exact offr
      have off3d : ∀ p ∈ T3, p.1 ≠ due := by rw [hT3]; exact offd
      have off3n : ∀ p ∈ T3, p.1 ≠ num := by rw [hT3]; exact offn
      have hlowb : lowN ns (((n.fdiv 4).fmod 105).fmod 5 * 500) ≤ ns.length := low_le ..
      have hhighb : highN ns (((n.fdiv 4).fmod 105).fmod 5 * 500) ≤ ns.length := high_le ..
      have bL := bis_Ln (os := os) (k := (((n.fdiv 4).fmod 105).fmod 5 * 500)) hsn hovn (by omega)
      have bR := bis_Rn (os := os) (k := (((n.fdiv 4).fmod 105).fmod 5 * 500)) hsn hovn (by omega)
      rw [show ((os.length : Int) + (ns.length : Int)) = (vs.length : Int) from by omega] at T2
      cases hr : refN (vs.length : Int) os.length (os.length + highN ns (((n.fdiv 4).fmod 105).fmod 5 * 500)) with
      | false =>
        rw [hr] at bR T2
        obtain ⟨t1, rfl⟩ := T1
        obtain ⟨t2, rfl⟩ := T2
        obtain ⟨R2, hR2⟩ : ∃ R, R = (due, listOf vs.toArray k2) :: (ord, listOf ows.toArray k3) :: (num, listOf nws.toArray k4) :: T3 := ⟨_, rfl⟩
        have offR2 : ∀ p ∈ R2, p.1 ≠ row := by rw [hR2]; exact off_cons d1.symm (off_cons d2.symm (off_cons d3.symm off3r))
        have hitR2 : ItsAre R2 vs (itsOf os ns) := (hitHS.mono HS3).mono fun p hp => by rw [hR2]; simp [hp]
        obtain ⟨R, hR⟩ : ∃ R, R = (pl, listOf #[Value.int ((os.length + lowN ns (((n.fdiv 4).fmod 105).fmod 5 * 500) : Nat) : Int) t1, Value.int ((os.length + highN ns (((n.fdiv 4).fmod 105).fmod 5 * 500) : Nat) : Int) t2] 0) :: R2 := ⟨_, rfl⟩
        have offR : ∀ p ∈ R, p.1 ≠ row := by rw [hR]; exact off_cons o3 offR2
        have hitR : ItsAre R vs (itsOf os ns) := hitR2.mono fun p hp => by rw [hR]; simp [hp]
        k_steps
        refine Halt.out ?_
        rename Fr _ _ _ _ => F8
        rename News _ _ _ _ => N8
        have N9 : News _ _ _ ((row, listOf vs.toArray k1) :: R) := cb_drop N8 (fun p hp => by
          rw [hR, hR2, hT3] at hp
          simp only [List.mem_cons] at hp ⊢
          rcases hp with h | h | h | h | h | h
          all_goals simp [h])
        clear N8
        k_dflt (refine' told_bl ?xab_11 F8 ?xax_11 N9 ?xat_11 rfl ?xad_11 ?xau_11 offR (by omega) hitR .n ?xaq_11 ?xae_11; (case xab_11 => k_asm); (case xax_11 => k_asm); (case xat_11 => k_asm); (case xad_11 => ktr_room); (case xau_11 => ktr_units))
        case xae_11 => intro hn; rw [bL] at hn; cases hn
        intro p tp hxa tkxa hp Fxa Nxa
        rw [bL] at hp; cases hp
        k_steps
        refine Halt.out ?_
        rename Fr _ _ _ _ => F11
        rename News _ _ _ _ => N11
        k_dflt (refine' told_br ?xbb_11 F11 ?xbx_11 N11 ?xbt_11 rfl ?xbd_11 ?xbu_11 offR (by omega) hitR .n ?xbq_11 ?xbe_11; (case xbb_11 => k_asm); (case xbx_11 => k_asm); (case xbt_11 => k_asm); (case xbd_11 => ktr_room); (case xbu_11 => ktr_units))
        case xbe_11 => intro hn; rw [bR] at hn; cases hn
        intro p tp hxb tkxb hp Fxb Nxb
        rw [bR] at hp; cases hp
        rw [hR] at Nxb
        clear hR offR hitR
        k_steps
        rotate_left
        · exfalso; rename (List.any _ _ = false) => hab; rw [hk4] at hab; exact absurd hab (by decide)
        refine Halt.out ?_
        rename Fr _ _ _ _ => F13
        rename News _ _ _ _ => N13
        have N14 : News _ _ _ ((row, listOf vs.toArray k1) :: R2) := cb_drop N13 (fun p hp => by
          simp only [List.mem_cons] at hp ⊢
          rcases hp with h | h
          all_goals simp [h])
        clear N13
        k_dflt (refine' told_ir ?xcb_11 F13 ?xcx_11 N14 ?xct_11 rfl ?xcd_11 ?xcu_11 offR2 (by omega) hitR2 .n ?xcq_11 ?xce_11; (case xcb_11 => k_asm); (case xcx_11 => k_asm); (case xct_11 => k_asm); (case xcd_11 => ktr_room); (case xcu_11 => ktr_units))
        case xce_11 => intro hn; rw [bR] at hn; cases hn
        intro p hxc tkxc hp Fxc Nxc
        rw [bR] at hp; cases hp
        clear offR2 hitR2
        rw [hR2] at Nxc
        k_steps
        refine Halt.out ?_
        rename Fr _ _ _ _ => F16
        rename News _ _ _ _ => N16
        have N17 := led_ba N16
        clear N16
        k_dflt (refine' li_insert F16 N17 (off_cons d1 (off_cons d4.symm (off_cons d5.symm off3d))) ?ue_11 ?up_11 ?uz_11 ?_; (case ue_11 => exact rfl); (case up_11 => omega); (case uz_11 => omega))
        intro h18 F18 N18
        k_steps
        refine Halt.out ?_
        rename Fr _ _ _ _ => F19
        rename News _ _ _ _ => N19
        have N20 := led_dbac N19
        clear N19
        k_dflt (refine' li_insert (p := highN ns (((n.fdiv 4).fmod 105).fmod 5 * 500)) F19 N20 (off_cons d5 (off_cons d3 (off_cons d6 off3n))) ?re_11 ?rp_11 ?rz_11 ?_; (case re_11 => (show (((os.length + highN ns (((n.fdiv 4).fmod 105).fmod 5 * 500) : Nat) : Int)) - (os.length : Int) = _; omega)); (case rp_11 => omega); (case rz_11 => (rw [hIn.length]; omega)))
        intro h21 F21 N21
        k_steps
        refine Halt.out ?_
        rename Fr _ _ _ _ => F22
        rename News _ _ _ _ => N22
        k_dflt (refine' same_call ?qb_11 F22 ?qx_11 N22 ?qt_11 rfl ?qd_11 ?qu_11 ?qr_11 ?qs_11 ?ql_11 ?qi_11 ?_; (case qb_11 => k_asm); (case qx_11 => k_asm); (case qt_11 => k_asm); (case qd_11 => ktr_room); (case qu_11 => ktr_units); (case qr_11 => k_mem); (case qs_11 => k_mem); (case ql_11 => (rw [ins_length]; omega)); (case qi_11 => exact ((its_ins_n hitHS hhighb).mono HS3).mono fun p hp => by simp [hp]))
        intro h23 tk23 F23 N23
        k_steps
        k_dflt (refine' row_end F23 (led_n N23) own3 HS3 hIo (ins_ints hIn _ _ _) hso (srt_high hsn _) (its_ins_n hitHS hhighb) ?pe_11 HS4 hIoff HSI rfl rfl rfl rfl; (case pe_11 => (rw [ins_length]; omega)))
      | true =>
        rw [hr] at bR T2
        obtain ⟨t1, rfl⟩ := T1
        obtain ⟨t2, rfl⟩ := T2
        obtain ⟨R2, hR2⟩ : ∃ R, R = (due, listOf vs.toArray k2) :: (ord, listOf ows.toArray k3) :: (num, listOf nws.toArray k4) :: T3 := ⟨_, rfl⟩
        have offR2 : ∀ p ∈ R2, p.1 ≠ row := by rw [hR2]; exact off_cons d1.symm (off_cons d2.symm (off_cons d3.symm off3r))
        have hitR2 : ItsAre R2 vs (itsOf os ns) := (hitHS.mono HS3).mono fun p hp => by rw [hR2]; simp [hp]
        obtain ⟨R, hR⟩ : ∃ R, R = (pl, listOf #[Value.int ((os.length + lowN ns (((n.fdiv 4).fmod 105).fmod 5 * 500) : Nat) : Int) t1, Value.str (Str.ofString "refused") t2] 0) :: R2 := ⟨_, rfl⟩
        have offR : ∀ p ∈ R, p.1 ≠ row := by rw [hR]; exact off_cons o3 offR2
        have hitR : ItsAre R vs (itsOf os ns) := hitR2.mono fun p hp => by rw [hR]; simp [hp]
        k_steps
        refine Halt.out ?_
        rename Fr _ _ _ _ => F8
        rename News _ _ _ _ => N8
        have N9 : News _ _ _ ((row, listOf vs.toArray k1) :: R) := cb_drop N8 (fun p hp => by
          rw [hR, hR2, hT3] at hp
          simp only [List.mem_cons] at hp ⊢
          rcases hp with h | h | h | h | h | h
          all_goals simp [h])
        clear N8
        k_dflt (refine' told_bl ?xab_12 F8 ?xax_12 N9 ?xat_12 rfl ?xad_12 ?xau_12 offR (by omega) hitR .n ?xaq_12 ?xae_12; (case xab_12 => k_asm); (case xax_12 => k_asm); (case xat_12 => k_asm); (case xad_12 => ktr_room); (case xau_12 => ktr_units))
        case xae_12 => intro hn; rw [bL] at hn; cases hn
        intro p tp hxa tkxa hp Fxa Nxa
        rw [bL] at hp; cases hp
        k_steps
        refine Halt.out ?_
        rename Fr _ _ _ _ => F11
        rename News _ _ _ _ => N11
        k_dflt (refine' told_br ?xbb_12 F11 ?xbx_12 N11 ?xbt_12 rfl ?xbd_12 ?xbu_12 offR (by omega) hitR .n ?xbq_12 ?xbe_12; (case xbb_12 => k_asm); (case xbx_12 => k_asm); (case xbt_12 => k_asm); (case xbd_12 => ktr_room); (case xbu_12 => ktr_units))
        case xbq_12 => intro p tp hxb tkxb hp; rw [bR] at hp; cases hp
        intro hn tp hxb tkxb Fxb Nxb
        rw [hR] at Nxb
        clear hR offR hitR
        k_steps
        rotate_left
        · exfalso; rename (List.any _ _ = false) => hab; rw [hk4] at hab; exact absurd hab (by decide)
        refine Halt.out ?_
        rename Fr _ _ _ _ => F13
        rename News _ _ _ _ => N13
        have N14 : News _ _ _ ((row, listOf vs.toArray k1) :: R2) := cb_drop N13 (fun p hp => by
          simp only [List.mem_cons] at hp ⊢
          rcases hp with h | h
          all_goals simp [h])
        clear N13
        k_dflt (refine' told_ir ?xcb_12 F13 ?xcx_12 N14 ?xct_12 rfl ?xcd_12 ?xcu_12 offR2 (by omega) hitR2 .n ?xcq_12 ?xce_12; (case xcb_12 => k_asm); (case xcx_12 => k_asm); (case xct_12 => k_asm); (case xcd_12 => ktr_room); (case xcu_12 => ktr_units))
        case xcq_12 => intro p hxc tkxc hp; rw [bR] at hp; cases hp
        intro hn tp hxc tkxc Fxc Nxc
        clear offR2 hitR2
        rw [hR2] at Nxc
        k_steps
        refine Halt.out ?_
        rename Fr _ _ _ _ => F22
        rename News _ _ _ _ => N22
        k_dflt (refine' same_call ?qb_12 F22 ?qx_12 N22 ?qt_12 rfl ?qd_12 ?qu_12 ?qr_12 ?qs_12 ?ql_12 ?qi_12 ?_; (case qb_12 => k_asm); (case qx_12 => k_asm); (case qt_12 => k_asm); (case qd_12 => ktr_room); (case qu_12 => ktr_units); (case qr_12 => k_mem); (case qs_12 => k_mem); (case ql_12 => omega); (case qi_12 => exact (hitHS.mono HS3).mono fun p hp => by simp [hp]))
        intro h23 tk23 F23 N23
        k_steps
        k_dflt (refine' row_end F23 (cb_drop N23 fun p hp => List.mem_cons_of_mem _ hp) own3 hs3 hIo hIn hso hsn hits ?pe_12 hhs hIoff hoffI rfl rfl rfl rfl; (case pe_12 => omega)))
end Mine
end
open PySem PySem.W PyProof.Rows
theorem PySem.Challenge.cw_pg0141_01_holds : PySem.Challenge.rw_pg0141_01.Holds := by
  exact Mine.law_try
