import PyProof.Rows.All
import Wide.All
import OpenK.AllK
import Wide.FinOn
import PySem.Challenge.RW_mr0049_02
set_option Elab.async false
set_option linter.all false
set_option rowWalk.seconds 0
namespace Mine
section
open PySem PySem.W PyProof.Rows PySem.Builtin PySem.Builtin.ObjectAttr
set_option Elab.async false
set_option maxRecDepth 100000
set_option maxHeartbeats 2000000
theorem lk_fn_ga : typeLookup (.type "function") "__getattribute__" = pure (some (.builtin "object.__getattribute__")) := by rw [typeLookup_type, builtinLookup_eq_fast]; kernel_rfl
theorem lk_fn_gattr : typeLookup (.type "function") "__getattr__" = pure none := by rw [typeLookup_type, builtinLookup_eq_fast]; kernel_rfl
theorem lk_fn_span : typeLookup (.type "function") "span" = pure none := by rw [typeLookup_type, builtinLookup_eq_fast]; kernel_rfl
theorem lk_fn_search : typeLookup (.type "function") "search" = pure none := by rw [typeLookup_type, builtinLookup_eq_fast]; kernel_rfl
theorem lk_fn_bool : typeLookup (.type "function") "__bool__" = pure none := by rw [typeLookup_type, builtinLookup_eq_fast]; kernel_rfl
theorem lk_fn_len : typeLookup (.type "function") "__len__" = pure none := by rw [typeLookup_type, builtinLookup_eq_fast]; kernel_rfl
theorem slot_fn_ga : Slot "function" "__getattribute__" "object.__getattribute__" :=
  .of (owner := "object") (n := "__getattribute__") (by rw [typeLookup_type, builtinLookup_eq_fast]; kernel_rfl) (by decide +kernel) (by decide +kernel) (by decide +kernel)
    (by first | exact .inl (by decide +kernel) | exact .inr (by decide +kernel)) (by rw [isSubtype_type]; kernel_rfl)
theorem slot_fn_sa : Slot "function" "__setattr__" "object.__setattr__" :=
  .of (owner := "object") (n := "__setattr__") (by rw [typeLookup_type, builtinLookup_eq_fast]; kernel_rfl) (by decide +kernel) (by decide +kernel) (by decide +kernel)
    (by first | exact .inl (by decide +kernel) | exact .inr (by decide +kernel)) (by rw [isSubtype_type]; kernel_rfl)

section
variable {prog : Program} {w : World} {A : Around} {E : Value → Shared → Prop} {s : Shared} {q d : Addr} {fd : FuncData} {sl : Array (Option Value)} {es : List DictEntry} {n : Nat} {name : Str} {v : Value}

/-- a function object's own attribute, found -/
theorem fn_looks {M : Model} {h : Heap} (h1 : h.get? q = some ⟨.type "function", some d, .func fd, sl⟩) (h2 : h.get? d = some (dictOf es n)) (hl : getL name es = some (some v))
    (hn : typeLookup (.type "function") name = pure none) : Looks M h (find (.ref q) (.type "function") name) (.value v) := by
  unfold find
  refine (Looks.of_pure hn).andThen (Looks.now.andThen (Looks.now.andThen ?_))
  show Looks M h (ownThenClass (.ref q) name none none) (.value v)
  have LD : Looks M h (ObjectAttr.ownDict q) (some d) :=
    (Looks.ld h1).andThen (show Looks M h (instanceDict q false) (some d) from (Looks.ld h1).andThen .now)
  have LN : Looks M h (nsGet d name) (some v) :=
    (Looks.ld h2).andThen (Looks.of_pure (nsLook_of (o := dictOf es n) hl))
  exact (show Looks M h (inOwnDict name (.ref q)) (some v) from LD.andThen LN).andThen (Looks.tag .now)

theorem fn_type {M : Model} {h : Heap} {od : Option Addr} (h1 : h.get? q = some ⟨.type "function", od, .func fd, sl⟩) : Looks M h (typeOf (.ref q)) (.type "function") := (Looks.ld h1).andThen .now

theorem fn_getAttr {expr : Bool} {Q : Value → Shared → Prop} (h1 : s.heap.get? q = some ⟨.type "function", some d, .func fd, sl⟩) (h2 : s.heap.get? d = some (dictOf es n)) (hl : getL name es = some (some v))
    (hn : typeLookup (.type "function") name = pure none) (hh : handedIn v = true) (h : Q v { s with toks := s.toks + 1 }) :
    wpAny (model prog w) A (getAttr (.ref q) name expr) Q E s := by
  obtain ⟨hp, g, dr, tk, os⟩ := s
  have hT : ∀ tk', (⟨hp, g, dr, tk', os⟩ : Shared).TypeIs (.ref q) "function" := fun _ => ⟨_, h1, rfl⟩
  have L0 := fn_type (M := model prog w) h1
  have L1 := fn_looks (M := model prog w) h1 h2 hl hn
  unfold getAttr getAttrBy
  refine wpAny_bind (wpAny_mkText (wpAny_holding (wpAny_bind (L0.at ?_))))
  rw [lk_fn_ga]
  refine wpAny_bind (wpAny_pure ?_)
  show wpAny _ _ (getAttrByItsOwn _ _ _ _ _ _) _ _ _
  unfold getAttrByItsOwn
  refine wpAny_bind (wpAny_pure ?_)
  refine wpAny_bind (wpAny_attempt (wpAny_holding ?_))
  rw [show ∀ (o nm : Value), callGetattribute o nm (.builtin "object.__getattribute__") expr = boundAndCalled (.builtin "object.__getattribute__") o nm from fun o nm => by simp [callGetattribute, onTheHeap]]
  unfold boundAndCalled
  rw [slot_fn_ga.bind]
  refine wpAny_bind (wpAny_pure ?_)
  refine wpAny_call_entry slot_fn_ga (hT _) F.entry_object_getattribute ?_ (F.args_object_getattribute_2 _ _)
  unfold Builtin.«object.__getattribute__»
  refine wpAny_bind (wpAny_pure (wpAny_bind (wpAny_pure (wpAny_bind (L0.at (wpAny_bind (L1.at ?_)))))))
  refine wpAny_pure ⟨v, rfl, ?_⟩
  show wpAny _ _ (handedOut v) _ _ _
  rw [handedOut_of hh]; exact wpAny_pure h

theorem fn_getMethod {pl : Sem Bool} {Q : Value × List Value → Shared → Prop} (h1 : s.heap.get? q = some ⟨.type "function", some d, .func fd, sl⟩) (h2 : s.heap.get? d = some (dictOf es n)) (hl : getL name es = some (some v))
    (hn : typeLookup (.type "function") name = pure none) (hh : handedIn v = true) (h : Q (v, []) { s with toks := s.toks + 1 }) :
    wpAny (model prog w) A (getMethod (.ref q) name pl) Q E s := by
  obtain ⟨hp, g, dr, tk, os⟩ := s
  have L0 := fn_type (M := model prog w) h1
  unfold getMethod specialOf
  refine wpAny_bind (wpAny_bind (L0.at ?_))
  rw [lk_fn_ga]
  refine wpAny_pure ?_
  simp only [F.canon_object_ga, Bool.false_eq_true, if_false]
  refine wpAny_bind (wpAny_bind (L0.at ?_))
  rw [lk_fn_gattr]
  refine wpAny_pure ?_
  simp only [Option.isSome_none, Bool.false_eq_true, if_false]
  refine wpAny_bind (wpAny_bind (L0.at ?_))
  rw [hn]
  refine wpAny_pure ?_
  exact wpAny_bind (fn_getAttr h1 h2 hl hn hh (wpAny_pure h))

theorem fn_truthy {od : Option Addr} {Q : Bool → Shared → Prop} (h1 : s.heap.get? q = some ⟨.type "function", od, .func fd, sl⟩) (h : Q true s) : wpAny (model prog w) A (truthy (.ref q)) Q E s := by
  obtain ⟨hp, g, dr, tk, os⟩ := s
  have L0 := fn_type (M := model prog w) h1
  unfold truthy callSpecial? specialOf
  refine wpAny_bind (wpAny_bind (wpAny_bind (L0.at ?_)))
  rw [lk_fn_bool]
  refine wpAny_pure (wpAny_pure ?_)
  show wpAny _ _ (do let x ← (do let t ← typeOf (.ref q); typeLookup t "__len__"); _) _ _ _
  refine wpAny_bind (wpAny_bind (L0.at ?_))
  rw [lk_fn_len]
  refine wpAny_pure ?_
  exact wpAny_pure h
end
end
section
open PySem PySem.W PyProof.Rows PySem.Builtin PySem.Builtin.ObjectAttr
set_option Elab.async false
set_option maxRecDepth 100000
set_option maxHeartbeats 2000000
theorem mro_fn : mroOf (.type "function") = pure [.type "function", .type "object"] := by rw [mroOf_type]; kernel_rfl
theorem own_fn_sa : classOwn (.type "function") "__setattr__" = pure none := by show pure (builtinOwn _ _) = _; rw [builtinOwn_eq_fast]; kernel_rfl
theorem own_ob_sa : classOwn (.type "object") "__setattr__" = pure (some (.builtin "object.__setattr__")) := by show pure (builtinOwn _ _) = _; rw [builtinOwn_eq_fast]; kernel_rfl
theorem hasDict_fn : typeHasDict (.type "function") = true := by decide +kernel
theorem fin_fn : finalisedInACycleAlone "function" = false := by decide +kernel
theorem refuse_fn {q : Addr} {fd : FuncData} {sl : Array (Option Value)} {od : Option Addr} {M : Model} {h : Heap} (h1 : h.get? q = some ⟨.type "function", od, .func fd, sl⟩) : Looks M h (refuseIfOverridden (.ref q) "__setattr__") () := by
  unfold refuseIfOverridden
  refine (fn_type h1).andThen ?_
  rw [mro_fn]
  refine Looks.now.andThen ?_
  have e1 : (("function" : String) == "_thread._local") = false := by decide
  have e2 : (("function" : String) == "_pickle.Pickler" || ("function" : String) == "_pickle.Unpickler") = false := by decide
  have e3 : (("object" : String) == "_thread._local") = false := by decide
  have e4 : (("object" : String) == "_pickle.Pickler" || ("object" : String) == "_pickle.Unpickler") = false := by decide
  have e5 : isObjects "object" (Str.ofString "__setattr__").toString = true := by simp [isObjects]
  refine Looks.of_pure ?_
  simp only [List.forIn_cons, List.forIn_nil, own_fn_sa, own_ob_sa, pure_bind, e1, e2, e3, e4, e5, Bool.false_eq_true, if_false, Option.isSome_none, Option.isSome_some, if_true, Bool.not_true]

section
variable {prog : Program} {w : World} {A : Around} {E : Value → Shared → Prop} {s : Shared} {q : Addr} {fd : FuncData} {sl : Array (Option Value)} {name : Str} {v : Value}
theorem fn_setAttr {Q : Unit → Shared → Prop} (h1 : s.heap.get? q = some ⟨.type "function", none, .func fd, sl⟩) (hn : typeLookup (.type "function") name = pure none)
    (h : ∀ h' tk, h'.objs.size = s.heap.objs.size + 1 → h'.get? q = some ⟨.type "function", some s.heap.objs.size, .func fd, sl⟩ → h'.get? s.heap.objs.size = some (dictOf [⟨PyData.keyHash w.params name, .str name tk, v⟩] 1) →
      (∀ b, b ≠ q → b ≠ s.heap.objs.size → h'.get? b = s.heap.get? b) → Q () { s with heap := h', toks := s.toks + 2 }) :
    wpAny (model prog w) A (setAttr (.ref q) name v) Q E s := by
  have SF := PySem.F.store_object
  obtain ⟨hp, g, dr, tk, os⟩ := s
  have hq : q < hp.objs.size := Heap.lt_size h1
  have L0 := fn_type (M := model prog w) h1
  have LR := refuse_fn (M := model prog w) h1
  have hT : ∀ tk', (⟨hp, g, dr, tk', os⟩ : Shared).TypeIs (.ref q) "function" := fun _ => ⟨_, h1, rfl⟩
  unfold setAttr callSpecial? specialOf
  refine wpAny_bind (wpAny_mkText (wpAny_bind (wpAny_bind (wpAny_bind (L0.at ?_)))))
  rw [slot_fn_sa.lookup]
  refine wpAny_pure (wpAny_holding ?_)
  rw [slot_fn_sa.bind]
  refine wpAny_bind (wpAny_pure (wpAny_bind ?_))
  refine wpAny_call_entry slot_fn_sa (hT _) SF.entry ?_ (SF.args _ _ _)
  show wpAny _ _ (Builtin.«object.__setattr__» ⟨[.ref q, .str name _, v], []⟩) _ _ _
  rw [osa_eq]
  refine wpAny_bind (LR.at ?_)
  refine wpAny_bind (L0.at ?_)
  rw [hn]
  refine wpAny_bind (wpAny_pure (wpAny_bind (wpAny_pure ?_)))
  show wpAny _ _ (storeInOwnDict (.ref q) (.type "function") (.str name _) name v false) _ _ _
  unfold storeInOwnDict
  have eo : ownStreamTells (.ref q) (.type "function") = pure () := by kernel_rfl
  rw [eo]
  refine wpAny_bind (wpAny_pure ?_)
  simp only [show (Value.type "function" == Value.type "module") = false by decide, Bool.false_eq_true, if_false]
  refine wpAny_bind ?_
  show wpAny _ _ (instanceDict q true) _ _ _
  unfold instanceDict
  refine wpAny_bind (wpAny_loadPart h1 ?_)
  simp only [hasDict_fn, Bool.not_true, Bool.or_self, Bool.false_eq_true, if_false]
  refine wpAny_bind (wpAny_alloc ?_)
  have hqp : (hp.push { cls := .type "dict", data := .dict #[] }).get? q = some ⟨.type "function", none, .func fd, sl⟩ := Heap.get?_push_of_some _ h1
  refine wpAny_bind (wpAny_update hqp ?_)
  have ed : ∀ d, dictMade (.type "function") q d = pure (some d) := fun d => by
    unfold dictMade
    simp only [fin_fn, Bool.false_eq_true, if_false]
  rw [ed]
  refine wpAny_pure ?_
  have hpush : ∀ b, b ≠ hp.objs.size → (hp.push { cls := .type "dict", data := .dict #[] }).get? b = hp.get? b := fun b hb => by
    cases q1 : hp.get? b with
    | some o => exact Heap.get?_push_of_some _ q1
    | none =>
      cases q2 : (hp.push { cls := .type "dict", data := .dict #[] }).get? b with
      | none => rfl
      | some o =>
        have l := Heap.lt_size q2
        rw [Heap.size_push] at l
        exfalso
        have l2 : b < hp.objs.size := Nat.lt_of_le_of_ne (Nat.lt_succ_iff.mp l) hb
        obtain ⟨e1, e2⟩ := Heap.get?_some_iff.mp q2
        have e3 : hp.objs[b]? = some o := by
          rw [← e1]
          obtain ⟨oo, ll⟩ := hp
          show oo[b]? = (oo.push _)[b]?
          rw [Array.getElem?_push]
          rw [if_neg hb]
        rw [Heap.get?_some_iff.mpr ⟨e3, e2⟩] at q1
        cases q1
  have hqn : q ≠ hp.objs.size := Nat.ne_of_lt hq
  have D0 : ((hp.push { cls := .type "dict", data := .dict #[] }).update q (fun o => { o with dict := some hp.objs.size })).get? hp.objs.size = some (dictOf [] 0) :=
    (Heap.get?_update_ne _ _ _ _ (Ne.symm hqn)).trans (Heap.get?_push_size _ rfl)
  have Q0 := Heap.get?_update_self (fun o => { o with dict := some hp.objs.size }) hqp rfl
  have O0 : ∀ b, b ≠ q → b ≠ hp.objs.size → ((hp.push { cls := .type "dict", data := .dict #[] }).update q (fun o => { o with dict := some hp.objs.size })).get? b = hp.get? b := fun b b1 b2 => (Heap.get?_update_ne _ _ _ _ b1).trans (hpush b b2)
  have S0 : ((hp.push { cls := .type "dict", data := .dict #[] }).update q (fun o => { o with dict := some hp.objs.size })).objs.size = hp.objs.size + 1 := by rw [Heap.size_after_update, Heap.size_push]
  dsimp only at D0 Q0 O0 S0 h ⊢
  generalize (hp.push { cls := .type "dict", data := .dict #[] }).update q (fun o => { o with dict := some hp.objs.size }) = hp1 at *
  show wpAny _ _ (storeInDict hp.objs.size (.str name _) name v) _ _ _
  unfold storeInDict
  refine wpAny_bind (wpAny_pure (wpAny_bind ?_))
  unfold nsSet
  refine wpAny_bind (wpAny_bind (wpAny_askSetting (wpAny_pure (wpAny_bind (wpAny_mkText (wpAny_bind (wpAny_loadPart D0 ?_)))))))
  dsimp only
  rw [aRefKeyMayBeTheName_at, show (!(([] : List DictEntry).toArray).any (·.key.isStr name) && (([] : List DictEntry).toArray).any (·.refKey)) = false by simp]
  refine wpAny_updatePart D0 ?_
  have P1 := Heap.get?_update_self (Obj.putName name (PyData.keyHash w.params name) (.str name (tk + 1)) v) D0 (by rw [putName_dict]; rfl)
  rw [putName_dict] at P1
  refine wpAny_bind (wpAny_lookBehind P1 rfl ?_)
  refine wpAny_pure ⟨_, rfl, wpAny_pure (wpAny_pure ?_)⟩
  refine h _ (tk + 1) (by rw [Heap.size_after_update, S0]) ?_ P1 ?_
  · exact (Heap.get?_update_ne _ _ _ _ hqn).trans Q0
  · exact fun b b1 b2 => (Heap.get?_update_ne _ _ _ _ b2).trans (O0 b b1 b2)
end
end
section
open PySem PySem.W PyProof.Rows PySem.Builtin PySem.Builtin.ObjectAttr
set_option Elab.async false
set_option maxRecDepth 100000
/-- a text by its signs -/
abbrev S (l : List Nat) : Str := ⟨l.toArray⟩
theorem S_len (l : List Nat) : (S l).length = l.length := by simp [Str.length]
theorem S_inj {a b : List Nat} : S a = S b ↔ a = b := by
  constructor
  · intro h; have := congrArg (fun x : Str => x.cps.toList) h; simpa using this
  · intro h; rw [h]
theorem S_app (a b : List Nat) : S a ++ S b = S (a ++ b) := by
  show Str.append _ _ = _
  simp [Str.append]
theorem item_S (l : List Nat) (k : Int) (h0 : 0 ≤ k) (h1 : k < l.length) : Txt.item (S l) k = S [l.getD k.toNat 0] := by
  unfold Txt.item Txt.charAt seqIndex?
  rw [S_len]
  simp only [show ¬ k < 0 by omega, if_false, decide_eq_true_eq.mpr h0, decide_eq_true_eq.mpr h1, Bool.and_self, if_true, Option.bind_some]
  simp
theorem range_pick (l : List Nat) (a : Nat) : ∀ n, a + n ≤ l.length → ((List.range n).map fun k => a + k).filterMap (l[·]?) = (l.drop a).take n
  | 0, _ => by simp
  | n + 1, h => by
    have h1 : a + n < l.length := by omega
    rw [List.range_succ, List.map_append, List.filterMap_append, range_pick l a n (by omega), List.take_add_one]
    congr 1
    simp [h1]
theorem pick_S (l : List Nat) (lo hi : Option Int) (a n : Nat) (e : Str.strSliceIndices lo hi 1 l.length = (List.range n).map fun k => a + k) (hn : a + n ≤ l.length) : Txt.slice (S l) lo hi = S ((l.drop a).take n) := by
  unfold Txt.slice
  rw [S_len, e]
  split
  · rename_i q
    simp at q
    have : a = 0 := by omega
    subst this
    rw [q]; simp
  · have := range_pick l a n hn
    simp only [List.getElem?_toArray]
    rw [this]
theorem clampN (i : Int) (h : 0 ≤ i) (len : Nat) : max 0 (min i (len : Int)) = ((min i.toNat len : Nat) : Int) := by omega
theorem cntN (a b : Nat) : (if (a : Int) < (b : Int) then ((b : Int) - (a : Int) + 1 - 1) / 1 else 0).toNat = b - a := by
  split <;> omega
theorem stepN (a : Nat) : (fun k : Nat => ((a : Int) + 1 * (k : Int)).toNat) = fun k => a + k := funext fun k => by omega
theorem idx_ss (i j : Int) (h0 : 0 ≤ i) (h1 : 0 ≤ j) (len : Nat) : Str.strSliceIndices (some i) (some j) 1 len = (List.range (min j.toNat len - min i.toNat len)).map fun k => min i.toNat len + k := by
  unfold Str.strSliceIndices sliceRange
  simp only [Int.not_lt.mpr h0, Int.not_lt.mpr h1, if_false, show (1 : Int) > 0 by decide, if_true]
  rw [clampN i h0, clampN j h1, cntN, stepN]
theorem idx_sn (i : Int) (h0 : 0 ≤ i) (len : Nat) : Str.strSliceIndices (some i) none 1 len = (List.range (len - min i.toNat len)).map fun k => min i.toNat len + k := by
  unfold Str.strSliceIndices sliceRange
  simp only [Int.not_lt.mpr h0, if_false, show (1 : Int) > 0 by decide, if_true]
  rw [clampN i h0, cntN, stepN]
theorem idx_ns (j : Int) (h1 : 0 ≤ j) (len : Nat) : Str.strSliceIndices none (some j) 1 len = (List.range (min j.toNat len)).map fun k => 0 + k := by
  unfold Str.strSliceIndices sliceRange
  simp only [Int.not_lt.mpr h1, if_false, show (1 : Int) > 0 by decide, if_true]
  rw [clampN j h1]
  have := cntN 0 (min j.toNat len)
  rw [show ((0 : Nat) : Int) = 0 from rfl] at this
  rw [this]
  congr 1
  funext k
  omega
theorem drop_take_min (l : List Nat) (i j : Nat) : (l.drop (min i l.length)).take (min j l.length - min i l.length) = (l.drop i).take (j - i) := by
  by_cases hi : i ≤ l.length
  · rw [Nat.min_eq_left hi]
    by_cases hj : j ≤ l.length
    · rw [Nat.min_eq_left hj]
    · rw [Nat.min_eq_right (by omega), List.take_of_length_le (by simp), List.take_of_length_le (by simp; omega)]
  · rw [Nat.min_eq_right (show l.length ≤ i by omega), List.drop_eq_nil_of_le (Nat.le_refl l.length), List.drop_eq_nil_of_le (by omega : l.length ≤ i)]; simp
theorem slice_ss_S (l : List Nat) (i j : Int) (h0 : 0 ≤ i) (h1 : 0 ≤ j) : Txt.slice (S l) (some i) (some j) = S ((l.drop i.toNat).take (j.toNat - i.toNat)) := by
  rw [pick_S l _ _ _ _ (idx_ss i j h0 h1 l.length) (by omega), drop_take_min]
theorem slice_sn_S (l : List Nat) (i : Int) (h0 : 0 ≤ i) : Txt.slice (S l) (some i) none = S (l.drop i.toNat) := by
  rw [pick_S l _ _ _ _ (idx_sn i h0 l.length) (by omega)]
  congr 2
  by_cases hi : i.toNat ≤ l.length
  · rw [Nat.min_eq_left hi, List.take_of_length_le (by simp)]
  · rw [Nat.min_eq_right (by omega), List.drop_eq_nil_of_le (Nat.le_refl _), List.drop_eq_nil_of_le (by omega : l.length ≤ i.toNat)]; simp
theorem slice_ns_S (l : List Nat) (j : Int) (h1 : 0 ≤ j) : Txt.slice (S l) none (some j) = S (l.take j.toNat) := by
  rw [pick_S l _ _ _ _ (idx_ns j h1 l.length) (by omega)]
  rw [List.drop_zero]
  by_cases hi : j.toNat ≤ l.length
  · rw [Nat.min_eq_left hi]
  · rw [Nat.min_eq_right (by omega), List.take_of_length_le (Nat.le_refl _), List.take_of_length_le (by omega)]

section
variable {prog : Program} {w : World} {A : Around} {E : Value → Shared → Prop} {s : Shared} {value slice : Expr} {l : List Nat} {t : Tok} {h₀ : Heap} {L : Addr} {m : Str → Option Value} {news : List (Addr × Obj)} {Q : Value → Shared → Prop}
theorem r_item {k : Int} {u : Tok} (h0 : 0 ≤ k) (h1 : k < (l.length : Int)) (hl : l.length < 2 ^ 62)
    (h : Q (.str (S [l.getD k.toNat 0]) s.toks) { s with toks := s.toks + 1 })
    (hs : subscripted slice false (.str (S l) t) (.int k u) = operate [.str (S l) t, .int k u] (getItem (.str (S l) t) (.int k u)) := by with_unfolding_all rfl)
    (ht : ∀ r, letTemporaryGo value (.str (S l) t) r = pure () := by intro _; with_unfolding_all rfl) :
    wpAny (model prog w) A (subscriptTail value slice (.str (S l) t) (.int k u)) Q E s := by
  refine item_str ?_ (by omega) (by rw [S_len]; exact h1) (fun _ => by rw [item_S l k h0 h1]; exact h) hs ht
  unfold fitsSsize
  simp
  omega
theorem r_ss {i j : Int} {ui uj : Tok} (hF : Fr h₀ L s.heap m) (hN : News h₀ L s.heap news) (h0 : 0 ≤ i) (h1 : 0 ≤ j) (hl : l.length ≤ sizeLine)
    (h : ∀ h' t' k, Fr h₀ L h' m → News h₀ L h' news → Q (.str (S ((l.drop i.toNat).take (j.toNat - i.toNat))) t') { s with heap := h', toks := k })
    (hs : subscripted slice false (.str (S l) t) (.ref s.heap.objs.size) = operate [.ref s.heap.objs.size, .str (S l) t] (getItem (.str (S l) t) (.ref s.heap.objs.size)) := by with_unfolding_all rfl)
    (ht : ∀ r, letTemporaryGo value (.str (S l) t) r = pure () := by intro _; with_unfolding_all rfl) :
    wpAny (model prog w) A (subscriptTail value slice (.str (S l) t) (.ref s.heap.objs.size)) Q E { s with heap := s.heap.push { cls := .type "slice", data := .fields #[.int i ui, .int j uj, .none] } } :=
  slice_strN_ss hF hN (fun h' t' k a b => by rw [slice_ss_S l i j h0 h1]; exact h h' t' k a b) hs ht (by rw [S_len]; exact hl)
theorem r_sn {i : Int} {ui : Tok} (hF : Fr h₀ L s.heap m) (hN : News h₀ L s.heap news) (h0 : 0 ≤ i) (hl : l.length ≤ sizeLine)
    (h : ∀ h' t' k, Fr h₀ L h' m → News h₀ L h' news → Q (.str (S (l.drop i.toNat)) t') { s with heap := h', toks := k })
    (hs : subscripted slice false (.str (S l) t) (.ref s.heap.objs.size) = operate [.ref s.heap.objs.size, .str (S l) t] (getItem (.str (S l) t) (.ref s.heap.objs.size)) := by with_unfolding_all rfl)
    (ht : ∀ r, letTemporaryGo value (.str (S l) t) r = pure () := by intro _; with_unfolding_all rfl) :
    wpAny (model prog w) A (subscriptTail value slice (.str (S l) t) (.ref s.heap.objs.size)) Q E { s with heap := s.heap.push { cls := .type "slice", data := .fields #[.int i ui, .none, .none] } } :=
  slice_strN_sn hF hN (fun h' t' k a b => by rw [slice_sn_S l i h0]; exact h h' t' k a b) hs ht (by rw [S_len]; exact hl)
theorem r_ns {j : Int} {uj : Tok} (hF : Fr h₀ L s.heap m) (hN : News h₀ L s.heap news) (h1 : 0 ≤ j) (hl : l.length ≤ sizeLine)
    (h : ∀ h' t' k, Fr h₀ L h' m → News h₀ L h' news → Q (.str (S (l.take j.toNat)) t') { s with heap := h', toks := k })
    (hs : subscripted slice false (.str (S l) t) (.ref s.heap.objs.size) = operate [.ref s.heap.objs.size, .str (S l) t] (getItem (.str (S l) t) (.ref s.heap.objs.size)) := by with_unfolding_all rfl)
    (ht : ∀ r, letTemporaryGo value (.str (S l) t) r = pure () := by intro _; with_unfolding_all rfl) :
    wpAny (model prog w) A (subscriptTail value slice (.str (S l) t) (.ref s.heap.objs.size)) Q E { s with heap := s.heap.push { cls := .type "slice", data := .fields #[.none, .int j uj, .none] } } :=
  slice_strN_ns hF hN (fun h' t' k a b => by rw [slice_ns_S l j h1]; exact h h' t' k a b) hs ht (by rw [S_len]; exact hl)
end
end
section
open PySem PySem.W PyProof.Rows PySem.Builtin PySem.Builtin.ObjectAttr
set_option Elab.async false
set_option maxRecDepth 100000
theorem lit_e : Str.ofString "" = S [] := by decide +kernel
theorem lit_bang : Str.ofString "!" = S [33] := by decide +kernel
theorem lit_hat : Str.ofString "^" = S [94] := by decide +kernel
theorem lit_q : Str.ofString "?" = S [63] := by decide +kernel
theorem lit_thorn : Str.ofString "Þ" = S [222] := by decide +kernel
theorem lit_del : Str.ofString "\x7f" = S [127] := by decide +kernel
theorem lit_ff : Str.ofString "ÿ" = S [255] := by decide +kernel
theorem lit_A : Str.ofString "A" = S [65] := by decide +kernel
theorem lit_hq : Str.ofString "^?" = S [94, 63] := by decide +kernel
theorem lit_h9 : Str.ofString "^\u009f" = S [94, 159] := by decide +kernel
theorem lit_sp : Str.ofString " " = S [32] := by decide +kernel
theorem lit_tilde : Str.ofString "~" = S [126] := by decide +kernel
theorem lit_fe : Str.ofString "þ" = S [254] := by decide +kernel
theorem lit_hT : Str.ofString "^Þ" = S [94, 222] := by decide +kernel
theorem lit_marks : Str.ofString "?@ABCDEFGHIJKLMNOPQRSTUVWXYZ[\\]^_" = S ((List.range 33).map (63 + ·)) := by decide +kernel
theorem mem_marks (c : Nat) : c ∈ (List.range 33).map (63 + ·) ↔ 63 ≤ c ∧ c ≤ 95 := by
  simp only [List.mem_map, List.mem_range]
  constructor
  · rintro ⟨a, h, rfl⟩; omega
  · rintro ⟨a, b⟩; exact ⟨c - 63, by omega, by omega⟩

section
variable {prog : Program} {w : World} {A : Around} {E : Value → Shared → Prop} {s : Shared} {l a b : List Nat} {t u : Tok} {Q : Value → Shared → Prop}
theorem r_const {M : Model} {env : Env} {x : Str} {k : Nat} {pos : Pos} (e : x = S l) (h : Q (.str (S l) s.toks) { s with toks := s.toks + 1 }) : wpAny M A (eval (.Constant (.str x) k pos) env) Q E s := e ▸ wpAny_Constant_str (e ▸ h)
theorem r_len (hl : l.length < 2 ^ 62) (h : Q (.int (l.length : Nat) (s.toks + 1)) { s with toks := s.toks + 1 + 1 }) : wpAny (model prog w) A (call (.builtin "len") [.str (S l) t]) Q E s :=
  len_str (by rw [S_len]; omega) (by rw [S_len]; exact h)
theorem S_beq (a b : List Nat) : (S a == S b) = decide (a = b) := by
  rw [Bool.eq_iff_iff, beq_iff_eq, decide_eq_true_eq, S_inj]
theorem r_eq (h : Q (.bool (decide (a = b))) s) : wpAny (model prog w) A (compareOp .Eq (.str (S a) t) (.str (S b) u)) Q E s := eq_str (by rw [S_beq]; exact h)
theorem r_ne (h : Q (.bool (!decide (a = b))) s) : wpAny (model prog w) A (compareOp .NotEq (.str (S a) t) (.str (S b) u)) Q E s := PySem.P.ne_str (by
  simp only [List.toList_toArray, bne]
  rw [show (a == b) = decide (a = b) by rw [Bool.eq_iff_iff, beq_iff_eq, decide_eq_true_eq]]; exact h)
theorem r_add (h : ∀ t' tk, Q (.str (S (a ++ b)) t') { s with toks := tk }) (hsz : a.length + b.length ≤ sizeLine) : wpAny (model prog w) A (binaryOp .Add (.str (S a) t) (.str (S b) u)) Q E s :=
  add_str (fun t' tk => by rw [S_app]; exact h t' tk) (by rw [S_len, S_len]; exact hsz)
theorem r_iadd (h : ∀ t' tk, Q (.str (S (a ++ b)) t') { s with toks := tk }) (hsz : a.length + b.length ≤ sizeLine) : wpAny (model prog w) A (inplaceOp .Add (.str (S a) t) (.str (S b) u)) Q E s :=
  iadd_str (fun t' tk => by rw [S_app]; exact h t' tk) (by rw [S_len, S_len]; exact hsz)
theorem r_in {c : Nat} (h : Q (.bool (decide (c ∈ l))) s) : wpAny (model prog w) A (compareOp .In (.str (S [c]) t) (.str (S l) u)) Q E s :=
  in_str (by rw [StrLaws.found_one]; simpa using h)
theorem r_gt {c d : Nat} (h : Q (.bool (decide (d < c))) s) : wpAny (model prog w) A (compareOp .Gt (.str (S [c]) t) (.str (S [d]) u)) Q E s :=
  PySem.P.gt_str (by simpa [List.cons_lt_cons_iff] using h)
theorem r_le {c d : Nat} (h : Q (.bool (decide (c ≤ d))) s) : wpAny (model prog w) A (compareOp .LtE (.str (S [c]) t) (.str (S [d]) u)) Q E s :=
  PySem.P.le_str (by
    have e : (!decide ([d] < [c])) = decide (c ≤ d) := by
      rw [Bool.eq_iff_iff]; simp [List.cons_lt_cons_iff]
    simpa [e] using h)
theorem r_ord {c : Nat} (h : Q (.int (c : Nat) s.toks) { s with toks := s.toks + 1 }) : wpAny (model prog w) A (call (.builtin "ord") [.str (S [c]) t]) Q E s := P.ord_of_char h
theorem r_chr {i : Int} (h0 : 0 ≤ i) (h1 : i ≤ 1114111) (h : Q (.str (S [i.toNat]) s.toks) { s with toks := s.toks + 1 }) : wpAny (model prog w) A (call (.builtin "chr") [.int i t]) Q E s := chr_of_range h0 h1 h
end
end
section
open PySem PySem.W PyProof.Rows PySem.Builtin PySem.Builtin.ObjectAttr
set_option Elab.async false
set_option maxRecDepth 100000
theorem and_pow (x : Int) (h : 0 ≤ x) (i : Nat) : Builtin.bitAnd x ((2 ^ i : Nat) : Int) = if x / ((2 ^ i : Nat) : Int) % 2 = 1 then ((2 ^ i : Nat) : Int) else 0 := by
  obtain ⟨n, rfl⟩ := Int.eq_ofNat_of_zero_le h
  rw [bitAnd_pp h (Int.natCast_nonneg _)]
  simp only [Int.toNat_natCast]
  have e : (n : Int) / ((2 ^ i : Nat) : Int) % 2 = ((n / 2 ^ i % 2 : Nat) : Int) := by simp
  rw [e]
  have hb : n &&& 2 ^ i = if n / 2 ^ i % 2 = 1 then 2 ^ i else 0 := by
    apply Nat.eq_of_testBit_eq
    intro j
    rw [Nat.testBit_and, Nat.testBit_two_pow]
    by_cases q : n / 2 ^ i % 2 = 1
    · rw [if_pos q, Nat.testBit_two_pow]
      by_cases hj : i = j
      · subst hj; simp [Nat.testBit_eq_decide_div_mod_eq, q]
      · simp [hj]
    · rw [if_neg q]
      by_cases hj : i = j
      · subst hj; simp [Nat.testBit_eq_decide_div_mod_eq, q]
      · simp [hj]
  rw [hb]
  by_cases q : n / 2 ^ i % 2 = 1
  · rw [if_pos q, if_pos (by omega)]
  · rw [if_neg q, if_neg (by omega)]; rfl
theorem and_128 (x : Int) (h : 0 ≤ x) : Builtin.bitAnd x 128 = if x / 128 % 2 = 1 then 128 else 0 := and_pow x h 7
theorem and_32 (x : Int) (h : 0 ≤ x) : Builtin.bitAnd x 32 = if x / 32 % 2 = 1 then 32 else 0 := and_pow x h 5
section
variable {prog : Program} {w : World} {A : Around} {E : Value → Shared → Prop} {s : Shared} {x : Int} {t u : Tok} {Q : Value → Shared → Prop}
theorem r_and127 (h : Q (.int (x % 128) s.toks) { s with toks := s.toks + 1 }) : wpAny (model prog w) A (binaryOp .BitAnd (.int x t) (.int 127 u)) Q E s := and_int (by rw [bitAnd_m7]; exact h)
theorem r_and31 (h : Q (.int (x % 32) s.toks) { s with toks := s.toks + 1 }) : wpAny (model prog w) A (binaryOp .BitAnd (.int x t) (.int 31 u)) Q E s := and_int (by rw [bitAnd_m5]; exact h)
theorem r_and128 (h0 : 0 ≤ x) (h : x / 128 % 2 = 1 → Q (.int 128 s.toks) { s with toks := s.toks + 1 }) (h' : x / 128 % 2 = 0 → Q (.int 0 s.toks) { s with toks := s.toks + 1 }) : wpAny (model prog w) A (binaryOp .BitAnd (.int x t) (.int 128 u)) Q E s := and_int (by
  rw [and_128 x h0]; split
  · exact h (by assumption)
  · exact h' (by omega))
theorem r_or32 (h0 : 0 ≤ x) (h : x / 32 % 2 = 1 → Q (.int x s.toks) { s with toks := s.toks + 1 }) (h' : x / 32 % 2 = 0 → Q (.int (x + 32) s.toks) { s with toks := s.toks + 1 }) : wpAny (model prog w) A (binaryOp .BitOr (.int x t) (.int 32 u)) Q E s := or_int (by
  rw [bitOr_and, and_32 x h0]; split
  · rw [show x + 32 - 32 = x by omega]; exact h (by assumption)
  · rw [show x + 32 - 0 = x + 32 by omega]; exact h' (by omega))
theorem r_or128 (h0 : 0 ≤ x) (h : x / 128 % 2 = 1 → Q (.int x s.toks) { s with toks := s.toks + 1 }) (h' : x / 128 % 2 = 0 → Q (.int (x + 128) s.toks) { s with toks := s.toks + 1 }) : wpAny (model prog w) A (binaryOp .BitOr (.int x t) (.int 128 u)) Q E s := or_int (by
  rw [bitOr_and, and_128 x h0]; split
  · rw [show x + 128 - 128 = x by omega]; exact h (by assumption)
  · rw [show x + 128 - 0 = x + 128 by omega]; exact h' (by omega))
end
section
variable {prog : Program} {w : World} {A : Around} {E : Value → Shared → Prop} {s : Shared} {value slice : Expr} {a b c : Nat} {r : List Nat} {t u : Tok} {h₀ : Heap} {L : Addr} {m : Str → Option Value} {news : List (Addr × Obj)} {Q : Value → Shared → Prop}
theorem r_len1 (h : Q (.int 1 (s.toks + 1)) { s with toks := s.toks + 1 + 1 }) : wpAny (model prog w) A (call (.builtin "len") [.str (S [a]) t]) Q E s := r_len (by simp) h
theorem r_len2 (h : Q (.int 2 (s.toks + 1)) { s with toks := s.toks + 1 + 1 }) : wpAny (model prog w) A (call (.builtin "len") [.str (S [a, b]) t]) Q E s := r_len (by simp) h
theorem r_len3 (h : Q (.int 3 (s.toks + 1)) { s with toks := s.toks + 1 + 1 }) : wpAny (model prog w) A (call (.builtin "len") [.str (S [a, b, c]) t]) Q E s := r_len (by simp) h
theorem r_it0 (hl : (a :: r).length < 2 ^ 62) (h : Q (.str (S [a]) s.toks) { s with toks := s.toks + 1 })
    (hs : subscripted slice false (.str (S (a :: r)) t) (.int 0 u) = operate [.str (S (a :: r)) t, .int 0 u] (getItem (.str (S (a :: r)) t) (.int 0 u)) := by with_unfolding_all rfl)
    (ht : ∀ v, letTemporaryGo value (.str (S (a :: r)) t) v = pure () := by intro _; with_unfolding_all rfl) :
    wpAny (model prog w) A (subscriptTail value slice (.str (S (a :: r)) t) (.int 0 u)) Q E s := r_item (by omega) (by simp) hl h hs ht
theorem r_it1 (hl : (a :: b :: r).length < 2 ^ 62) (h : Q (.str (S [b]) s.toks) { s with toks := s.toks + 1 })
    (hs : subscripted slice false (.str (S (a :: b :: r)) t) (.int 1 u) = operate [.str (S (a :: b :: r)) t, .int 1 u] (getItem (.str (S (a :: b :: r)) t) (.int 1 u)) := by with_unfolding_all rfl)
    (ht : ∀ v, letTemporaryGo value (.str (S (a :: b :: r)) t) v = pure () := by intro _; with_unfolding_all rfl) :
    wpAny (model prog w) A (subscriptTail value slice (.str (S (a :: b :: r)) t) (.int 1 u)) Q E s := r_item (by omega) (by simp; omega) hl h hs ht
theorem r_sl1 {ui : Tok} (hF : Fr h₀ L s.heap m) (hN : News h₀ L s.heap news) (hl : (a :: r).length ≤ sizeLine)
    (h : ∀ h' t' k, Fr h₀ L h' m → News h₀ L h' news → Q (.str (S r) t') { s with heap := h', toks := k })
    (hs : subscripted slice false (.str (S (a :: r)) t) (.ref s.heap.objs.size) = operate [.ref s.heap.objs.size, .str (S (a :: r)) t] (getItem (.str (S (a :: r)) t) (.ref s.heap.objs.size)) := by with_unfolding_all rfl)
    (ht : ∀ v, letTemporaryGo value (.str (S (a :: r)) t) v = pure () := by intro _; with_unfolding_all rfl) :
    wpAny (model prog w) A (subscriptTail value slice (.str (S (a :: r)) t) (.ref s.heap.objs.size)) Q E { s with heap := s.heap.push { cls := .type "slice", data := .fields #[.int 1 ui, .none, .none] } } := r_sn hF hN (by omega) hl h hs ht
end
end
section
open PySem PySem.W PyProof.Rows PySem.Builtin PySem.Builtin.ObjectAttr
set_option Elab.async false
set_option maxRecDepth 100000
theorem iadd_list_fi : fillsInplaceSlot (.type "list") "add" (Operator.Add == .Add) = pure false := by
  unfold fillsInplaceSlot
  show (typeLookup (.type "list") (dunderI "add") >>= fun fi => pure (fi.isSome && !isSeqSlot fi)) = pure false
  rw [F.slot_list_iadd.lookup]
  show (pure (true && !isSeqSlot (some (.builtin "list.__iadd__"))) : Sem Bool) = _
  rw [show isSeqSlot (some (.builtin "list.__iadd__")) = true by decide +kernel]; rfl
theorem iadd_list_seq : seqSlot? (.type "list") (dunderI "add") = pure (some (.builtin "list.__iadd__")) := PySem.seqSlot_of F.slot_list_iadd.lookup (by decide +kernel)
section
variable {prog : Program} {w : World} {A : Around} {E : Value → Shared → Prop} {s : Shared} {l b : Addr} {xs ys : Array Value} {n n2 : Nat} {Q : Value → Shared → Prop}
theorem iadd_list (hl : s.heap.get? l = some { cls := .type "list", data := .seq xs n }) (hb : s.heap.get? b = some { cls := .type "list", data := .seq ys n2 }) (hsz : xs.size + ys.size ≤ 1000)
    (h : Q (.ref l) { s with heap := s.heap.update l (Obj.mapSeq (· ++ ys)) }) : wpAny (model prog w) A (inplaceOp .Add (.ref l) (.ref b)) Q E s := by
  have ha : s.TypeIs (.ref l) "list" := ⟨_, hl, rfl⟩
  have hb' : s.TypeIs (.ref b) "list" := ⟨_, hb, rfl⟩
  unfold inplaceOp
  refine wpAny_holding ?_
  refine wpAny_bind (wpAny_typeOf ha (wpAny_bind (wpAny_of_eq iadd_list_fi ?_)))
  show wpAny _ A (if false = true then _ else _) Q E s
  rw [if_neg Bool.false_ne_true]
  refine wpAny_bind (wpAny_binaryOp1_none (nm := "add") ha hb' PySem.noFill_list_add ?_)
  refine wpAny_bind (wpAny_of_eq iadd_list_seq ?_)
  refine wpAny_bind (wpAny_rule ?_)
  refine wpAny_call_entry F.slot_list_iadd ha F.entry_list_iadd ?_ (F.args_list_iadd_2 _ _)
  show wpAny _ A.in1 (Builtin.List.listExtendWith (.ref l) (.ref b) (.ref l)) _ _ s
  unfold Builtin.List.listExtendWith
  refine wpAny_bind (wpAny_typeOf hb' ?_)
  rw [show (Builtin.List.listSameRef (.ref l) (.ref b) || Value.type "list" == Value.type "list" || Value.type "list" == Value.type "tuple") = true by simp]
  rw [if_pos rfl]
  unfold Builtin.List.listItems
  refine wpAny_bind (wpAny_bind (wpAny_seqItems hb rfl (wpAny_pure ?_)))
  refine wpAny_bind (wpAny_bind (wpAny_seqItems hl rfl (wpAny_pure ?_)))
  have e : (!xs.isEmpty && Builtin.List.listTooLong (xs.size + ys.size)) = false := by
    have : Builtin.List.listTooLong (xs.size + ys.size) = false := by
      unfold Builtin.List.listTooLong
      rw [sizeLine_eq]; simp; omega
    rw [this, Bool.and_false]
  rw [e]
  show wpAny _ A.in1 (updateSeq l (· ++ ys) >>= fun _ => ret (.ref l)) _ _ s
  exact wpAny_bind (wpAny_updateSeq hl rfl (wpAny_pure ⟨_, rfl, h⟩) (by rw [sizeLine_eq]; omega) (by rw [sizeLine_eq, Array.size_append]; omega))
end
section
variable {prog : Program} {w : World} {A : Around} {E : Value → Shared → Prop} {s : Shared} {h₀ : Heap} {L l b : Addr} {m : Str → Option Value} {news news' : List (Addr × Obj)} {xs ys : List Value} {n n2 : Nat} {Q : Value → Shared → Prop}
theorem iadd_K (F : Fr h₀ L s.heap m) (N : News h₀ L s.heap news) (hb : (b, listOf ys.toArray n2) ∈ news) (U : Upd l (listOf xs.toArray n) (listOf (xs ++ ys).toArray (n + 1)) news news') (hy : 1 ≤ ys.length) (hsz : xs.length + ys.length ≤ 1000)
    (h : ∀ h', Fr h₀ L h' m → News h₀ L h' news' → Q (.ref l) { s with heap := h' }) : wpAny (model prog w) A (inplaceOp .Add (.ref l) (.ref b)) Q E s := by
  obtain ⟨pre, post, rfl, rfl, h1, h2⟩ := U.split
  have z := N (l, listOf xs.toArray n) (List.mem_append.mpr (.inr (.head _)))
  have e : Obj.mapSeq (· ++ ys.toArray) (listOf xs.toArray n) = listOf (xs ++ ys).toArray (n + 1) := by
    show (⟨_, _, .seq _ (if _ then _ else _), _⟩ : Obj) = _
    rw [if_neg (by
      intro q
      have q2 := beq_iff_eq.mp q
      rw [Array.size_append] at q2
      simp at q2
      rw [q2] at hy
      simp at hy)]
    simp
  obtain ⟨F', N'⟩ := news_upd (f := Obj.mapSeq (· ++ ys.toArray)) F N h1 h2 e rfl
  exact iadd_list z.1 (N _ hb).1 (by simpa using hsz) (h _ F' N')
end
section
variable {prog : Program} {w : World} {A : Around} {E : Value → Shared → Prop} {s : Shared} {h₀ : Heap} {L l : Addr} {m : Str → Option Value} {news : List (Addr × Obj)} {xs : List Value} {n : Nat} {Q : Value → Shared → Prop} {k : Int} {u : Tok} {value slice : Expr}
theorem item_any (N : News h₀ L s.heap news) (hm : (l, listOf xs.toArray n) ∈ news) (h0 : 0 ≤ k) (h1 : k < (xs.length : Int)) (hl : xs.length < 2 ^ 62)
    (h : ∀ v, xs[k.toNat]? = some v → Q v s)
    (hs : subscripted slice false (.ref l) (.int k u) = operate [.ref l, .int k u] (getItem (.ref l) (.int k u)) := by with_unfolding_all rfl) :
    wpAny (model prog w) A (subscriptTail value slice (.ref l) (.int k u)) Q E s := by
  have hl' : s.heap.IsList l xs.toArray := ⟨_, (N _ hm).1, rfl, _, rfl⟩
  have hk : k.toNat < xs.length := by omega
  refine tail_any hl'.typeIs F.slot_list_getitem.lookup (wpAny_getItem_list (x := xs[k.toNat]) hl' h0 (by omega) (by simp [hk]) (h _ (by simp [hk]))) hs
end
section
variable {prog : Program} {w : World} {A : Around} {E : Value → Shared → Prop} {s : Shared} {Q : Value → Shared → Prop} {x k : Int} {t u : Tok} {c : Nat}
theorem r_mod (hk : 0 < k) (h : Q (.int (x % k) s.toks) { s with toks := s.toks + 1 }) : wpAny (model prog w) A (binaryOp .Mod (.int x t) (.int k u)) Q E s :=
  mod_int' (by omega) (by rw [Int.fmod_eq_emod_of_nonneg x (by omega)]; exact h)
theorem r_fdiv (hk : 0 < k) (hk2 : k.natAbs.log2 < 60) (h : Q (.int (x / k) s.toks) { s with toks := s.toks + 1 }) : wpAny (model prog w) A (binaryOp .FloorDiv (.int x t) (.int k u)) Q E s :=
  floordiv_int (by omega) (by rw [Int.fdiv_eq_ediv_of_nonneg x (by omega)]; exact h) (.inl (PyProof.noPylong_of_log2 (by omega)))
theorem r_mul (h0 : x ≤ 1000) (h1 : 0 ≤ x) (h : ∀ t' k', Q (.str (S (List.replicate x.toNat c)) t') { s with toks := k' }) : wpAny (model prog w) A (binaryOp .Mult (.str (S [c]) t) (.int x u)) Q E s := by
  refine SB.mul (mulOk_of 1 1000 (by simp [Str.length]) (by omega) (by omega) (by decide) (by decide)) fun t' k' => ?_
  have e : Txt.mul (S [c]) x = S (List.replicate x.toNat c) := by
    have := mul_one_list c x
    cases hm : Txt.mul ⟨#[c]⟩ x with
    | mk cps => rw [hm] at this; simp at this; simp [S, ← this]
  rw [e]; exact h t' k'
end
end
section
open PySem PySem.W PyProof.Rows PySem.Builtin PySem.Builtin.ObjectAttr
set_option Elab.async false
set_option maxRecDepth 100000
def tailB (l : List Nat) : Nat := (l.reverse.takeWhile (· == 33)).length
theorem takeWhile_len : ∀ (r : List Nat) (n : Nat), (∀ j, j < n → r[j]? = some 33) → (n = r.length ∨ r[n]? ≠ some 33) → n ≤ r.length → (r.takeWhile (· == 33)).length = n
  | [], n, _, _, h => by simp at h; simp [h]
  | c :: r, 0, _, h2, _ => by
    rcases h2 with h | h
    · simp at h
    · have : c ≠ 33 := by simpa using h
      simp [List.takeWhile_cons, this]
  | c :: r, n + 1, h1, h2, h3 => by
    have hc : c = 33 := by simpa using h1 0 (by omega)
    subst hc
    simp only [List.takeWhile_cons, beq_self_eq_true, if_true, List.length_cons]
    rw [takeWhile_len r n (fun j hj => by simpa using h1 (j + 1) (by omega)) (by simpa using h2) (by simpa using h3)]
theorem tailB_eq (l : List Nat) (hi : Nat) (h0 : hi ≤ l.length) (h1 : ∀ k, hi ≤ k → k < l.length → l[k]? = some 33) (h2 : hi = 0 ∨ l[hi - 1]? ≠ some 33) : tailB l = l.length - hi := by
  unfold tailB
  refine takeWhile_len _ _ (fun j hj => ?_) ?_ (by simp)
  · rw [List.getElem?_reverse (by omega)]
    exact h1 _ (by omega) (by omega)
  · rcases h2 with h | h
    · left; simp [h]
    · by_cases hz : hi = 0
      · left; simp [hz]
      · right
        rw [List.getElem?_reverse (by omega), show l.length - 1 - (l.length - hi) = hi - 1 by omega]
        exact h
theorem rstrip_S (l : List Nat) : Txt.rstripChars (S l) (S [33]) = S (l.take (l.length - tailB l)) := by
  obtain ⟨_, h0, h1, h2⟩ := hi_facts ((S [33]).cps.contains) (S l) 0 (Nat.zero_le _)
  unfold Txt.rstripChars
  rw [PyProof.Rows.stripBy_eq, show stripLo (S [33]).cps.contains false (S l) = 0 from rfl]
  generalize stripHi (S [33]).cps.contains true (S l) 0 = hi at *
  rw [S_len] at h0 h1
  have e : ∀ k, k < l.length → (S [33]).cps.contains ((S l).cps.getD k 0) = decide (l[k]? = some 33) := fun k hk => by
    simp [hk]
  rw [tailB_eq l hi h0 (fun k a b => by have := h1 k a b; rw [e k b] at this; simpa using this) ?_]
  · show (⟨(l.toArray).extract 0 hi⟩ : Str) = S _
    rw [show l.length - (l.length - hi) = hi by omega]
    simp
  · rcases h2 with h | h
    · exact .inl h
    · by_cases hz : hi = 0
      · exact .inl hz
      · right; rw [e _ (by omega)] at h; simpa using h
section
variable {prog : Program} {w : World} {A : Around} {E : Value → Shared → Prop} {s : Shared} {Q : Value → Shared → Prop} {l : List Nat} {t u : Tok}
theorem r_rstrip (hsz : l.length ≤ sizeLine) (h : ∀ t' k, Q (.str (S (l.take (l.length - tailB l))) t') { s with toks := k }) : wpAny (model prog w) A (call (.builtin "str.rstrip") [.str (S l) t, .str (S [33]) u]) Q E s :=
  SCL.rstripChars (fun t' k _ => by rw [rstrip_S]; exact h t' k) (by rw [S_len]; exact hsz)
end
end
section
open PySem PySem.W PyProof.Rows
set_option Elab.async false
set_option maxRecDepth 100000
/-- the frame of a call at hand -/
abbrev arA (dp un : Nat) (fr : Option (List Env)) (gd : Option (List Code)) : Around := { handled := none, depth := dp, frames := fr, guards := gd, units := un }
/-- what a call of a def of the text gives back, the whole heap kept -/
abbrev PCl (bd : Nat) (prog : Program) (w : World) (K : Frag) (p : Program) (loose : List Str) (mean : ExcName → Option Value) (mg mb : Str → Option Value) (f : Addr) (vs : List Value) (R : Tok → Value) : Prop :=
  ∀ (dp un : Nat) (fr : Option (List Env)) (gd : Option (List Code)) (s : Shared) (Q E : Value → Shared → Prop),
    K.In s.heap → Top p loose mean mg mb s.heap → dp + bd < 1000 → un + 10 * bd < 9900 →
    (∀ (t : Tok) (h' : Heap) (tk : Nat), s.heap.StaysIn h' → Q (R t) { s with heap := h', toks := tk }) →
    wpAny (model prog w) (arA dp un fr gd) (call (.ref f) vs) Q E s
section
variable {prog : Program} {w : World} {K : Frag} {p : Program} {loose : List Str} {mean : ExcName → Option Value} {mg mb : Str → Option Value}
theorem PCl.use {bd : Nat} {f : Addr} {vs : List Value} {R : Tok → Value} (C : PCl bd prog w K p loose mean mg mb f vs R) {dp un : Nat} {fr : Option (List Env)} {gd : Option (List Code)} {h₀ : Heap} {L : Addr} {m : Str → Option Value} {news : List (Addr × Obj)} {s : Shared} {Q E : Value → Shared → Prop}
    (F : Fr h₀ L s.heap m) (X : K.In h₀) (N : News h₀ L s.heap news) (T : Top p loose mean mg mb h₀) (hd : dp + bd < 1000) (hu : un + 10 * bd < 9900)
    (h : ∀ t h' tk, Fr h₀ L h' m → News h₀ L h' news → Q (R t) { s with heap := h', toks := tk }) :
    wpAny (model prog w) (arA dp un fr gd) (call (.ref f) vs) Q E s :=
  C dp un fr gd s Q E (X.keeps F.keep) (T.keeps F.keep) hd hu fun t h' tk st => h t h' tk ⟨F.ns.keeps st, fun b o e => st b o (F.keep b o e), F.above⟩ fun q hq => ⟨st _ _ (N q hq).1, (N q hq).2⟩
theorem code_pure {A : Around} {s : Shared} {R : Result → Shared → Prop} {name qual : Str} {params : Arguments} {body : List Stmt} {scope : Scope} {dV kV doc pm cdv ct oc : Value} {an od : Option Addr} {osl : Array (Option Value)} {f : Addr} {args : Args} {binds : List (Str × Value)}
    (X : K.In s.heap) (T : Top p loose mean mg mb s.heap)
    (ho : K.lookup f = some ⟨oc, od, .func (fnOf name qual params body scope dV kV doc pm an cdv ct), osl⟩) (hcd : codeIn K cdv qual = true) (hroom : A.depth < recursionLimit)
    (hbind : BindsTo s (fnOf name qual params body scope dV kV doc pm an cdv ct) args binds) (hloc : ∀ y ∈ binds, scope.names.lookup y.1 = some .local)
    (h : ∀ L' h₁, Fr s.heap L' h₁ (fun y => binds.reverse.lookup y) → News s.heap L' h₁ [] →
      wpAny (model prog w) (A.deeper (envOf qual scope L' f cdv)) (execs body (envOf qual scope L' f cdv))
        (fun fl s' => R (.ok (.ret (match fl with | .ret v => v | _ => .none))) s') (fun _ _ => False)
        { s with heap := h₁, toks := s.toks + binds.length })
    (hco : scope.isCoroutine = false) (hgen : scope.isGenerator = false) (hk : scope.kind = .function)
    (hcell : ∀ x ∈ scope.names, x.2 ≠ .cell) : codeAny (model prog w) A (.call (.ref f) args) R s :=
  codeAny_call_def (fd := fnOf name qual params body scope dV kV doc pm an cdv ct) (body := body) (binds := binds) hroom (X _ _ ho) rfl T.nolimit (codeRec_of X hcd) rfl hbind hcell hloc
    (fun h₁ hns hk₁ => wpAny_mono (h s.heap.objs.size h₁ ⟨hns, hk₁, Nat.le_refl _⟩ News.nil) (fun _ _ x => x) fun _ _ x => x.elim) hco hgen hk
end
section
variable {h₀ h' : Heap} {L : Addr} {m : Str → Option Value} {s : Shared} {Q : Value → Shared → Prop} {t : Tok} {tk' : Nat}
theorem pc_retI {x y : Int} (hret : ∀ (t : Tok) (h' : Heap) (tk' : Nat), s.heap.StaysIn h' → Q (.int x t) { s with heap := h', toks := tk' }) (e : y = x) (F : Fr s.heap L h' m) : Q (.int y t) { s with heap := h', toks := tk' } := by
  subst e; exact hret t h' tk' F.keep
theorem pc_retS {x y : Str} (hret : ∀ (t : Tok) (h' : Heap) (tk' : Nat), s.heap.StaysIn h' → Q (.str x t) { s with heap := h', toks := tk' }) (e : y = x) (F : Fr s.heap L h' m) : Q (.str y t) { s with heap := h', toks := tk' } := by
  subst e; exact hret t h' tk' F.keep
theorem pc_retB {x y : Bool} (hret : ∀ (t : Tok) (h' : Heap) (tk' : Nat), s.heap.StaysIn h' → Q (.bool x) { s with heap := h', toks := tk' }) (e : y = x) (F : Fr s.heap L h' m) : Q (.bool y) { s with heap := h', toks := tk' } := by
  subst e; exact hret 0 h' tk' F.keep
end
def uncL (c : Nat) : List Nat := (if c / 128 % 2 = 1 then [33] else []) ++ (if c = 127 then [94, 63] else if 32 ≤ c % 128 ∧ c % 128 ≤ 126 then [c % 128] else if c % 128 = 127 then [94, 159] else [94, c % 128 + 64])
def prB (c : Nat) : Bool := decide (32 ≤ c ∧ c ≤ 126)
def altN (c : Nat) : Nat := if c / 128 % 2 = 1 then c else c + 128
end
section
open PySem PySem.W PyProof.Rows
set_option Elab.async false
set_option maxRecDepth 100000
theorem paired_all {α β : Type} {G : α → β → Prop} : ∀ {a : List α} {b : List β}, Paired G a b → a.length = b.length ∧ ∀ (i : Nat) (x : α) (y : β), a[i]? = some x → b[i]? = some y → G x y
  | _, _, .nil => ⟨rfl, fun i x y h => by simp at h⟩
  | _, _, .cons h t => by
    obtain ⟨e, r⟩ := paired_all t
    refine ⟨by simp [e], fun i x y hx hy => ?_⟩
    cases i with
    | zero => simp at hx hy; subst hx hy; exact h
    | succ i => exact r i x y (by simpa using hx) (by simpa using hy)
section
variable {prog : Program} {w : World} {A : Around} {E : Value → Shared → Prop} {s : Shared} {env : Env} {h₀ : Heap} {L : Addr} {m : Str → Option Value} {news : List (Addr × Obj)} {elt iter : Expr} {x : Str} {px : Pos} {scope : Scope} {pos : Pos} {Q : Value → Shared → Prop}
/-- a list comprehension over the signs of a text, without a test -/
theorem comp_str {l : List Nat} {t : Tok} (R : Nat → Value → Prop) (F : Fr h₀ L s.heap m) (N : News h₀ L s.heap news) (hh : A.handled = none)
    (hfree : ∀ y ∈ scope.names, y.2 ≠ .free) (hcell : ∀ y ∈ scope.names, y.2 ≠ .cell) (hkind : scope.kind = .function)
    (hnames : ∀ y ∈ scope.names, y.2 = .local → scope.names.lookup y.1 = some .local) (hx : scope.names.lookup x = some .local)
    (hit : ∀ Q' : Value → Shared → Prop, Q' (.str (S l) t) s → wpAny (model prog w) A (eval iter env) Q' E s) (hl : l.length ≤ sizeLine)
    (helt : ∀ C c u s₃ m₃ E', c ∈ l → s₃.heap.Ns C m₃ → m₃ x = some (.str (S [c]) u) → (∀ b o, s.heap.get? b = some o → s₃.heap.get? b = some o) →
      wpAny (model prog w) A (eval elt (compEnv scope C env)) (fun y s₄ => R c y ∧ Keeps s₃ s₄) E' s₃)
    (h : ∀ (D : Addr) (ys : List Value) (k : Nat) (h' : Heap) (tk : Nat), Fr h₀ L h' m → News h₀ L h' ((D, listOf ys.toArray k) :: news) → ys.length = l.length → (∀ (i : Nat) (c : Nat) (y : Value), l[i]? = some c → ys[i]? = some y → R c y) → Q (.ref D) { s with heap := h', toks := tk })
    (hs : ∀ x, foldedSetIterable iter env x = pure x := by intro _; rfl) :
    wpAny (model prog w) A (eval (.ListComp elt [⟨.Name x px, iter, [], 0⟩] scope pos) env) Q E s := by
  refine wpAny_ListComp_walk (fun _ => true) (fun v y => ∃ c u, c ∈ l ∧ v = .str (S [c]) u ∧ R c y) hfree hcell hkind hnames hx (hit _ ?_) hs
  refine wpAny_pyIter_str fun o St W st => ?_
  refine ⟨_, _, _, _, _, _, rfl, W A hh, by simpa using hl, st, fun b hb => ?_, ⟨?_, ?_⟩, ?_⟩
  · rw [List.mem_singleton.mp hb, Heap.size_push]; exact Nat.lt_succ_self _
  · intro C i v s₃ m₃ E' _ _ _ _ _
    exact wpAny_pure ⟨rfl, s₃.heap, s₃.toks, rfl, fun _ _ e => e⟩
  · rintro C i v s₃ m₃ E' ⟨c, u, hc, rfl⟩ _ hn hx' hk _
    have hm : c ∈ l := by
      have : (S l).cps[i]? = some c := hc
      simp at this
      exact List.mem_of_getElem? this
    refine wpAny_mono (helt C c u s₃ m₃ E' hm hn hx' fun b o e => hk b o (fun q => ?_) (Heap.get?_push_of_some _ e)) (fun y s₄ z => ⟨⟨c, u, hm, rfl, z.1⟩, z.2⟩) fun _ _ e => e
    rw [List.mem_singleton.mp q] at e
    exact absurd (Heap.lt_size e) (Nat.lt_irrefl _)
  · intro D h' tk ys vs hD _ hp hlen hP hF hk
    obtain ⟨k, hD'⟩ := hp
    rw [List.filter_eq_self.mpr (by simp)] at hF
    obtain ⟨e1, e2⟩ := paired_all hF
    have st' : ∀ b o, s.heap.get? b = some o → h'.get? b = some o := fun b o e => hk b o (fun q => by
      rw [List.mem_singleton.mp q] at e; exact absurd (Heap.lt_size e) (Nat.lt_irrefl _)) (Heap.get?_push_of_some _ e)
    have nD : ∀ b o, s.heap.get? b = some o → b ≠ D := fun b o e q => by
      rw [q] at e; rw [Heap.get?_push_of_some _ e] at hD; cases hD
    refine h D ys.toList k h' tk ⟨F.ns.keeps st', fun b o e => st' b o (F.keep b o e), F.above⟩ (fun q hq => ?_) ?_ ?_
    · rcases List.mem_cons.mp hq with rfl | hq
      · refine ⟨by simpa using hD', fun e => ?_, ?_⟩
        · obtain ⟨oL, _, _, hL, _⟩ := F.ns
          exact nD _ _ hL (by simpa using e.symm)
        · cases q : h₀.get? D with
          | none => rfl
          | some o => exact absurd rfl (nD D o (F.keep D o q))
      · exact ⟨st' _ _ (N q hq).1, (N q hq).2⟩
    · rw [← e1, hlen]; simp
    · intro i c y hc hy
      have hv : i < vs.length := by
        rw [e1]; exact (List.getElem?_eq_some_iff.mp hy).1
      obtain ⟨c', u', hc', he⟩ := hP i vs[i] (by simp [hv])
      have hc'' : l[i]? = some c' := by simpa using hc'
      rw [hc] at hc''
      cases hc''
      obtain ⟨c2, u2, _, he2, hr⟩ := e2 i vs[i] y (by simp [hv]) hy
      rw [he] at he2
      have : c = c2 := by
        have := (Value.str.inj he2).1
        simpa using this
      rw [this]; exact hr
end
section
variable {prog : Program} {w : World} {A : Around} {E : Value → Shared → Prop} {s : Shared} {env : Env} {K : Frag} {h : Heap} {p : Program} {loose : List Str} {mean : ExcName → Option Value} {mg mb : Str → Option Value} {scope : Scope} {C : Addr} {m₃ : Str → Option Value} {f x : Str} {pf px pos : Pos} {v : Value} {Q : Value → Shared → Prop}
/-- a built-in called with the comprehension's own name -/
theorem elt_b1 {id : String} (X : K.In h) (T : Top p loose mean mg mb h) (st : h.StaysIn s.heap) (e : nsIn K mainGlobals f = some none) (hv : bootBuiltins f = some (.builtin id)) (hnm : f ≠ "__name__")
    (hg : env.globals = mainGlobals) (hb : env.builtins = builtinsNs) (hk : scope.kind = .function) (hf : (compEnv scope C env).kindOf f = some .globalImplicit) (hx : (compEnv scope C env).kindOf x = some .local)
    (hn : s.heap.Ns C m₃) (hm : m₃ x = some v) (h1 : wpAny (model prog w) A (call (.builtin id) [v]) Q E s)
    (hd : (f == ("__debug__" : Str)) = false := by decide) (hd' : (x == ("__debug__" : Str)) = false := by decide) :
    wpAny (model prog w) A (eval (.Call (.Name f pf) [.Name x px] [] pos) (compEnv scope C env)) Q E s := by
  refine wpAny_Call_NameR (Calls.Name_function_global hk hf ?_ hd)
  refine Calls.loadGlobal_builtin (env := compEnv scope C env) (mg := mg) (mb := mb) ?_ (mg_none_of X T.g e) ?_ ((T.builtins f hnm).trans hv) ?_
  · show s.heap.Ns env.globals mg; rw [hg]; exact T.g.keeps st
  · show s.heap.Ns env.builtins mb; rw [hb]; exact T.b.keeps st
  refine PyProof.Rows.callWith_builtin1 ?_
  refine spliced_more ?_
  refine wpAny_Name (wpAny_loadName_local hk hx hn hm ?_) hd'
  exact spliced_none h1
/-- a def of the text called with the comprehension's own name -/
theorem elt_f1 {fa : Addr} (X : K.In h) (T : Top p loose mean mg mb h) (st : h.StaysIn s.heap) (e : nsIn K mainGlobals f = some (some (.ref fa))) (hkp : keepIn K (.ref fa) = true)
    (hg : env.globals = mainGlobals) (hk : scope.kind = .function) (hf : (compEnv scope C env).kindOf f = some .globalImplicit) (hx : (compEnv scope C env).kindOf x = some .local)
    (hn : s.heap.Ns C m₃) (hm : m₃ x = some v) (h1 : wpAny (model prog w) A (call (.ref fa) [v]) Q E s)
    (hd : (f == ("__debug__" : Str)) = false := by decide) (hd' : (x == ("__debug__" : Str)) = false := by decide) :
    wpAny (model prog w) A (eval (.Call (.Name f pf) [.Name x px] [] pos) (compEnv scope C env)) Q E s := by
  refine wpAny_Call_NameR (Calls.Name_function_global hk hf ?_ hd)
  refine Calls.loadGlobal_global (env := compEnv scope C env) (mg := mg) ?_ (mg_of X T.g e) ?_
  · show s.heap.Ns env.globals mg; rw [hg]; exact T.g.keeps st
  refine callWith_K X hkp ?_
  refine spliced_more ?_
  refine wpAny_Name (wpAny_loadName_local hk hx hn hm ?_) hd'
  exact spliced_none ⟨X.keeps st, h1⟩
end
end
section
open PySem PySem.W PyProof.Rows
set_option Elab.async false
set_option maxRecDepth 100000
section
variable {M : Model} {A : Around} {E : Value → Shared → Prop} {s : Shared} {name qual : Str} {params : Arguments} {body : FuncBody} {scope : Scope} {env : Env} {c P : Addr} {ps : Array Value} {pos : Pos} {firstLine : Nat} {mg : Str → Option Value}
  {clos : List (Str × Addr)} {dV : Value} {Q : Value → Shared → Prop}
/-- the end of a def or a lambda: the code record is found in the table of the enclosing code, or made and laid there -/
theorem fn_tail (hcl : closureFor scope env = pure clos) (hge0 : env.globals = mainGlobals) (hg : s.heap.Ns mainGlobals mg) (hcode : env.code = .ref c) (C : CodeHd s.heap c P) (hP : s.heap.get? P = some (tabObj ps)) (ht : TriplesOk ps.toList)
    (hgP : mainGlobals ≠ P) (hb : s.heap.BuiltinsAt mg P)
    (hnew : codeAmong pos ps.toList = none → ∀ c' P' ctv doc h' tk, Heap.ExtBut P s.heap h' → s.heap.objs.size ≤ h'.objs.size → s.heap.objs.size ≤ c' → s.heap.objs.size ≤ P' → h'.CodeRec (.ref c') qual → CodeHd h' c' P' → h'.get? P' = some (tabObj #[]) →
      h'.get? P = some (tabObj (ps ++ #[rawInt pos.line, rawInt pos.col, .ref c'])) →
      Q (.ref h'.objs.size) { s with heap := h'.push (kdv_obj name qual params body scope clos dV doc ((mg "__name__").getD .none) c' ctv), toks := tk })
    (hold : ∀ c', codeAmong pos ps.toList = some (.ref c') → ∀ (ctv doc : Value) (h' : Heap) (tk : Tok), (∀ b o, s.heap.get? b = some o → h'.get? b = some o) → s.heap.objs.size ≤ h'.objs.size →
      Q (.ref h'.objs.size) { s with heap := h'.push (kdv_obj name qual params body scope clos dV doc ((mg "__name__").getD .none) c' ctv), toks := tk })
    (href : ∀ v, codeAmong pos ps.toList = some v → ∃ c', v = .ref c') :
    wpAny M A (makeTail name qual params body scope env dV .none none pos firstLine) Q E s := by
  cases hf : codeAmong pos ps.toList with
  | some v =>
    obtain ⟨c', rfl⟩ := href v hf
    exact kdv_makeTailHit hcl hge0 hg hcode C hP ht hf hb (hold c' hf)
  | none =>
    obtain ⟨bm, ob, q1, q2, _, q4, q5, q6, q7, q8⟩ := hb
    unfold makeTail
    rw [hcl, hge0]
    refine wpAny_bind (wpAny_pure ?_)
    -- from the code record on, at any heap that has grown
    have rest : ∀ (ctv : Value) (c' P' : Addr) (h' : Heap) (tk : Nat), Heap.ExtBut P s.heap h' → s.heap.objs.size ≤ h'.objs.size → s.heap.objs.size ≤ c' → s.heap.objs.size ≤ P' → h'.CodeRec (.ref c') qual → CodeHd h' c' P' → h'.get? P' = some (tabObj #[]) →
        h'.get? P = some (tabObj (ps ++ #[rawInt pos.line, rawInt pos.col, .ref c'])) →
        ∀ (doc : Value) (tk' : Nat), Q (.ref h'.objs.size) { s with heap := h'.push (kdv_obj name qual params body scope clos dV doc ((mg "__name__").getD .none) c' ctv), toks := tk' } :=
      fun ctv c' P' h' _ a b d e f g i j doc tk' => hnew hf c' P' ctv doc h' tk' a b d e f g i j
    by_cases hz : clos.isEmpty = true
    · rw [if_pos hz]
      refine wpAny_bind (wpAny_pure ?_)
      refine wpAny_bind (wpAny_functionCodeX hcode (C.code hP ht) (C.tab hP) hf fun c' h' tk hx hge hlt _ hrec htb hn => ?_)
      obtain ⟨P', hP', hI, hT⟩ := hn
      have R := rest .none c' P' h' tk hx (Nat.le_trans hge (Nat.le_of_lt hlt)) hge hP' hrec (CodeHd.of hI hT) hT.2 htb.2
      have hg' := hg.extBut hx hgP
      refine wpAny_bind (wpAny_builtinsFor hg' q1 q2 (hx _ _ q4 q5) q6 q7 q8 (wpAny_bind (wpAny_nsGet hg' ?_)))
      cases body with
      | expr e => exact wpAny_bind (wpAny_pure (wpAny_newObj_type (R .none tk) (by size_fits)))
      | stmts b =>
        cases hd : docOf b with
        | none => exact wpAny_bind (by simp only [hd]; exact wpAny_pure (wpAny_newObj_type (R .none tk) (by size_fits)))
        | some x => exact wpAny_bind (by simp only [hd]; exact wpAny_mkText (wpAny_newObj_type (R _ _) (by size_fits)))
    · rw [if_neg hz]
      refine wpAny_bind (wpAny_newTextTuple ?_)
      have up : ∀ (o : Obj) b x, s.heap.get? b = some x → (s.heap.push o).get? b = some x := fun o b x e => Heap.get?_push_of_some o e
      refine wpAny_bind (wpAny_functionCodeX hcode ((C.keeps (up _)).code (up _ _ _ hP) ht) ((C.keeps (up _)).tab (up _ _ _ hP)) hf fun c' h' tk hx hge hlt _ hrec htb hn => ?_)
      obtain ⟨P', hP', hI, hT⟩ := hn
      have hx' : Heap.ExtBut P s.heap h' := fun b o hb' e => hx b o hb' (up _ _ _ e)
      have hge' : s.heap.objs.size ≤ c' := Nat.le_trans (by rw [Heap.size_push]; exact Nat.le_succ _) hge
      have hP'' : s.heap.objs.size ≤ P' := Nat.le_trans (by rw [Heap.size_push]; exact Nat.le_succ _) hP'
      have R := fun ctv => rest ctv c' P' h' tk hx' (Nat.le_trans hge' (Nat.le_of_lt hlt)) hge' hP'' hrec (CodeHd.of hI hT) hT.2 htb.2
      have hg' := hg.extBut hx' hgP
      refine wpAny_bind (wpAny_builtinsFor hg' q1 q2 (hx' _ _ q4 q5) q6 q7 q8 (wpAny_bind (wpAny_nsGet hg' ?_)))
      cases body with
      | expr e => exact wpAny_bind (wpAny_pure (wpAny_newObj_type (R _ .none tk) (by size_fits)))
      | stmts b =>
        cases hd : docOf b with
        | none => exact wpAny_bind (by simp only [hd]; exact wpAny_pure (wpAny_newObj_type (R _ .none tk) (by size_fits)))
        | some x => exact wpAny_bind (by simp only [hd]; exact wpAny_mkText (wpAny_newObj_type (R _ _ _) (by size_fits)))
end
end
section
open PySem PySem.W PyProof.Rows
set_option Elab.async false
set_option maxRecDepth 100000
theorem cellsFrom_app : ∀ (names : List (Str × NameKind)) (n : Nat) (acc : List (Str × Addr)), cellsFrom n names acc = cellsFrom n names [] ++ acc
  | [], _, _ => rfl
  | (x, k) :: r, n, acc => by
    unfold cellsFrom
    split
    · rw [cellsFrom_app r (n + 1) ((x, n) :: acc), cellsFrom_app r (n + 1) [(x, n)], List.append_assoc]; rfl
    · exact cellsFrom_app r n acc
theorem lookup_app {cs clos : List (Str × Addr)} {n : Str} {c : Addr} (h : cs.lookup n = some c) : (cs ++ clos).lookup n = some c := by
  rw [List.lookup_append, h]; rfl
section
variable {M : Model} {A : Around} {E : Value → Shared → Prop} {s₀ s : Shared} {m cm : Str → Option Value} {env : Env} {cs clos : List (Str × Addr)}
theorem st_own {n : Str} {v : Value} {Q : Unit → Shared → Prop} (x : InCallC s₀ env.locals m cs cm s) (hk : env.scope.kind = .function) (hl : env.kindOf n = some .local)
    (h : ∀ s', InCallC s₀ env.locals (fun y => if y = n then some v else m y) cs cm s' → Q () s') : wpAny M A (storeName env n v) Q E s := by
  refine wpAny_storeName_local hl x.toInCall.ns (fun h' hn' hs' => h _ ⟨⟨?_, hn', fun b o e => ?_, x.toInCall.fresh⟩, fun k c hc => ?_, x.apart, x.above⟩) (by rw [hk]; rfl)
  · obtain ⟨h₁, tk, rfl⟩ := x.toInCall.same
    exact ⟨h', _, rfl⟩
  · exact hs'.extBut b o (Nat.ne_of_lt (Nat.lt_of_lt_of_le (Heap.lt_size e) x.toInCall.fresh)) (x.toInCall.keep b o e)
  · exact (x.cell k c hc).sameBut hs' (Nat.ne_of_gt (x.above k c (mem_of_lookup hc)))
theorem st_cell {n : Str} {c : Addr} {v : Value} {Q : Unit → Shared → Prop} (x : InCallC s₀ env.locals m cs cm s) (hk : env.scope.kind = .function) (hl : env.kindOf n = some .cell)
    (he : env.cells = cs ++ clos) (hc : cs.lookup n = some c)
    (h : ∀ s', InCallC s₀ env.locals m cs (fun y => if y = n then some v else cm y) s' → Q () s') : wpAny M A (storeName env n v) Q E s := by
  have hLc := x.above n c (mem_of_lookup hc)
  refine wpAny_storeName_cell hk hl (by rw [he]; exact lookup_app hc) (x.cell n c hc) fun h' hc' hs' => h _ ⟨⟨?_, x.toInCall.ns.sameBut hs' (Nat.ne_of_lt hLc), fun b o e => ?_, x.toInCall.fresh⟩, fun k c' hk' => ?_, x.apart, x.above⟩
  · obtain ⟨h₁, tk, rfl⟩ := x.toInCall.same
    exact ⟨h', _, rfl⟩
  · exact hs'.extBut b o (Nat.ne_of_lt (Nat.lt_trans (Nat.lt_of_lt_of_le (Heap.lt_size e) x.toInCall.fresh) hLc)) (x.toInCall.keep b o e)
  · by_cases hkn : k = n
    · subst hkn
      rw [hc] at hk'; cases hk'
      simpa using hc'
    · rw [if_neg hkn]
      exact (x.cell k c' hk').sameBut hs' fun e => hkn (name_of_addr x.apart (mem_of_lookup hk') (e ▸ mem_of_lookup hc))
theorem bind_own (f : Str × Value → PUnit → Sem (ForInStep PUnit)) (hf : ∀ n v u, f (n, v) u = (do storeName env n v; pure (.yield ⟨⟩))) (hk : env.scope.kind = .function) (he : env.cells = cs ++ clos) :
    ∀ (binds : List (Str × Value)) (m cm : Str → Option Value) (s : Shared) (Q : PUnit → Shared → Prop), InCallC s₀ env.locals m cs cm s →
      (∀ x ∈ binds, env.kindOf x.1 = some .local ∨ (env.kindOf x.1 = some .cell ∧ (cs.lookup x.1).isSome = true)) →
      (∀ s', InCallC s₀ env.locals (bindL env.kindOf binds m) cs (bindC env.kindOf binds cm) s' → Q ⟨⟩ s') → wpAny M A (forIn binds ⟨⟩ f) Q E s
  | [], m, cm, s, Q, x, _, h => by rw [List.forIn_nil]; exact wpAny_pure (h s x)
  | (n, v) :: r, m, cm, s, Q, x, hkind, h => by
    rw [List.forIn_cons, hf]
    have hr : ∀ y ∈ r, env.kindOf y.1 = some .local ∨ (env.kindOf y.1 = some .cell ∧ (cs.lookup y.1).isSome = true) := fun y hy => hkind y (List.mem_cons_of_mem _ hy)
    rcases hkind (n, v) List.mem_cons_self with hl | ⟨hl, hc⟩
    · refine wpAny_bind (wpAny_bind (st_own x hk hl fun s' x' => wpAny_pure (bind_own f hf hk he r _ _ s' Q x' hr fun s'' x'' => h s'' ?_)))
      unfold bindL bindC; rw [if_pos hl, if_pos hl]; exact x''
    · obtain ⟨c, hc⟩ := Option.isSome_iff_exists.mp hc
      have hnl : ¬ env.kindOf n = some .local := by rw [hl]; decide
      refine wpAny_bind (wpAny_bind (st_cell x hk hl he hc fun s' x' => wpAny_pure (bind_own f hf hk he r _ _ s' Q x' hr fun s'' x'' => h s'' ?_)))
      unfold bindL bindC; rw [if_neg hnl, if_neg hnl]; exact x''
end
section
variable {M : Model} {A : Around} {E : Value → Shared → Prop} {s : Shared}
/-- a frame with cells of its own and cells of those around it -/
theorem env_own {scope : Scope} {globals : Addr} {clos : List (Str × Addr)} {binds : List (Str × Value)} {qual : Str} {func : Option Addr} {code : Value} {builtins : Addr} {Q : Env → Shared → Prop}
    (hk : scope.kind = .function)
    (hkind : ∀ x ∈ binds, scope.names.lookup x.1 = some .local ∨ (scope.names.lookup x.1 = some .cell ∧ ((cellsFrom (s.heap.objs.size + 1) scope.names []).lookup x.1).isSome = true))
    (hQ : ∀ env, env = newEnv scope s.heap.objs.size globals (cellsFrom (s.heap.objs.size + 1) scope.names [] ++ clos) qual func code none builtins →
      ∀ s', InCallC s env.locals (bindL env.kindOf binds fun _ => none) (cellsFrom (s.heap.objs.size + 1) scope.names []) (bindC env.kindOf binds fun _ => none) s' → Q env s') :
    wpAny M A (newFunctionEnv scope globals clos binds qual func code none builtins) Q E s := by
  simp only [newFunctionEnv, Option.isSome_none, Bool.false_eq_true, if_false]
  refine wpAny_bind (wpAny_alloc ?_)
  refine wpAny_bind (wpAny_layCells _ (fun name kind cells => by cases hkc : kind == NameKind.cell <;> simp [hkc]) _ _ _ _ ?_)
  have ok := cellsFrom_ok scope.names (s.heap.push { cls := .type "frame", data := .dict #[] }) (s.heap.objs.size + 1) [] ⟨fun _ _ hm => (nomatch hm), List.Pairwise.nil⟩ (by rw [Heap.size_push]; exact Nat.le_refl _)
  rw [Heap.size_push] at ok
  rw [show ({ s with heap := s.heap.push { cls := .type "frame", data := .dict #[] } } : Shared).heap.objs.size = s.heap.objs.size + 1 from Heap.size_push .., cellsFrom_app]
  refine wpAny_bind (bind_own (s₀ := s) (env := newEnv scope s.heap.objs.size globals (cellsFrom (s.heap.objs.size + 1) scope.names [] ++ clos) qual func code none builtins) (cs := cellsFrom (s.heap.objs.size + 1) scope.names []) (clos := clos)
    _ (fun _ _ _ => rfl) hk rfl binds (fun _ => none) (fun _ => none) _ _
    ⟨⟨⟨_, _, rfl⟩, (Heap.Ns.new s.heap (.type "frame")).keeps (pushCells_keeps _ _), fun b o e => pushCells_keeps _ _ b o (Heap.get?_push_of_some _ e), Nat.le_refl _⟩,
      fun n c hc => (ok.empty n c (mem_of_lookup hc)).1, ok.apart, fun n c hm => (ok.empty n c hm).2⟩
    hkind fun s' x => wpAny_pure (hQ _ rfl s' x))
end
end
section
open PySem PySem.W PyProof.Rows
set_option Elab.async false
set_option maxRecDepth 100000
section
variable {prog : Program} {w : World} {A : Around} {E : Value → Shared → Prop} {Q : Flow → Shared → Prop} {s : Shared} {env : Env} {h₀ : Heap} {L : Addr}
/-- what a turn of a loop ends in -/
def TurnEnd (h₀ : Heap) (L : Addr) (s : Shared) (it : Addr) (o : Obj) (J : (Str → Option Value) → List (Addr × Obj) → Prop) (Q : Flow → Shared → Prop) (f : Flow) (s₃ : Shared) : Prop :=
  match f with
  | .next | .cont => ∃ h' tk' m' nx', s₃ = { s with heap := h', toks := tk' } ∧ Fr h₀ L h' m' ∧ News h₀ L h' ((it, o) :: nx') ∧ J m' nx'
  | .brk => Q .next s₃
  | .ret v => Q (.ret v) s₃
theorem for_range {target : Expr} {r : Addr} {a b : Int} {t u v : Tok} {n : Nat} {body : List Stmt} {m₀ : Str → Option Value} {news₀ : List (Addr × Obj)} (J : Nat → (Str → Option Value) → List (Addr × Obj) → Prop)
    (hh : A.handled = none) (F : Fr h₀ L s.heap m₀) (N : News h₀ L s.heap news₀) (hr : IsRange s.heap r a b 1 t u v) (hsmall : Builtin.Range.small a b 1 = true) (hn : Builtin.Range.rangeSize a b 1 = (n : Int)) (hJ0 : J 0 m₀ news₀)
    (hadr : ∀ i m nx, J i m nx → nx.map (·.1) = news₀.map (·.1))
    (turn : ∀ i m nx h tk o tx, i < n → J i m nx → Fr h₀ L h m → News h₀ L h ((s.heap.objs.size, o) :: nx) →
      wpAny (model prog w) A (assign target env (.int (a + (i : Int)) tx)) (fun _ s₂ => wpAny (model prog w) A (execs body env) (TurnEnd h₀ L s s.heap.objs.size o (J (i + 1)) Q) E s₂) E { s with heap := h, toks := tk })
    (done : ∀ m nx h tk, J n m nx → Fr h₀ L h m → News h₀ L h nx → Q .next { s with heap := h, toks := tk })
    (hE : PassesOwn (model prog w) A env E) (ht : ∀ it v, letOwnedTupleGo target it v = pure () := by intro _ _; rfl) :
    wpAny (model prog w) A (pyIter (.ref r)) (fun it s₂ => codeAny (model prog w) A (.forLoop target it body [] env) (fun r s' => match r with | .ok f => Q f s' | .error e => cameBackBy (model prog w) A env E e s') s₂) E s := by
  refine wpAny_pyIter_range hr hsmall ?_
  rw [hn]
  generalize hit : s.heap.objs.size = it at *
  have W := Walks.range (prog := prog) (w := w) (A := A) hh it a 1 n
  have hLt : L < it := hit ▸ F.ns.lt
  have n0 : ∀ p ∈ news₀, p.1 ≠ it := fun p hp => Nat.ne_of_lt (hit ▸ Heap.lt_size (N p hp).1)
  have off : ∀ {i m nx}, J i m nx → ∀ p ∈ nx, p.1 ≠ it := fun {i m nx} hJ p hp => by
    have h1 : p.1 ∈ nx.map (·.1) := List.mem_map_of_mem hp
    rw [hadr i m nx hJ] at h1
    obtain ⟨q, hq, e⟩ := List.mem_map.mp h1
    rw [← e]; exact n0 q hq
  have base : ∀ b o, h₀.get? b = some o → b ≠ it := fun b o e => Nat.ne_of_lt (hit ▸ Heap.lt_size (F.keep b o e))
  have itN : h₀.get? it = none := by
    cases q : h₀.get? it with
    | none => rfl
    | some o => exact absurd rfl (base it o q)
  refine codeAny_forLoop (fun k s' => ∃ i h tk m nx, s' = { s with heap := h, toks := tk } ∧ i ≤ n ∧ k = n + 1 - i ∧ IsRangeIter h it (a + (i : Nat) * 1) ((n : Int) - (i : Nat)) 1 ∧ Fr h₀ L h m ∧ News h₀ L h nx ∧ J i m nx) ?_ (n + 1)
    ⟨0, _, _, m₀, news₀, rfl, Nat.zero_le _, rfl, by subst hit; simpa using Heap.get?_push_size _ rfl, F.push _, fun p hp => ⟨Heap.get?_push_of_some _ (N p hp).1, (N p hp).2⟩, hJ0⟩ (ht _)
  rintro k s' ⟨i, h, tk, m, nx, rfl, hi, rfl, hst, F1, N1, hJ⟩
  have mv : ∀ h', (∀ b o, b ∉ [it] → h.get? b = some o → h'.get? b = some o) → Fr h₀ L h' m ∧ News h₀ L h' nx := fun h' hk => by
    obtain ⟨oL, a1, a2, hL, a3⟩ := F1.ns
    refine ⟨⟨⟨oL, a1, a2, hk _ _ (by simp; exact Nat.ne_of_lt hLt) hL, a3⟩, fun b o e => hk b o (by simp; exact base b o e) (F1.keep b o e), F1.above⟩, fun p hp => ⟨hk _ _ (by simp; exact off hJ p hp) (N1 p hp).1, (N1 p hp).2⟩⟩
  by_cases hlt : i < n
  · refine W.item i _ _ _ hlt hst fun v h' tk' hv hst' hk => ?_
    obtain ⟨tx, rfl⟩ := hv
    obtain ⟨F2, N2⟩ := mv h' hk
    have N3 : News h₀ L h' ((it, _) :: nx) := fun p hp => by
      rcases List.mem_cons.mp hp with rfl | hp
      · exact ⟨hst', Nat.ne_of_gt hLt, itN⟩
      · exact N2 p hp
    have e1 : a + (i : Int) * 1 = a + (i : Int) := by omega
    rw [e1]
    refine wpAny_passesOwn hE (wpAny_mono (turn i m nx h' tk' _ tx hlt hJ F2 N3) (fun _ s₂ z => ?_) fun _ _ e => e)
    refine wpAny_passesOwn hE (wpAny_mono z (fun f s₃ z2 => ?_) fun _ _ e => e)
    have go : (∃ h'' tk'' m' nx', s₃ = { s with heap := h'', toks := tk'' } ∧ Fr h₀ L h'' m' ∧ News h₀ L h'' ((it, { cls := Value.type "range_iterator", data := Data.fields #[rawInt (a + ((i + 1 : Nat) : Int) * 1), rawInt ((n : Int) - ((i + 1 : Nat) : Int)), rawInt 1] }) :: nx') ∧ J (i + 1) m' nx') →
        ∃ k', k' < n + 1 - i ∧ ∃ i h tk m nx, s₃ = { s with heap := h, toks := tk } ∧ i ≤ n ∧ k' = n + 1 - i ∧ IsRangeIter h it (a + (i : Nat) * 1) ((n : Int) - (i : Nat)) 1 ∧ Fr h₀ L h m ∧ News h₀ L h nx ∧ J i m nx := by
      rintro ⟨h2, tk2, m2, nx2, rfl, F4, N4, J4⟩
      exact ⟨n + 1 - (i + 1), by omega, i + 1, h2, tk2, m2, nx2, rfl, hlt, rfl, (N4 _ (List.Mem.head _)).1, F4, fun p hp => N4 p (List.Mem.tail _ hp), J4⟩
    cases f with
    | next => exact go z2
    | cont => exact go z2
    | brk => exact z2
    | ret v => exact z2
  · obtain rfl : i = n := by omega
    refine W.done _ _ _ hst fun h' tk' hk => wpAny_execs_nil ?_
    obtain ⟨F2, N2⟩ := mv h' hk
    exact done m nx h' tk' hJ F2 N2
end
section
variable {prog : Program} {w : World} {A : Around} {s : Shared} {R : Result → Shared → Prop} {name qual : Str} {params : Arguments} {body : List Stmt} {scope : Scope} {clos : List (Str × Addr)} {dV kV doc pm cdv ct : Value} {an : Option Addr} {fo : Obj} {f : Addr} {args : Args} {binds : List (Str × Value)}
/-- a call of a def with cells of its own; the tables of code lie in the ledger -/
theorem code_clo (tabs : List (Addr × Obj)) (htab : ∀ p ∈ tabs, s.heap.get? p.1 = some p.2)
    (ho : s.heap.get? f = some fo) (hd : fo.data = .func (fnX name qual params body scope clos dV kV doc pm an cdv ct)) (hlim : s.heap.NoLimit) (hcd : s.heap.CodeRec cdv qual) (hroom : A.depth < recursionLimit)
    (hbind : BindsTo s (fnX name qual params body scope clos dV kV doc pm an cdv ct) args binds)
    (hkind : (binds.all fun y => scope.names.lookup y.1 == some .local || scope.names.lookup y.1 == some .cell) = true)
    (hnd : ((cellsFrom 0 scope.names []).map (·.1)).Nodup)
    (h : ∀ h₁ tk cells, Fr (hideAll s.heap (tabs.map (·.1))) s.heap.objs.size h₁ (bindL (envX qual scope s.heap.objs.size f cdv (cellsFrom (s.heap.objs.size + 1) scope.names [] ++ clos)).kindOf binds fun _ => none) →
      News (hideAll s.heap (tabs.map (·.1))) s.heap.objs.size h₁ (cells ++ tabs) →
      CellsAre (bindC (envX qual scope s.heap.objs.size f cdv (cellsFrom (s.heap.objs.size + 1) scope.names [] ++ clos)).kindOf binds fun _ => none) (cellsFrom (s.heap.objs.size + 1) scope.names []) cells →
      wpAny (model prog w) (A.deeper (envX qual scope s.heap.objs.size f cdv (cellsFrom (s.heap.objs.size + 1) scope.names [] ++ clos))) (execs body (envX qual scope s.heap.objs.size f cdv (cellsFrom (s.heap.objs.size + 1) scope.names [] ++ clos)))
        (fun fl s' => R (.ok (.ret (match fl with | .ret v => v | _ => .none))) s') (fun _ _ => False)
        { s with heap := h₁, toks := tk })
    (hco : scope.isCoroutine = false) (hgen : scope.isGenerator = false) (hk : scope.kind = .function) : codeAny (model prog w) A (.call (.ref f) args) R s := by
  refine codeAny_call_function hroom ho hd hco hgen rfl hcd (hbind _ _ _ _ ?_)
  refine env_own hk (kindsX hkind _) fun env' he s' x => ?_
  subst he
  refine ⟨hlim.keeps x.toInCall.keep, codeAny_func ?_⟩
  obtain ⟨h₁, tk, rfl, _⟩ := x.done
  have hk₁ := x.toInCall.keep
  obtain ⟨cells, NC, Y⟩ := Cl.news (h₀ := s.heap) (Nat.le_refl _) fun n c hm => ⟨x.cell n c (lookup_of_mem_nodup (cellsFrom_names scope.names 0 (s.heap.objs.size + 1) [] [] rfl ▸ hnd) hm), x.above n c hm⟩
  refine wpAny_mono (h h₁ tk cells ⟨x.toInCall.ns, fun b o e => hk₁ b o (of_hideAll _ e), Nat.le_of_eq (hideAll_size _ _)⟩ (fun p hp => ?_) Y) (fun _ _ z => z) fun _ _ z => z.elim
  rcases List.mem_append.mp hp with hp | hp
  · refine ⟨(NC p hp).1, (NC p hp).2.1, ?_⟩
    cases q : (hideAll s.heap (tabs.map (·.1))).get? p.1 with
    | none => rfl
    | some o => have := of_hideAll _ q; rw [(NC p hp).2.2] at this; cases this
  · exact ⟨hk₁ _ _ (htab p hp), Nat.ne_of_lt (Heap.lt_size (htab p hp)), hideAll_none _ (List.mem_map_of_mem hp)⟩
end
end
section
open PySem PySem.W PyProof.Rows
set_option Elab.async false
set_option maxRecDepth 100000
def isTab (o : Obj) : Bool := match o.cls, o.data with
  | .none, .fields _ => true
  | _, _ => false
def Has (l : List (Addr × Obj)) (h : Heap) : Prop := ∀ q ∈ l, h.get? q.1 = some q.2
theorem Has.keeps {l : List (Addr × Obj)} {h h' : Heap} (x : Has l h) (k : ∀ b o, h.get? b = some o → h'.get? b = some o) : Has l h' := fun q hq => k _ _ (x q hq)
theorem Has.app {a b : List (Addr × Obj)} {h : Heap} (x : Has a h) (y : Has b h) : Has (a ++ b) h := fun q hq => (List.mem_append.mp hq).elim (x q) (y q)
theorem News.has {h₀ h : Heap} {L : Addr} {l : List (Addr × Obj)} (N : News h₀ L h l) : Has l h := fun q hq => (N q hq).1
/-- from h to h' all is kept but the tables that TL tells; TL' is what has become of them -/
structure Kept (h : Heap) (TL : List (Addr × Obj)) (h' : Heap) (TL' : List (Addr × Obj)) : Prop where
  keep : ∀ b o, (b ∉ TL.map (·.1) ∨ isTab o = false) → h.get? b = some o → h'.get? b = some o
  has : Has TL' h'
  adr : ∀ q ∈ TL', q.1 ∈ TL.map (·.1) ∨ h.objs.size ≤ q.1
  size : h.objs.size ≤ h'.objs.size
theorem Kept.refl {h : Heap} {TL : List (Addr × Obj)} (x : Has TL h) : Kept h TL h TL := ⟨fun _ _ _ e => e, x, fun _ hq => .inl (List.mem_map_of_mem hq), Nat.le_refl _⟩
theorem size_of_stays {h h' : Heap} (F : ∀ b o, h.get? b = some o → h'.get? b = some o) : True := trivial
theorem Kept.trans {h h' h'' : Heap} {TL TL' TL'' : List (Addr × Obj)} (a : Kept h TL h' TL') (b : Kept h' TL' h'' TL'') : Kept h TL h'' TL'' where
  keep := fun x o hx e => b.keep x o (hx.imp (fun n m => by
      obtain ⟨q, hq, rfl⟩ := List.mem_map.mp m
      rcases a.adr q hq with z | z
      · exact n z
      · exact absurd (Heap.lt_size e) (Nat.not_lt.mpr z)) id) (a.keep x o hx e)
  has := b.has
  adr := fun q hq => (b.adr q hq).elim (fun m => by
      obtain ⟨r, hr, e⟩ := List.mem_map.mp m
      rw [← e]; exact a.adr r hr) fun z => .inr (Nat.le_trans a.size z)
  size := Nat.le_trans a.size b.size
theorem Kept.news {h₀ h h' : Heap} {L : Addr} {m : Str → Option Value} {TL TL' rest : List (Addr × Obj)} (k : Kept h TL h' TL') (F : Fr h₀ L h m) (N : News h₀ L h TL) (R : News h₀ L h rest) (hr : ∀ q ∈ rest, q.1 ∉ TL.map (·.1) ∨ isTab q.2 = false) :
    Fr h₀ L h' m ∧ News h₀ L h' TL' ∧ News h₀ L h' rest := by
  have n0 : ∀ b o, h₀.get? b = some o → b ∉ TL.map (·.1) := fun b o e q => by
    obtain ⟨r, hr, rfl⟩ := List.mem_map.mp q
    rw [(N r hr).2.2] at e; cases e
  have nL : L ∉ TL.map (·.1) := fun q => by
    obtain ⟨r, hr, e⟩ := List.mem_map.mp q
    exact (N r hr).2.1 e
  obtain ⟨oL, a1, a2, hL, a3⟩ := F.ns
  refine ⟨⟨⟨oL, a1, a2, k.keep _ _ (.inl nL) hL, a3⟩, fun b o e => k.keep b o (.inl (n0 b o e)) (F.keep b o e), F.above⟩, fun q hq => ⟨k.has q hq, ?_⟩, fun q hq => ⟨k.keep _ _ (hr q hq) (R q hq).1, (R q hq).2⟩⟩
  rcases k.adr q hq with z | z
  · obtain ⟨r, hr, e⟩ := List.mem_map.mp z
    rw [← e]; exact (N r hr).2
  · refine ⟨Nat.ne_of_gt (Nat.lt_of_lt_of_le (Heap.lt_size hL) z), ?_⟩
    cases q1 : h₀.get? q.1 with
    | none => rfl
    | some o => exact absurd (Heap.lt_size (F.keep _ _ q1)) (Nat.not_lt.mpr z)
/-- Z lies at addresses of A0 or from n0 on -/
def Adr (A0 : List Addr) (n0 : Nat) (Z : List (Addr × Obj)) : Prop := ∀ q ∈ Z, q.1 ∈ A0 ∨ n0 ≤ q.1
theorem fresh_news {h₀ h h' : Heap} {L : Addr} {m : Str → Option Value} {HL TL : List (Addr × Obj)} (F : Fr h₀ L h m) (N : News h₀ L h TL) (x : Has HL h') (hf : Adr (TL.map (·.1)) h.objs.size HL) : News h₀ L h' HL := fun q hq => by
  rcases hf q hq with z | z
  · obtain ⟨r, hr, e⟩ := List.mem_map.mp z
    exact ⟨x q hq, e ▸ (N r hr).2⟩
  · refine ⟨x q hq, Nat.ne_of_gt (Nat.lt_of_lt_of_le F.ns.lt z), ?_⟩
    cases q1 : h₀.get? q.1 with
    | none => rfl
    | some o => exact absurd (Heap.lt_size (F.keep _ _ q1)) (Nat.not_lt.mpr z)
theorem Adr.trans {A0 : List Addr} {n0 n1 : Nat} {TL Z : List (Addr × Obj)} (a : Adr A0 n0 TL) (h : n0 ≤ n1) (b : Adr (TL.map (·.1)) n1 Z) : Adr A0 n0 Z := fun q hq => by
  rcases b q hq with z | z
  · obtain ⟨r, hr, e⟩ := List.mem_map.mp z
    exact e ▸ a r hr
  · exact .inr (Nat.le_trans h z)
section
variable (prog : Program) (w : World) (K : Frag) (p : Program) (loose : List Str) (mean : ExcName → Option Value) (mg mb : Str → Option Value)
/-- wherever HL stands in the heap, a call of sp gives the pair (i, j) and keeps the heap -/
def SpanOk (HL : List (Addr × Obj)) (sp : Addr) (i j : Int) : Prop :=
  ∀ (dp un : Nat) (fr : Option (List Env)) (gd : Option (List Code)) (s : Shared) (Q E : Value → Shared → Prop), K.In s.heap → Top p loose mean mg mb s.heap → dp + 10 < 1000 → un + 100 < 9900 → Has HL s.heap →
    (∀ (T : Addr) (ti tj : Tok) (h' : Heap) (tk : Nat), s.heap.StaysIn h' → s.heap.get? T = none → h'.get? T = some { cls := .type "tuple", data := .seq #[.int i ti, .int j tj] } → Q (.ref T) { s with heap := h', toks := tk }) →
    wpAny (model prog w) (arA dp un fr gd) (call (.ref sp) []) Q E s
def FnIn (q : Addr) (Z : List (Addr × Obj)) : Prop := ∃ oc od fd sl, (q, (⟨oc, od, .func fd, sl⟩ : Obj)) ∈ Z
/-- HL tells a hit: a def object with a span of its own -/
def HitL (HL : List (Addr × Obj)) (hit : Addr) (i j : Int) : Prop :=
  ∃ hd fd sl hsh tk n sp, (hit, (⟨.type "function", some hd, .func fd, sl⟩ : Obj)) ∈ HL ∧ (hd, dictOf [⟨hsh, .str (Str.ofString "span") tk, .ref sp⟩] n) ∈ HL ∧ (∀ q ∈ HL, isTab q.2 = false) ∧ FnIn sp HL ∧ SpanOk prog w K p loose mean mg mb HL sp i j
/-- what a search from st on gives -/
def Found (TP : List (Addr × Obj) → Prop) (nx : Option (Nat × Nat)) (s : Shared) (TL : List (Addr × Obj)) (Q : Value → Shared → Prop) : Prop :=
  (nx = none → ∀ (h' : Heap) (tk : Nat) (TL' : List (Addr × Obj)), Kept s.heap TL h' TL' → TP TL' → Q .none { s with heap := h', toks := tk }) ∧
  (∀ i j, nx = some (i, j) → ∀ (hit : Addr) (HL : List (Addr × Obj)) (h' : Heap) (tk : Nat) (TL' : List (Addr × Obj)), Kept s.heap TL h' TL' → TP TL' → HitL prog w K p loose mean mg mb HL hit (i : Int) (j : Int) → Has HL h' →
    Adr (TL.map (·.1)) s.heap.objs.size HL → Q (.ref hit) { s with heap := h', toks := tk })
/-- wherever PL stands in the heap and the tables are as TP says, a call of sf searches -/
def SearchOk (PL : List (Addr × Obj)) (TP : List (Addr × Obj) → Prop) (sf : Addr) (nx : List Nat → Nat → Option (Nat × Nat)) : Prop :=
  ∀ (l : List Nat) (st : Nat) (args : List Value) (TL : List (Addr × Obj)) (dp un : Nat) (fr : Option (List Env)) (gd : Option (List Code)) (s : Shared) (Q E : Value → Shared → Prop),
    ((st = 0 ∧ ∃ t, args = [.str (S l) t]) ∨ ∃ t u, args = [.str (S l) t, .int (st : Int) u]) → l.length < 300 → st < 1000 →
    K.In (hideAll s.heap ((TL ++ PL).map (·.1))) → Top p loose mean mg mb (hideAll s.heap ((TL ++ PL).map (·.1))) → dp + 60 < 1000 → un + 600 < 9900 → Has PL s.heap → TP TL → Has TL s.heap →
    Found prog w K p loose mean mg mb TP (nx l st) s TL Q →
    wpAny (model prog w) (arA dp un fr gd) (call (.ref sf) args) Q E s
/-- PL tells a prog: a def object with a search of its own -/
def ProgL (PL : List (Addr × Obj)) (TP : List (Addr × Obj) → Prop) (pg : Addr) (nx : List Nat → Nat → Option (Nat × Nat)) : Prop :=
  ∃ pd fd sl hsh tk n sf, (pg, (⟨.type "function", some pd, .func fd, sl⟩ : Obj)) ∈ PL ∧ (pd, dictOf [⟨hsh, .str (Str.ofString "search") tk, .ref sf⟩] n) ∈ PL ∧ (∀ q ∈ PL, isTab q.2 = false) ∧ FnIn sf PL ∧ SearchOk prog w K p loose mean mg mb PL TP sf nx
end
end
section
open PySem PySem.W PyProof.Rows
set_option Elab.async false
set_option maxRecDepth 100000
section
variable {prog : Program} {w : World} {K : Frag} {p : Program} {loose : List Str} {mean : ExcName → Option Value} {mg mb : Str → Option Value}
variable {A : Around} {dp un : Nat} {fr : Option (List Env)} {gd : Option (List Code)} {h₀ : Heap} {L : Addr} {m : Str → Option Value} {news : List (Addr × Obj)} {s : Shared} {E : Value → Shared → Prop}
theorem nSub {h : Heap} {l l' : List (Addr × Obj)} (N : News h₀ L h l) (hs : ∀ q ∈ l', q ∈ l) : News h₀ L h l' := fun q hq => N q (hs q hq)
theorem nApp {h : Heap} {l l' : List (Addr × Obj)} (N : News h₀ L h l) (N' : News h₀ L h l') : News h₀ L h (l ++ l') := fun q hq => (List.mem_append.mp hq).elim (N q) (N' q)
theorem keeps_hide {h : Heap} {l : List (Addr × Obj)} (F : Fr h₀ L h m) (N : News h₀ L h l) (b : Addr) (o : Obj) (e : h₀.get? b = some o) : (hideAll h (l.map (·.1))).get? b = some o :=
  hideAll_get _ (F.keep b o e) fun hm => by
    obtain ⟨r, hr, e2⟩ := List.mem_map.mp hm
    rw [← e2, (N r hr).2.2] at e; cases e
theorem getL_one {nm : Str} {hsh : Int} {tk : Tok} {v : Value} : getL nm [⟨hsh, .str nm tk, v⟩] = some (some v) := by simp [getL, Value.isStr]
theorem FnIn.at {q : Addr} {h : Heap} {Z : List (Addr × Obj)} (f : FnIn q Z) (N : News h₀ L h news) (hs : ∀ q ∈ Z, q ∈ news) : FnAt q h := by
  obtain ⟨oc, od, fd, sl, hm⟩ := f
  exact ⟨oc, od, fd, sl, (N _ (hs _ hm)).1⟩
theorem use_prog {Q : Value × List Value → Shared → Prop} {pl : Sem Bool} {PL : List (Addr × Obj)} {TP : List (Addr × Obj) → Prop} {pg : Addr} {nx : List Nat → Nat → Option (Nat × Nat)}
    (hP : ProgL prog w K p loose mean mg mb PL TP pg nx) (N : News h₀ L s.heap news) (hs : ∀ q ∈ PL, q ∈ news)
    (h : ∀ sf, FnIn sf PL → SearchOk prog w K p loose mean mg mb PL TP sf nx → Q (.ref sf, []) { s with toks := s.toks + 1 }) : wpAny (model prog w) A (getMethod (.ref pg) (Str.ofString "search") pl) Q E s := by
  obtain ⟨pd, fd, sl, hsh, tk, n, sf, h1, h2, _, h4, h3⟩ := hP
  exact fn_getMethod (N _ (hs _ h1)).1 (N _ (hs _ h2)).1 getL_one lk_fn_search rfl (h sf h4 h3)
theorem use_hit {Q : Value × List Value → Shared → Prop} {pl : Sem Bool} {HL : List (Addr × Obj)} {hit : Addr} {i j : Int}
    (hP : HitL prog w K p loose mean mg mb HL hit i j) (N : News h₀ L s.heap news) (hs : ∀ q ∈ HL, q ∈ news)
    (h : ∀ sf, FnIn sf HL → SpanOk prog w K p loose mean mg mb HL sf i j → Q (.ref sf, []) { s with toks := s.toks + 1 }) : wpAny (model prog w) A (getMethod (.ref hit) (Str.ofString "span") pl) Q E s := by
  obtain ⟨pd, fd, sl, hsh, tk, n, sf, h1, h2, _, h4, h3⟩ := hP
  exact fn_getMethod (N _ (hs _ h1)).1 (N _ (hs _ h2)).1 getL_one lk_fn_span rfl (h sf h4 h3)
theorem use_true {Q : Bool → Shared → Prop} {HL : List (Addr × Obj)} {hit : Addr} {i j : Int}
    (hP : HitL prog w K p loose mean mg mb HL hit i j) (N : News h₀ L s.heap news) (hs : ∀ q ∈ HL, q ∈ news)
    (h : Q true s) : wpAny (model prog w) A (truthy (.ref hit)) Q E s := by
  obtain ⟨pd, fd, sl, hsh, tk, n, sf, h1, h2, _, h4, h3⟩ := hP
  exact fn_truthy (N _ (hs _ h1)).1 h
theorem use_span {Q : Value → Shared → Prop} {HL : List (Addr × Obj)} {sp : Addr} {i j : Int}
    (hP : SpanOk prog w K p loose mean mg mb HL sp i j) (F : Fr h₀ L s.heap m) (X : K.In h₀) (N : News h₀ L s.heap news) (T : Top p loose mean mg mb h₀) (hd : dp + 10 < 1000) (hu : un + 100 < 9900) (hs : ∀ q ∈ HL, q ∈ news)
    (h : ∀ (T : Addr) (ti tj : Tok) (h' : Heap) (tk : Nat), Fr h₀ L h' m → News h₀ L h' ((T, { cls := .type "tuple", data := .seq #[.int i ti, .int j tj] }) :: news) → Q (.ref T) { s with heap := h', toks := tk }) :
    wpAny (model prog w) (arA dp un fr gd) (call (.ref sp) []) Q E s := by
  refine hP dp un fr gd s Q E (X.keeps F.keep) (T.keeps F.keep) hd hu (fun q hq => (N q (hs q hq)).1) fun T ti tj h' tk st hT hg => h T ti tj h' tk ⟨F.ns.keeps st, fun b o e => st b o (F.keep b o e), F.above⟩ fun q hq => ?_
  rcases List.mem_cons.mp hq with rfl | hq
  · refine ⟨hg, fun e => ?_, ?_⟩
    · obtain ⟨oL, _, _, hL, _⟩ := F.ns
      dsimp only at e
      rw [e] at hT; rw [hT] at hL; cases hL
    cases q1 : h₀.get? T with
    | none => rfl
    | some o => rw [F.keep _ _ q1] at hT; cases hT
  · exact ⟨st _ _ (N q hq).1, (N q hq).2⟩
theorem use_search {Q : Value → Shared → Prop} {PL : List (Addr × Obj)} {TP : List (Addr × Obj) → Prop} {sf : Addr} {nx : List Nat → Nat → Option (Nat × Nat)} {A0 : List Addr} {n0 : Nat} (TL rest : List (Addr × Obj)) {l : List Nat} (st : Nat) {args : List Value}
    (hS : SearchOk prog w K p loose mean mg mb PL TP sf nx) (ha : (st = 0 ∧ ∃ t, args = [.str (S l) t]) ∨ ∃ t u, args = [.str (S l) t, .int (st : Int) u]) (hl : l.length < 300) (hst : st < 1000) (hPT : ∀ q ∈ PL, isTab q.2 = false)
    (F : Fr h₀ L s.heap m) (X : K.In h₀) (N : News h₀ L s.heap news) (T : Top p loose mean mg mb h₀) (hd : dp + 60 < 1000) (hu : un + 600 < 9900) (tp : TP TL) (hTL : ∀ q ∈ TL, q ∈ news) (hPL : ∀ q ∈ PL, q ∈ news) (hr : ∀ q ∈ rest, q ∈ news ∧ isTab q.2 = false)
    (hn : n0 ≤ h₀.objs.size) (had : Adr A0 n0 TL)
    (h1 : nx l st = none → ∀ (h' : Heap) (tk : Nat) (TL' : List (Addr × Obj)), TP TL' → Adr A0 n0 TL' → Fr h₀ L h' m → News h₀ L h' (TL' ++ (PL ++ rest)) → Q .none { s with heap := h', toks := tk })
    (h2 : ∀ i j, nx l st = some (i, j) → ∀ (hit : Addr) (HL : List (Addr × Obj)) (h' : Heap) (tk : Nat) (TL' : List (Addr × Obj)), TP TL' → Adr A0 n0 TL' → Adr A0 n0 HL → HitL prog w K p loose mean mg mb HL hit (i : Int) (j : Int) → Fr h₀ L h' m → News h₀ L h' (TL' ++ (PL ++ (HL ++ rest))) → Q (.ref hit) { s with heap := h', toks := tk }) :
    wpAny (model prog w) (arA dp un fr gd) (call (.ref sf) args) Q E s := by
  have NT := nSub N hTL
  have NP := nSub N hPL
  have NR := nSub N fun q hq => (hr q hq).1
  have hz : n0 ≤ s.heap.objs.size := Nat.le_trans hn (Nat.le_trans F.above (Nat.le_of_lt F.ns.lt))
  refine hS l st args TL dp un fr gd s Q E ha hl hst (X.keeps (keeps_hide F (nApp NT NP))) (T.keeps (keeps_hide F (nApp NT NP))) hd hu (News.has NP) tp (News.has NT) ⟨fun e h' tk TL' k t' => ?_, fun i j e hit HL h' tk TL' k t' hH hh ad => ?_⟩
  · obtain ⟨a, b, c⟩ := k.news F NT (nApp NP NR) fun q hq => .inr ((List.mem_append.mp hq).elim (hPT q) fun z => (hr q z).2)
    exact h1 e h' tk TL' t' (had.trans hz k.adr) a (nApp b c)
  · obtain ⟨a, b, c⟩ := k.news F NT (nApp NP NR) fun q hq => .inr ((List.mem_append.mp hq).elim (hPT q) fun z => (hr q z).2)
    have d := fresh_news F NT hh ad
    exact h2 i j e hit HL h' tk TL' t' (had.trans hz k.adr) (had.trans hz ad) hH a (nApp b (nApp (nSub c fun q hq => List.mem_append.mpr (.inl hq)) (nApp d (nSub c fun q hq => List.mem_append.mpr (.inr hq)))))
end
end
section
open PySem PySem.W PyProof.Rows
def Hold (P : Prop) : Prop := P
theorem hold {P : Prop} (h : Hold P) : P := h
theorem ex_map {m : Str → Option Value} {x : Str} {v : Value} (h : m x = some v) : ∃ u : Str → Option Value, m = fun y => if y = x then some v else u y := ⟨m, funext fun y => by
  by_cases e : y = x
  · rw [if_pos e, e, h]
  · rw [if_neg e]⟩
end
section
open PySem PySem.W PyProof.Rows
set_option Elab.async false
set_option maxRecDepth 100000
def srGo (nx : Nat → Option (Nat × Nat)) (col : Int) : Nat → Option (Nat × Nat) → Nat → Nat → Option (Nat × Nat)
  | 0, f, _, _ => f
  | k + 1, f, i, j => if (i : Int) < col ∧ (j : Int) ≤ col then
      (match nx (if i = j then j + 1 else j) with
      | none => some (i, j)
      | some (a, b) => srGo nx col k (some (i, j)) a b) else f
def srOf (nx : Nat → Option (Nat × Nat)) (col : Int) : Option (Nat × Nat) :=
  match nx 0 with
  | none => none
  | some (i, j) => srGo nx col (col.toNat + 1) none i j
theorem ex_map7 {m : Str → Option Value} {x1 x2 x3 x4 x5 x6 x7 : Str} {v1 v2 v3 v4 v5 v6 v7 : Value} (h1 : m x1 = some v1) (h2 : m x2 = some v2) (h3 : m x3 = some v3) (h4 : m x4 = some v4) (h5 : m x5 = some v5) (h6 : m x6 = some v6) (h7 : m x7 = some v7) :
    ∃ u : Str → Option Value, m = fun y => if y = x1 then some v1 else if y = x2 then some v2 else if y = x3 then some v3 else if y = x4 then some v4 else if y = x5 then some v5 else if y = x6 then some v6 else if y = x7 then some v7 else u y := ⟨m, funext fun y => by
  by_cases e1 : y = x1
  · subst e1; simp [h1]
  by_cases e2 : y = x2
  · subst e2; simp [e1, h2]
  by_cases e3 : y = x3
  · subst e3; simp [e1, e2, h3]
  by_cases e4 : y = x4
  · subst e4; simp [e1, e2, e3, h4]
  by_cases e5 : y = x5
  · subst e5; simp [e1, e2, e3, e4, h5]
  by_cases e6 : y = x6
  · subst e6; simp [e1, e2, e3, e4, e5, h6]
  by_cases e7 : y = x7
  · subst e7; simp [e1, e2, e3, e4, e5, e6, h7]
  simp [e1, e2, e3, e4, e5, e6, e7]⟩
section
variable {prog : Program} {w : World} {K : Frag} {p : Program} {loose : List Str} {mean : ExcName → Option Value} {mg mb : Str → Option Value}
theorem code_tab {A : Around} {s : Shared} {R : Result → Shared → Prop} {name qual : Str} {params : Arguments} {body : List Stmt} {scope : Scope} {dV kV doc pm cdv ct oc : Value} {an od : Option Addr} {osl : Array (Option Value)} {f : Addr} {args : Args} {binds : List (Str × Value)}
    (tabs : List (Addr × Obj)) (htab : Has tabs s.heap)
    (X : K.In (hideAll s.heap (tabs.map (·.1)))) (T : Top p loose mean mg mb (hideAll s.heap (tabs.map (·.1))))
    (ho : K.lookup f = some ⟨oc, od, .func (fnOf name qual params body scope dV kV doc pm an cdv ct), osl⟩) (hcd : codeIn K cdv qual = true) (hroom : A.depth < recursionLimit)
    (hbind : BindsTo s (fnOf name qual params body scope dV kV doc pm an cdv ct) args binds) (hloc : ∀ y ∈ binds, scope.names.lookup y.1 = some .local)
    (h : ∀ L' h₁, Fr (hideAll s.heap (tabs.map (·.1))) L' h₁ (fun y => binds.reverse.lookup y) → News (hideAll s.heap (tabs.map (·.1))) L' h₁ tabs →
      wpAny (model prog w) (A.deeper (envOf qual scope L' f cdv)) (execs body (envOf qual scope L' f cdv))
        (fun fl s' => R (.ok (.ret (match fl with | .ret v => v | _ => .none))) s') (fun _ _ => False)
        { s with heap := h₁, toks := s.toks + binds.length })
    (hco : scope.isCoroutine = false) (hgen : scope.isGenerator = false) (hk : scope.kind = .function)
    (hcell : ∀ x ∈ scope.names, x.2 ≠ .cell) : codeAny (model prog w) A (.call (.ref f) args) R s := by
  have X' : K.In s.heap := X.keeps fun b o e => of_hideAll _ e
  have T' : Top p loose mean mg mb s.heap := T.keeps fun b o e => of_hideAll _ e
  exact codeAny_call_def (fd := fnOf name qual params body scope dV kV doc pm an cdv ct) (body := body) (binds := binds) hroom (X' _ _ ho) rfl T'.nolimit (codeRec_of X' hcd) rfl hbind hcell hloc
    (fun h₁ hns hk₁ => wpAny_mono (h s.heap.objs.size h₁ ⟨hns, fun b o e => hk₁ b o (of_hideAll _ e), Nat.le_of_eq (hideAll_size _ _)⟩ fun q hq => ⟨hk₁ _ _ (htab q hq), Nat.ne_of_lt (Heap.lt_size (htab q hq)), hideAll_none _ (List.mem_map_of_mem hq)⟩) (fun _ _ x => x) fun _ _ x => x.elim) hco hgen hk
end
def recs (TL : List (Addr × Obj)) : List (Addr × Obj) := TL.filter fun q => !isTab q.2
theorem recs_isTab {TL : List (Addr × Obj)} : ∀ q ∈ recs TL, isTab q.2 = false := fun q hq => by
  have := (List.mem_filter.mp hq).2; simpa using this
theorem recs_sub {TL : List (Addr × Obj)} : ∀ q ∈ recs TL, q ∈ TL := fun _ hq => (List.mem_filter.mp hq).1
theorem kept_of {h h' : Heap} {L : Addr} {m : Str → Option Value} {TL PL TL' : List (Addr × Obj)} (hh : Has (TL ++ PL) h) (F : Fr (hideAll h ((TL ++ PL).map (·.1))) L h' m) (N : News (hideAll h ((TL ++ PL).map (·.1))) L h' (TL' ++ (PL ++ recs TL)))
    (ad : Adr (TL.map (·.1)) h.objs.size TL') : Kept h TL h' TL' where
  keep := fun b o hx e => by
    by_cases hb : b ∈ (TL ++ PL).map (·.1)
    · obtain ⟨r, hr, rfl⟩ := List.mem_map.mp hb
      have e2 := hh r hr
      obtain rfl : o = r.2 := Option.some.inj (e ▸ e2)
      rcases List.mem_append.mp hr with hr | hr
      · rcases hx with z | z
        · exact absurd (List.mem_map_of_mem hr) z
        · exact (N r (List.mem_append.mpr (.inr (List.mem_append.mpr (.inr (List.mem_filter.mpr ⟨hr, by simp [z]⟩)))))).1
      · exact (N r (List.mem_append.mpr (.inr (List.mem_append.mpr (.inl hr))))).1
    · exact F.keep b o (hideAll_get _ e hb)
  has := fun q hq => (N q (List.mem_append.mpr (.inl hq))).1
  adr := ad
  size := by
    have := F.above; rw [hideAll_size] at this
    exact Nat.le_trans this (Nat.le_of_lt F.ns.lt)
section
variable (prog : Program) (w : World) (K : Frag) (p : Program) (loose : List Str) (mean : ExcName → Option Value) (mg mb : Str → Option Value)
def FoundV (A0 : List Addr) (n0 : Nat) (f : Option (Nat × Nat)) (fv : Value) (FL : List (Addr × Obj)) : Prop :=
  (f = none ∧ fv = .none ∧ FL = []) ∨ ∃ a b fh, f = some (a, b) ∧ fv = .ref fh ∧ HitL prog w K p loose mean mg mb FL fh (a : Nat) (b : Nat) ∧ Adr A0 n0 FL
structure SrI (PL CL : List (Addr × Obj)) (TP : List (Addr × Obj) → Prop) (nx : Nat → Option (Nat × Nat)) (col : Int) (A0 : List Addr) (n0 : Nat) (R : Option (Nat × Nat)) (n : Nat) (f : Option (Nat × Nat)) (fv : Value) (FL : List (Addr × Obj)) (i j : Nat) (hit : Addr) (HL TL : List (Addr × Obj)) : Prop where
  found : FoundV prog w K p loose mean mg mb A0 n0 f fv FL
  hitl : HitL prog w K p loose mean mg mb HL hit (i : Int) (j : Int)
  tp : TP TL
  adT : Adr A0 n0 TL
  adH : Adr A0 n0 HL
  fuel : col < (i : Int) + n
  le : i ≤ j
  small : j < 500
  res : srGo nx col n f i j = R
def SrJ (PL CL : List (Addr × Obj)) (TP : List (Addr × Obj) → Prop) (nx : Nat → Option (Nat × Nat)) (col : Int) (A0 : List Addr) (n0 : Nat) (R : Option (Nat × Nat)) (pg : Addr) (l : List Nat) (tc tk : Tok) (n : Nat) (m : Str → Option Value) (news : List (Addr × Obj)) : Prop :=
  ∃ f fv FL i j hit HL TL, SrI prog w K p loose mean mg mb PL CL TP nx col A0 n0 R n f fv FL i j hit HL TL ∧ news = TL ++ (PL ++ (HL ++ (FL ++ CL))) ∧
    ∃ ti tj, ∃ u : Str → Option Value, m = fun y => if y = Str.ofString "prog" then some (.ref pg) else if y = Str.ofString "chars" then some (.str (S l) tc) else if y = Str.ofString "col" then some (.int col tk) else
      if y = Str.ofString "m" then some (.ref hit) else if y = Str.ofString "found" then some fv else if y = Str.ofString "i" then some (.int (i : Int) ti) else if y = Str.ofString "j" then some (.int (j : Int) tj) else u y
end
theorem srGo_stop {nx : Nat → Option (Nat × Nat)} {col : Int} {n : Nat} {f : Option (Nat × Nat)} {i j : Nat} (h : ¬ ((i : Int) < col ∧ (j : Int) ≤ col)) : srGo nx col n f i j = f := by
  cases n with
  | zero => rfl
  | succ k => simp only [srGo, h, if_false]
theorem srGo_step {nx : Nat → Option (Nat × Nat)} {col : Int} {k : Nat} {f : Option (Nat × Nat)} {i j st : Nat} (h1 : (i : Int) < col) (h2 : (j : Int) ≤ col) (hs : (if i = j then j + 1 else j) = st) :
    srGo nx col (k + 1) f i j = (match nx st with | none => some (i, j) | some (a, b) => srGo nx col k (some (i, j)) a b) := by
  simp only [srGo, h1, h2, and_self, if_true, hs]
section
variable {prog : Program} {w : World} {K : Frag} {p : Program} {loose : List Str} {mean : ExcName → Option Value} {mg mb : Str → Option Value}
theorem sr_ret {s : Shared} {TL PL FL TL' news : List (Addr × Obj)} {TP : List (Addr × Obj) → Prop} {R f : Option (Nat × Nat)} {fv : Value} {Q : Value → Shared → Prop} {L : Addr} {h : Heap} {m : Str → Option Value} {tk : Nat}
    (hret : Found prog w K p loose mean mg mb TP R s TL Q) (hh : Has (TL ++ PL) s.heap) (fnd : FoundV prog w K p loose mean mg mb (TL.map (·.1)) s.heap.objs.size f fv FL) (e : f = R) (tp' : TP TL') (adT : Adr (TL.map (·.1)) s.heap.objs.size TL')
    (F : Fr (hideAll s.heap ((TL ++ PL).map (·.1))) L h m) (N : News (hideAll s.heap ((TL ++ PL).map (·.1))) L h news) (hs : ∀ q ∈ TL' ++ (PL ++ (FL ++ recs TL)), q ∈ news) : Q fv { s with heap := h, toks := tk } := by
  have N2 := nSub N hs
  have k : Kept s.heap TL h TL' := kept_of hh F (nSub N2 fun q hq => by
    simp only [List.mem_append] at hq ⊢
    rcases hq with z | z | z <;> simp [z]) adT
  subst e
  rcases fnd with ⟨rfl, rfl, _⟩ | ⟨a, b, fh, rfl, rfl, hH, adF⟩
  · exact hret.1 rfl h tk TL' k tp'
  · exact hret.2 a b rfl fh FL h tk TL' k tp' hH (fun q hq => (N2 q (by simp [hq])).1) adF
end
end
section
open PySem PySem.W PyProof.Rows
set_option Elab.async false
set_option maxRecDepth 100000
set_option maxHeartbeats 8000000
open_top hd for PySem.Challenge.rw_mr0049_02
end
section
open PySem PySem.W PyProof.Rows
set_option maxRecDepth 100000
set_option maxHeartbeats 40000000
local macro_rules | `(tactic| walk_at $s:str) => `(tactic| k_extra $s)
local macro_rules | `(tactic| k_room) => `(tactic| ((try simp only [depth_mark, depth_under_make, depth_under_kw, depth_in1, depth_deeper, depth_caller]); (try dsimp only [arA]); (show (_ : Nat) < 1000); omega))
local macro_rules | `(tactic| k_units) => `(tactic| ((try simp only [units_in1, units_deeper, Around.mark_units, units_caller]); (try dsimp only [arA]); (show (_ : Nat) < 9900); omega))
section
open PySem PySem.W PyProof.Rows
set_option Elab.async false
set_option maxRecDepth 100000
set_option maxHeartbeats 40000000

theorem ln_1 : True := by
  k_with_none
  k_with "mI" => (first | omega | (simp only [List.length_cons, List.length_nil, List.length_append, List.length_take, List.length_drop, List.length_replicate, List.length_map, List.length_range, S_len, sizeLine_eq]; omega) | (simp only [List.length_cons, List.length_nil, List.length_append, List.length_take, List.length_drop, List.length_replicate, List.length_map, List.length_range, S_len, sizeLine_eq] at *; omega))
  k_with "mItem" => (first
  | ((with_reducible show wpAny _ _ (subscriptTail _ _ (Value.str (S (_ :: _)) _) (Value.int 0 _)) _ _ _); refine r_it0 (by walk_at "mI") ?_)
  | ((with_reducible show wpAny _ _ (subscriptTail _ _ (Value.str (S (_ :: _ :: _)) _) (Value.int 1 _)) _ _ _); refine r_it1 (by walk_at "mI") ?_)
  | ((with_reducible show wpAny _ _ (subscriptTail _ _ (Value.str (S _) _) (Value.int _ _)) _ _ _); refine r_item (by walk_at "mI") (by walk_at "mI") (by walk_at "mI") ?_))
  k_with "mSlice" => (first
  | ((with_reducible show wpAny _ _ (subscriptTail _ (Expr.Slice (some _) none none _) (Value.str (S (_ :: _)) _) _) _ _ _); (with_reducible rename Fr _ _ _ _ => F'); (with_reducible rename News _ _ _ _ => N'); refine r_sl1 (s := ⟨_, _, _, _, _⟩) F' N' (by walk_at "mI") ?_; intro _ _ _ _ _)
  | ((with_reducible show wpAny _ _ (subscriptTail _ (Expr.Slice (some _) (some _) none _) (Value.str (S _) _) _) _ _ _); (with_reducible rename Fr _ _ _ _ => F'); (with_reducible rename News _ _ _ _ => N'); refine r_ss (s := ⟨_, _, _, _, _⟩) F' N' (by walk_at "mI") (by walk_at "mI") (by walk_at "mI") ?_; intro _ _ _ _ _)
  | ((with_reducible show wpAny _ _ (subscriptTail _ (Expr.Slice (some _) none none _) (Value.str (S _) _) _) _ _ _); (with_reducible rename Fr _ _ _ _ => F'); (with_reducible rename News _ _ _ _ => N'); refine r_sn (s := ⟨_, _, _, _, _⟩) F' N' (by walk_at "mI") (by walk_at "mI") ?_; intro _ _ _ _ _)
  | ((with_reducible show wpAny _ _ (subscriptTail _ (Expr.Slice none (some _) none _) (Value.str (S _) _) _) _ _ _); (with_reducible rename Fr _ _ _ _ => F'); (with_reducible rename News _ _ _ _ => N'); refine r_ns (s := ⟨_, _, _, _, _⟩) F' N' (by walk_at "mI") (by walk_at "mI") ?_; intro _ _ _ _ _))
  k_with "subscriptTail" => (first | walk_at "mItem" | walk_at "mSlice")
  k_with "subscriptTail Name Name str int" => (walk_at "mItem")
  k_with "subscriptTail Name Constant str int" => (walk_at "mItem")
  k_with "subscriptTail Name Slice str ref" => (walk_at "mSlice")
  k_with "eval Constant str" => ((first | with_reducible refine r_const lit_bang ?_ | with_reducible refine r_const lit_hat ?_ | with_reducible refine r_const lit_q ?_ | with_reducible refine r_const lit_thorn ?_ | with_reducible refine r_const lit_del ?_ | with_reducible refine r_const lit_ff ?_ | with_reducible refine r_const lit_A ?_ | with_reducible refine r_const lit_hq ?_ | with_reducible refine r_const lit_h9 ?_ | with_reducible refine r_const lit_sp ?_ | with_reducible refine r_const lit_tilde ?_ | with_reducible refine r_const lit_fe ?_ | with_reducible refine r_const lit_hT ?_ | with_reducible refine r_const lit_e ?_ | with_reducible refine r_const lit_marks ?_))
  k_with "call builtin:len" => (first
  | ((with_reducible show wpAny _ _ (call (Value.builtin "len") [Value.str (S [_]) _]) _ _ _); refine r_len1 ?_)
  | ((with_reducible show wpAny _ _ (call (Value.builtin "len") [Value.str (S [_, _]) _]) _ _ _); refine r_len2 ?_)
  | ((with_reducible show wpAny _ _ (call (Value.builtin "len") [Value.str (S [_, _, _]) _]) _ _ _); refine r_len3 ?_)
  | ((with_reducible show wpAny _ _ (call (Value.builtin "len") [Value.str (S _) _]) _ _ _); refine r_len (by walk_at "mI") ?_))
  k_with "compareOp Eq str str" => (((with_reducible show wpAny _ _ (compareOp _ (Value.str (S _) _) (Value.str (S _) _)) _ _ _); refine r_eq ?_))
  k_with "compareOp NotEq str str" => (((with_reducible show wpAny _ _ (compareOp _ (Value.str (S _) _) (Value.str (S _) _)) _ _ _); refine r_ne ?_))
  k_with "compareOp In str str" => (((with_reducible show wpAny _ _ (compareOp _ (Value.str (S _) _) (Value.str (S _) _)) _ _ _); refine r_in ?_))
  k_with "compareOp Gt str str" => (((with_reducible show wpAny _ _ (compareOp _ (Value.str (S _) _) (Value.str (S _) _)) _ _ _); refine r_gt ?_))
  k_with "compareOp LtE str str" => (((with_reducible show wpAny _ _ (compareOp _ (Value.str (S _) _) (Value.str (S _) _)) _ _ _); refine r_le ?_))
  k_with "binaryOp Add str str" => (((with_reducible show wpAny _ _ (binaryOp _ (Value.str (S _) _) (Value.str (S _) _)) _ _ _); refine r_add ?_ (by walk_at "mI"); intro _ _))
  k_with "inplaceOp Add str str" => (((with_reducible show wpAny _ _ (inplaceOp _ (Value.str (S _) _) (Value.str (S _) _)) _ _ _); refine r_iadd ?_ (by walk_at "mI"); intro _ _))
  k_with "call builtin:ord" => (((with_reducible show wpAny _ _ (call (Value.builtin "ord") [Value.str (S _) _]) _ _ _); refine r_ord ?_))
  k_with "call builtin:chr" => ((refine r_chr (by walk_at "mChr") (by walk_at "mChr") ?_))
  k_with "mChr" => (first | omega | (split <;> omega))
  k_with "mRoom" => (((try simp only [depth_mark, depth_under_make, depth_under_kw, depth_in1, depth_deeper, depth_caller, units_in1, units_deeper, Around.mark_units, units_caller]); (try dsimp only [arA]); omega))
  k_with "mClean" => (((try clear hret); (repeat (with_reducible rename Fr _ _ _ _ => x9; clear x9)); (repeat (with_reducible rename News _ _ _ _ => x9; clear x9)); (repeat (with_reducible rename Below _ _ _ _ => x9; clear x9)); (repeat (with_reducible rename Top _ _ _ _ _ _ => x9; clear x9)); (repeat (with_reducible rename Frag.In _ _ => x9; clear x9))))
  k_with "binaryOp BitAnd int int" => (first
  | ((with_reducible show wpAny _ _ (binaryOp _ (Value.int _ _) (Value.int 127 _)) _ _ _); refine r_and127 ?_)
  | ((with_reducible show wpAny _ _ (binaryOp _ (Value.int _ _) (Value.int 31 _)) _ _ _); refine r_and31 ?_)
  | ((with_reducible show wpAny _ _ (binaryOp _ (Value.int _ _) (Value.int 128 _)) _ _ _); refine r_and128 (by omega) ?_ ?_ <;> intro _))
  k_with "binaryOp BitOr int int" => (first
  | ((with_reducible show wpAny _ _ (binaryOp _ (Value.int _ _) (Value.int 32 _)) _ _ _); refine r_or32 (by omega) ?_ ?_ <;> intro _)
  | ((with_reducible show wpAny _ _ (binaryOp _ (Value.int _ _) (Value.int 128 _)) _ _ _); refine r_or128 (by omega) ?_ ?_ <;> intro _))
  trivial
theorem lit_q9 : Str.ofString "?\u009f" = S [63, 159] := by decide +kernel
theorem lit_marks2 : Str.ofString "?@ABCDEFGHIJKLMNOPQRSTUVWXYZ[\\]^_\u009f" = S ((List.range 33).map (63 + ·) ++ [159]) := by decide +kernel
def altZ (c : Int) : Int := if c / 128 % 2 = 1 then c else c + 128

theorem ctoi_i (w : World) (p : Program) (loose : List Str) (mean : ExcName → Option Value) (mg mb : Str → Option Value) (c : Int) (t : Tok) :
  PCl 5 PySem.Challenge.rw_mr0049_02.prog w (hd.heap_39 w.params) p loose mean mg mb 28 [.int c t] (fun t => .int c t) := by
  w_top off
  dsimp only [PCl]
  k_fill
  intro dp un fr gd s Q E X T hdp hun hret
  refine wpAny_call ?_
  k_dflt (refine' code_pure ?k3 ?k5 ?k6 ?k7 ?k8 ?k9 ?kB ?_ ?c2 ?c3 ?c4 ?c5; (case k3 => assumption); (case k5 => assumption); (case k6 => k_is); (case k7 => k_is); (case k8 => (show dp < 1000); omega); (case k9 => exact BindsTo.of_eq rfl); (case c5 => decide); (case kB => exact locs rfl); (case c2 => exact rfl); (case c3 => exact rfl); (case c4 => exact rfl); k_whole; intro L' h' F' N')
  k_steps
  all_goals refine pc_retI (s := s) hret ?_ (by k_asm)
  all_goals walk_at "mClean"
  all_goals rfl
end
section
open PySem PySem.W PyProof.Rows
set_option Elab.async false
set_option maxRecDepth 100000
set_option maxHeartbeats 40000000


theorem ln_2 : True := by
  k_with_none
  k_with "mI" => (first | omega | (simp only [List.length_cons, List.length_nil, List.length_append, List.length_take, List.length_drop, List.length_replicate, List.length_map, List.length_range, S_len, sizeLine_eq]; omega) | (simp only [List.length_cons, List.length_nil, List.length_append, List.length_take, List.length_drop, List.length_replicate, List.length_map, List.length_range, S_len, sizeLine_eq] at *; omega))
  k_with "mItem" => (first
  | ((with_reducible show wpAny _ _ (subscriptTail _ _ (Value.str (S (_ :: _)) _) (Value.int 0 _)) _ _ _); refine r_it0 (by walk_at "mI") ?_)
  | ((with_reducible show wpAny _ _ (subscriptTail _ _ (Value.str (S (_ :: _ :: _)) _) (Value.int 1 _)) _ _ _); refine r_it1 (by walk_at "mI") ?_)
  | ((with_reducible show wpAny _ _ (subscriptTail _ _ (Value.str (S _) _) (Value.int _ _)) _ _ _); refine r_item (by walk_at "mI") (by walk_at "mI") (by walk_at "mI") ?_))
  k_with "mSlice" => (first
  | ((with_reducible show wpAny _ _ (subscriptTail _ (Expr.Slice (some _) none none _) (Value.str (S (_ :: _)) _) _) _ _ _); (with_reducible rename Fr _ _ _ _ => F'); (with_reducible rename News _ _ _ _ => N'); refine r_sl1 (s := ⟨_, _, _, _, _⟩) F' N' (by walk_at "mI") ?_; intro _ _ _ _ _)
  | ((with_reducible show wpAny _ _ (subscriptTail _ (Expr.Slice (some _) (some _) none _) (Value.str (S _) _) _) _ _ _); (with_reducible rename Fr _ _ _ _ => F'); (with_reducible rename News _ _ _ _ => N'); refine r_ss (s := ⟨_, _, _, _, _⟩) F' N' (by walk_at "mI") (by walk_at "mI") (by walk_at "mI") ?_; intro _ _ _ _ _)
  | ((with_reducible show wpAny _ _ (subscriptTail _ (Expr.Slice (some _) none none _) (Value.str (S _) _) _) _ _ _); (with_reducible rename Fr _ _ _ _ => F'); (with_reducible rename News _ _ _ _ => N'); refine r_sn (s := ⟨_, _, _, _, _⟩) F' N' (by walk_at "mI") (by walk_at "mI") ?_; intro _ _ _ _ _)
  | ((with_reducible show wpAny _ _ (subscriptTail _ (Expr.Slice none (some _) none _) (Value.str (S _) _) _) _ _ _); (with_reducible rename Fr _ _ _ _ => F'); (with_reducible rename News _ _ _ _ => N'); refine r_ns (s := ⟨_, _, _, _, _⟩) F' N' (by walk_at "mI") (by walk_at "mI") ?_; intro _ _ _ _ _))
  k_with "subscriptTail" => (first | walk_at "mItem" | walk_at "mSlice")
  k_with "subscriptTail Name Name str int" => (walk_at "mItem")
  k_with "subscriptTail Name Constant str int" => (walk_at "mItem")
  k_with "subscriptTail Name Slice str ref" => (walk_at "mSlice")
  k_with "eval Constant str" => ((first | with_reducible refine r_const lit_bang ?_ | with_reducible refine r_const lit_hat ?_ | with_reducible refine r_const lit_q ?_ | with_reducible refine r_const lit_thorn ?_ | with_reducible refine r_const lit_del ?_ | with_reducible refine r_const lit_ff ?_ | with_reducible refine r_const lit_A ?_ | with_reducible refine r_const lit_hq ?_ | with_reducible refine r_const lit_h9 ?_ | with_reducible refine r_const lit_sp ?_ | with_reducible refine r_const lit_tilde ?_ | with_reducible refine r_const lit_fe ?_ | with_reducible refine r_const lit_hT ?_ | with_reducible refine r_const lit_e ?_ | with_reducible refine r_const lit_marks ?_))
  k_with "call builtin:len" => (first
  | ((with_reducible show wpAny _ _ (call (Value.builtin "len") [Value.str (S [_]) _]) _ _ _); refine r_len1 ?_)
  | ((with_reducible show wpAny _ _ (call (Value.builtin "len") [Value.str (S [_, _]) _]) _ _ _); refine r_len2 ?_)
  | ((with_reducible show wpAny _ _ (call (Value.builtin "len") [Value.str (S [_, _, _]) _]) _ _ _); refine r_len3 ?_)
  | ((with_reducible show wpAny _ _ (call (Value.builtin "len") [Value.str (S _) _]) _ _ _); refine r_len (by walk_at "mI") ?_))
  k_with "compareOp Eq str str" => (((with_reducible show wpAny _ _ (compareOp _ (Value.str (S _) _) (Value.str (S _) _)) _ _ _); refine r_eq ?_))
  k_with "compareOp NotEq str str" => (((with_reducible show wpAny _ _ (compareOp _ (Value.str (S _) _) (Value.str (S _) _)) _ _ _); refine r_ne ?_))
  k_with "compareOp In str str" => (((with_reducible show wpAny _ _ (compareOp _ (Value.str (S _) _) (Value.str (S _) _)) _ _ _); refine r_in ?_))
  k_with "compareOp Gt str str" => (((with_reducible show wpAny _ _ (compareOp _ (Value.str (S _) _) (Value.str (S _) _)) _ _ _); refine r_gt ?_))
  k_with "compareOp LtE str str" => (((with_reducible show wpAny _ _ (compareOp _ (Value.str (S _) _) (Value.str (S _) _)) _ _ _); refine r_le ?_))
  k_with "binaryOp Add str str" => (((with_reducible show wpAny _ _ (binaryOp _ (Value.str (S _) _) (Value.str (S _) _)) _ _ _); refine r_add ?_ (by walk_at "mI"); intro _ _))
  k_with "inplaceOp Add str str" => (((with_reducible show wpAny _ _ (inplaceOp _ (Value.str (S _) _) (Value.str (S _) _)) _ _ _); refine r_iadd ?_ (by walk_at "mI"); intro _ _))
  k_with "call builtin:ord" => (((with_reducible show wpAny _ _ (call (Value.builtin "ord") [Value.str (S _) _]) _ _ _); refine r_ord ?_))
  k_with "call builtin:chr" => ((refine r_chr (by walk_at "mChr") (by walk_at "mChr") ?_))
  k_with "mChr" => (first | omega | (split <;> omega))
  k_with "mRoom" => (((try simp only [depth_mark, depth_under_make, depth_under_kw, depth_in1, depth_deeper, depth_caller, units_in1, units_deeper, Around.mark_units, units_caller]); (try dsimp only [arA]); omega))
  k_with "mClean" => (((try clear hret); (repeat (with_reducible rename Fr _ _ _ _ => x9; clear x9)); (repeat (with_reducible rename News _ _ _ _ => x9; clear x9)); (repeat (with_reducible rename Below _ _ _ _ => x9; clear x9)); (repeat (with_reducible rename Top _ _ _ _ _ _ => x9; clear x9)); (repeat (with_reducible rename Frag.In _ _ => x9; clear x9))))
  k_with "mDrop" => (((with_reducible rename Fr _ _ _ _ => y1); (with_reducible rename News _ _ _ _ => y2); revert y1 y2; (repeat (with_reducible rename Fr _ _ _ _ => x9; clear x9)); (repeat (with_reducible rename News _ _ _ _ => x9; clear x9)); intro y1 y2))
  k_with "mSub" => ((intro q hq; simp only [List.mem_append, List.mem_cons, hq, true_or, or_true]))
  k_with "getMethod ref" => (first
  | (refine use_prog (by assumption) (by k_asm) (by walk_at "mSub") ?_; intro _ _ _; (try dsimp only))
  | (refine use_hit (by assumption) (by k_asm) (by walk_at "mSub") ?_; intro _ _ _; (try dsimp only)))
  k_with "FnAt" => ((refine FnIn.at (by assumption) (by k_asm) (by walk_at "mSub")))
  k_with "callWith ref" => ((k_here; k_dflt (first
  | (refine callWith_F (by walk_at "FnAt") ?_; k_whole)
  | (refine callWith_F0 (by walk_at "FnAt") ?_; k_whole; try dsimp only [List.nil_append, List.cons_append]))))
  k_with "truthy ref" => ((refine use_true (by assumption) (by k_asm) (by walk_at "mSub") ?_))
  k_with "call ref" => (((with_reducible show wpAny _ _ (call (Value.ref _) (Value.str _ _ :: _)) _ _ _); refine hold ?_))
  k_with "call ref" => ((k_here; (with_reducible show wpAny _ _ (call (Value.ref _) []) _ _ _); k_dflt (refine use_span (by assumption) (by k_asm) (by k_asm) (by k_asm) (by k_asm) (by walk_at "mRoom") (by walk_at "mRoom") (by walk_at "mSub") ?_; k_whole); (intro T9 ti9 tj9 h9 tk9 F9 N9); (try dsimp only)))
  k_with "exec While" => (refine hold ?_)
  k_with "exec While BoolOp" => (refine hold ?_)
  k_with "exec While Compare" => (refine hold ?_)
  trivial
theorem sr_ok (w : World) (p : Program) (loose : List Str) (mean : ExcName → Option Value) (mg mb : Str → Option Value) (PL : List (Addr × Obj)) (TP : List (Addr × Obj) → Prop) (pg : Addr) (nx : List Nat → Nat → Option (Nat × Nat)) (hP : ProgL PySem.Challenge.rw_mr0049_02.prog w (hd.heap_39 w.params) p loose mean mg mb PL TP pg nx) (l : List Nat) (hl : l.length < 300) (t u : Tok) (col : Int) (hcol : col < 400) (hcol0 : -5 < col)
    (hb : ∀ st a b, st < 450 → nx l st = some (a, b) → st ≤ a ∧ a ≤ b ∧ b < 500)
    (dp un : Nat) (fr : Option (List Env)) (gd : Option (List Code)) (s : Shared) (Q E : Value → Shared → Prop) (TL : List (Addr × Obj))
    (X : (hd.heap_39 w.params).In (hideAll s.heap ((TL ++ PL).map (·.1)))) (T : Top p loose mean mg mb (hideAll s.heap ((TL ++ PL).map (·.1)))) (hdp : dp + 70 < 1000) (hun : un + 700 < 9900) (tp : TP TL) (hh : Has (TL ++ PL) s.heap)
    (hret : Found PySem.Challenge.rw_mr0049_02.prog w (hd.heap_39 w.params) p loose mean mg mb TP (srOf (nx l) col) s TL Q) :
    wpAny (model PySem.Challenge.rw_mr0049_02.prog w) (arA dp un fr gd) (call (.ref 21) [.ref pg, .str (S l) t, .int col u]) Q E s := by
  w_top off
  revert X T hret hP
  k_fill
  intro hP X T hret
  have hPT : ∀ q ∈ PL, isTab q.2 = false := by
    obtain ⟨_, _, _, _, _, _, _, _, _, z, _, _⟩ := hP; exact z
  refine wpAny_call ?_
  k_dflt (refine' code_tab (TL ++ PL) hh ?k3 ?k5 ?k6 ?k7 ?k8 ?k9 ?kB ?_ ?c2 ?c3 ?c4 ?c5; (case k3 => assumption); (case k5 => assumption); (case k6 => k_is); (case k7 => k_is); (case k8 => (show dp < 1000); omega); (case k9 => exact BindsTo.of_eq rfl); (case c5 => decide); (case kB => exact locs rfl); (case c2 => exact rfl); (case c3 => exact rfl); (case c4 => exact rfl); k_whole; intro L' h' F' N')
  k_steps
  unfold Hold
  rename SearchOk _ _ _ _ _ _ _ _ _ _ _ _ => hS
  refine use_search (A0 := TL.map (·.1)) (n0 := s.heap.objs.size) (rest := recs TL) (TL := TL) (st := 0) hS (.inl ⟨rfl, _, rfl⟩) hl (by omega) hPT (by k_asm) X (by k_asm) T (by walk_at "mRoom") (by walk_at "mRoom") tp (by walk_at "mSub") (by walk_at "mSub") (fun q hq => ⟨List.mem_append.mpr (.inl (recs_sub q hq)), recs_isTab q hq⟩) (Nat.le_of_eq (hideAll_size _ _).symm) (fun q hq => .inl (List.mem_map_of_mem hq)) ?_ ?_
  · intro e h2 tk2 TL2 tp2 ad2 F2 N2
    clear F' N' hS
    dsimp only
    k_steps
    exact hret.1 (by unfold srOf; rw [e]) _ _ TL2 (kept_of hh (by k_asm) (by k_asm) ad2) tp2
  · intro i j e hit HL h2 tk2 TL2 tp2 ad2 adH hH F2 N2
    clear F' N' hS
    obtain ⟨b1, b2, b3⟩ := hb _ _ _ (by omega) e
    dsimp only
    k_steps
    unfold Hold
    rename Fr _ _ _ _ => FF
    rename News _ _ _ _ => NN
    refine While_inv2 (SrJ PySem.Challenge.rw_mr0049_02.prog w (hd.heap_39 w.params) p loose mean mg mb PL (recs TL) TP (nx l) col (TL.map (·.1)) s.heap.objs.size (srOf (nx l) col) pg l t u) (n₀ := col.toNat + 1) FF (nSub NN (l' := TL2 ++ (PL ++ (HL ++ ([] ++ recs TL)))) (fun q hq => .tail _ hq)) ?_ ?_
    · exact ⟨none, .none, [], i, j, hit, HL, TL2, ⟨.inl ⟨rfl, rfl, rfl⟩, hH, tp2, ad2, adH, by omega, b2, b3, by unfold srOf; rw [e]⟩, rfl, _, _, ex_map7 rfl rfl rfl rfl rfl rfl rfl⟩
    clear FF NN hH adH tp2 ad2 b1 b2 b3 e
    rintro n m₁ news₁ h₁ tk₁ F₁ N₁ ⟨f, fv, FL, i, j, hit, HL, TL', ⟨fnd, hH, tp', adT, adH, fuel, le, small, res⟩, rfl, ti, tj, u', rfl⟩
    dsimp only
    k_steps
    · obtain ⟨k, rfl⟩ : ∃ k, n = k + 1 := ⟨n - 1, by omega⟩
      rw [srGo_step (st := j + 1) (by assumption) (by assumption) (by split <;> omega)] at res
      unfold Hold
      rename SearchOk _ _ _ _ _ _ _ _ _ _ _ _ => hS
      refine use_search (A0 := TL.map (·.1)) (n0 := s.heap.objs.size) (rest := HL ++ recs TL) (TL := TL') (st := j + 1) hS (.inr ⟨_, _, rfl⟩) hl (by omega) hPT (by k_asm) X (by k_asm) T (by walk_at "mRoom") (by walk_at "mRoom") tp' (by walk_at "mSub") (by walk_at "mSub") ?_ (Nat.le_of_eq (hideAll_size _ _).symm) adT ?_ ?_
      · intro q hq
        rcases List.mem_append.mp hq with z | z
        · exact ⟨by simp only [List.mem_append, z, true_or, or_true], (by obtain ⟨_, _, _, _, _, _, _, _, _, z2, _, _⟩ := hH; exact z2 q z)⟩
        · exact ⟨by simp only [List.mem_append, z, true_or, or_true], recs_isTab q z⟩
      · intro e h2 tk2 TL2 tp2 ad2 F2 N2
        rw [e] at res
        walk_at "mDrop"
        dsimp only
        k_steps
        dsimp only [WhileStep2]
        k_steps
        exact sr_ret (FL := HL) hret hh (.inr ⟨i, j, hit, rfl, rfl, hH, adH⟩) res tp2 ad2 (by k_asm) (by k_asm) (fun q hq => hq)
      · intro i' j' e hit' HL' h2 tk2 TL2 tp2 ad2 adH' hH' F2 N2
        rw [e] at res
        obtain ⟨b1, b2, b3⟩ := hb _ _ _ (by omega) e
        walk_at "mDrop"
        dsimp only
        k_steps
        refine ⟨_, _, _, TL2 ++ (PL ++ (HL' ++ (HL ++ recs TL))), k, rfl, by k_asm, nSub (by k_asm) (fun q hq => .tail _ hq), by omega, ⟨some (i, j), .ref hit, HL, i', j', hit', HL', TL2, ⟨.inr ⟨i, j, hit, rfl, rfl, hH, adH⟩, hH', tp2, ad2, adH', by omega, b2, b3, res⟩, rfl, _, _, ex_map7 rfl rfl rfl rfl rfl rfl rfl⟩⟩
    · obtain ⟨k, rfl⟩ : ∃ k, n = k + 1 := ⟨n - 1, by omega⟩
      rw [srGo_step (st := j) (by assumption) (by assumption) (by split <;> omega)] at res
      unfold Hold
      rename SearchOk _ _ _ _ _ _ _ _ _ _ _ _ => hS
      refine use_search (A0 := TL.map (·.1)) (n0 := s.heap.objs.size) (rest := HL ++ recs TL) (TL := TL') (st := j) hS (.inr ⟨_, _, rfl⟩) hl (by omega) hPT (by k_asm) X (by k_asm) T (by walk_at "mRoom") (by walk_at "mRoom") tp' (by walk_at "mSub") (by walk_at "mSub") ?_ (Nat.le_of_eq (hideAll_size _ _).symm) adT ?_ ?_
      · intro q hq
        rcases List.mem_append.mp hq with z | z
        · exact ⟨by simp only [List.mem_append, z, true_or, or_true], (by obtain ⟨_, _, _, _, _, _, _, _, _, z2, _, _⟩ := hH; exact z2 q z)⟩
        · exact ⟨by simp only [List.mem_append, z, true_or, or_true], recs_isTab q z⟩
      · intro e h2 tk2 TL2 tp2 ad2 F2 N2
        rw [e] at res
        walk_at "mDrop"
        dsimp only
        k_steps
        dsimp only [WhileStep2]
        k_steps
        exact sr_ret (FL := HL) hret hh (.inr ⟨i, j, hit, rfl, rfl, hH, adH⟩) res tp2 ad2 (by k_asm) (by k_asm) (fun q hq => hq)
      · intro i' j' e hit' HL' h2 tk2 TL2 tp2 ad2 adH' hH' F2 N2
        rw [e] at res
        obtain ⟨b1, b2, b3⟩ := hb _ _ _ (by omega) e
        walk_at "mDrop"
        dsimp only
        k_steps
        refine ⟨_, _, _, TL2 ++ (PL ++ (HL' ++ (HL ++ recs TL))), k, rfl, by k_asm, nSub (by k_asm) (fun q hq => .tail _ hq), by omega, ⟨some (i, j), .ref hit, HL, i', j', hit', HL', TL2, ⟨.inr ⟨i, j, hit, rfl, rfl, hH, adH⟩, hH', tp2, ad2, adH', by omega, b2, b3, res⟩, rfl, _, _, ex_map7 rfl rfl rfl rfl rfl rfl rfl⟩⟩
    · rw [srGo_stop (by omega)] at res
      exact sr_ret (FL := FL) hret hh fnd res tp' adT (by k_asm) (by k_asm) (fun q hq => by simp only [List.mem_append] at hq ⊢; rcases hq with z | z | z | z <;> simp [z])
    · rw [srGo_stop (by omega)] at res
      exact sr_ret (FL := FL) hret hh fnd res tp' adT (by k_asm) (by k_asm) (fun q hq => by simp only [List.mem_append] at hq ⊢; rcases hq with z | z | z | z <;> simp [z])
end
section
open PySem PySem.W PyProof.Rows
set_option Elab.async false
set_option maxRecDepth 100000
abbrev Led := List (Addr × Obj)
/-- o, laid at c, is a code record of that name with the table P -/
def CodeO (o : Obj) (c : Addr) (qual : Str) (P : Addr) : Prop := isTab o = false ∧ ∀ h : Heap, h.get? c = some o → h.CodeRec (.ref c) qual ∧ CodeHd h c P
theorem codeO_of {h : Heap} {c P : Addr} {o : Obj} {qual : Str} (hg : h.get? c = some o) (r : h.CodeRec (.ref c) qual) (d : CodeHd h c P) : CodeO o c qual P := by
  obtain ⟨c2, o2, vs2, t2, e0, e1, e2, e3⟩ := r
  cases e0
  rw [hg] at e1; cases e1
  obtain ⟨o3, vs, file, tf, flags, tg, inF, text, tt, f1, f2, f3, f4⟩ := d
  rw [hg] at f1; cases f1
  refine ⟨?_, fun h' hg' => ⟨⟨c, o, vs2, t2, rfl, hg', e2, e3⟩, ⟨o, vs, file, tf, flags, tg, inF, text, tt, hg', f2, f3, f4⟩⟩⟩
  unfold isTab; rw [f2]
theorem isTab_tab {ps : Array Value} : isTab (tabObj ps) = true := rfl
theorem among_snoc {q pos : Pos} {c v : Value} (l : List Value) (h : TriplesOk l) (e : codeAmong q (l ++ [rawInt pos.line, rawInt pos.col, c]) = some v) :
    codeAmong q l = some v ∨ (v = c ∧ q.line = pos.line ∧ q.col = pos.col) := by
  fun_induction TriplesOk l with
  | case1 =>
    simp only [List.nil_append, rawInt, codeAmong] at e
    split at e
    · rename_i hc
      simp only [Bool.and_eq_true, beq_iff_eq] at hc
      cases e
      exact .inr ⟨rfl, by omega, by omega⟩
    · cases e
  | case2 a t b u x rest ih =>
    simp only [List.cons_append, codeAmong] at e ⊢
    split at e
    · rename_i hc; rw [if_pos hc]; exact .inl e
    · rename_i hc; rw [if_neg hc]; exact ih h e
  | case3 l h1 h2 => exact h.elim
/-- the table P in Z: every code that it tells is a record in Z of which W holds -/
def TabOk (W : Pos → Obj → Addr → Prop) (Z : Led) (P : Addr) : Prop :=
  ∃ ps : Array Value, (P, tabObj ps) ∈ Z ∧ TriplesOk ps.toList ∧ ∀ q v, codeAmong q ps.toList = some v → ∃ c' o, v = .ref c' ∧ (c', o) ∈ Z ∧ isTab o = false ∧ W q o c'
def updZ (Z : Led) (P : Addr) (o : Obj) : Led := Z.map fun q => if q.1 = P then (P, o) else q
theorem updZ_ne {Z : Led} {P : Addr} {o : Obj} {q : Addr × Obj} (hq : q ∈ Z) (hn : q.1 ≠ P) : q ∈ updZ Z P o := List.mem_map.mpr ⟨q, hq, if_neg hn⟩
theorem updZ_at {Z : Led} {P : Addr} {o o' : Obj} (hq : (P, o) ∈ Z) : (P, o') ∈ updZ Z P o' := List.mem_map.mpr ⟨(P, o), hq, if_pos rfl⟩
theorem of_updZ {Z : Led} {P : Addr} {o : Obj} {q : Addr × Obj} (hq : q ∈ updZ Z P o) : q = (P, o) ∨ (q ∈ Z ∧ q.1 ≠ P) := by
  obtain ⟨r, hr, e⟩ := List.mem_map.mp hq
  split at e
  · exact .inl e.symm
  · rename_i hn; exact .inr (e ▸ ⟨hr, hn⟩)
/-- what a def or a lambda makes of the tables -/
structure Grew (Z : Led) (P : Addr) (ps : Array Value) (pos : Pos) (qual : Str) (n0 : Nat) (Z' : Led) (c' : Addr) (o : Obj) (P' : Addr) : Prop where
  sub : ∀ q ∈ Z, q.1 ≠ P → q ∈ Z'
  tab : ∃ ps', (P, tabObj ps') ∈ Z' ∧ TriplesOk ps'.toList ∧ ∀ q v, codeAmong q ps'.toList = some v → codeAmong q ps.toList = some v ∨ (v = .ref c' ∧ q.line = pos.line ∧ q.col = pos.col)
  mem : (c', o) ∈ Z'
  code : CodeO o c' qual P'
  new : (codeAmong pos ps.toList = some (.ref c') ∧ Z' = Z) ∨ ((P', tabObj #[]) ∈ Z' ∧ n0 ≤ P')
  adr : Adr (Z.map (·.1)) n0 Z'
section
variable {M : Model} {A : Around} {E : Value → Shared → Prop} {s : Shared} {name qual : Str} {params : Arguments} {body : FuncBody} {scope : Scope} {env : Env} {c P : Addr} {ps : Array Value} {pos : Pos} {firstLine : Nat}
  {p : Program} {loose : List Str} {mean : ExcName → Option Value} {mg mb : Str → Option Value} {m : Str → Option Value} {h₀ : Heap} {L : Addr} {Z rest : Led}
  {clos : List (Str × Addr)} {dV : Value} {Q : Value → Shared → Prop}
theorem mk_fn (F : Fr h₀ L s.heap m) (N : News h₀ L s.heap (Z ++ rest)) (T : Top p loose mean mg mb h₀) (hrest : ∀ q ∈ rest, isTab q.2 = false) (hcl : closureFor scope env = pure clos) (hge0 : env.globals = mainGlobals) (hcode : env.code = .ref c) (C : CodeHd s.heap c P) (hP : (P, tabObj ps) ∈ Z) (ht : TriplesOk ps.toList)
    (href : ∀ v, codeAmong pos ps.toList = some v → ∃ c' o P', v = .ref c' ∧ (c', o) ∈ Z ∧ CodeO o c' qual P')
    (h : ∀ f c' o P' ctv doc h' tk Z', Grew Z P ps pos qual s.heap.objs.size Z' c' o P' → s.heap.objs.size ≤ f → (∀ q ∈ Z' ++ rest, q.1 < f) → Fr h₀ L h' m →
      News h₀ L h' ((f, kdv_obj name qual params body scope clos dV doc ((mg "__name__").getD .none) c' ctv) :: (Z' ++ rest)) → Q (.ref f) { s with heap := h', toks := tk }) :
    wpAny M A (makeTail name qual params body scope env dV .none none pos firstLine) Q E s := by
  have hm := N (P, tabObj ps) (List.mem_append.mpr (.inl hP))
  have hgs := T.g.keeps F.keep
  obtain ⟨bm, ob, b1, b2, b3, b4, b5, b6⟩ := T.bmain
  have hgP : mainGlobals ≠ P := fun q => by
    obtain ⟨o, es, ep, e, hd, _⟩ := hgs
    rw [q, hm.1] at e; cases e; cases hd
  have hbP : bm ≠ P := fun q => by
    have e := F.keep _ _ b3
    rw [q, hm.1] at e; cases e; cases b4
  have hbG : bm ≠ mainGlobals := fun q => by
    obtain ⟨o, es, ep, e, hd, _⟩ := T.g
    rw [q, e] at b3; cases b3; rw [hd] at b6; cases b6
  have hLs : L < s.heap.objs.size := F.ns.lt
  have fresh : ∀ b, s.heap.objs.size ≤ b → b ≠ L ∧ h₀.get? b = none := fun b hb => ⟨Nat.ne_of_gt (Nat.lt_of_lt_of_le hLs hb), Heap.get?_none_of_le (Nat.le_trans F.above (Nat.le_of_lt (Nat.lt_of_lt_of_le hLs hb)))⟩
  have neP : ∀ q ∈ Z ++ rest, isTab q.2 = false → q.1 ≠ P := fun q hq ht e => by
    have := (N q hq).1
    rw [e, hm.1] at this
    rw [← Option.some.inj this] at ht; cases ht
  refine fn_tail (mg := mg) hcl hge0 hgs hcode C hm.1 ht hgP ⟨bm, ob, b1, b2, hbG, hbP, F.keep _ _ b3, b4, b5, b6⟩ ?_ ?_ fun v e => by
    obtain ⟨c', _, _, e, _⟩ := href v e; exact ⟨c', e⟩
  · intro hnf c' P' ctv doc h' tk hx hsz hc' hP' hrec hhd hT htb
    obtain ⟨c2, o, vs, t, e0, e1, e2, e3⟩ := id hrec
    cases e0
    have CO := codeO_of e1 hrec hhd
    have up : ∀ (x : Obj) b y, h'.get? b = some y → (h'.push x).get? b = some y := fun x b y e => Heap.get?_push_of_some x e
    have NN : ∀ q ∈ (updZ Z P (tabObj (ps ++ #[rawInt pos.line, rawInt pos.col, .ref c'])) ++ [(c', o), (P', tabObj #[])]) ++ rest, h'.get? q.1 = some q.2 ∧ q.1 ≠ L ∧ h₀.get? q.1 = none := by
      intro q hq
      rcases List.mem_append.mp hq with z | z
      · rcases List.mem_append.mp z with z | z
        · rcases of_updZ z with rfl | ⟨z, hn⟩
          · exact ⟨htb, hm.2⟩
          · have n := N q (List.mem_append.mpr (.inl z))
            exact ⟨hx _ _ hn n.1, n.2⟩
        · simp only [List.mem_cons, List.mem_nil_iff, or_false] at z
          rcases z with rfl | rfl
          · exact ⟨e1, fresh _ hc'⟩
          · exact ⟨hT, fresh _ hP'⟩
      · have n := N q (List.mem_append.mpr (.inr z))
        exact ⟨hx _ _ (neP q (List.mem_append.mpr (.inr z)) (hrest q z)) n.1, n.2⟩
    refine h h'.objs.size c' o P' ctv doc _ tk (updZ Z P (tabObj (ps ++ #[rawInt pos.line, rawInt pos.col, .ref c'])) ++ [(c', o), (P', tabObj #[])]) ?_ hsz (fun q hq => Heap.lt_size (NN q hq).1) ⟨(F.ns.extBut hx hm.2.1.symm).push _, fun b y e => up _ _ _ (hx b y (fun q => by rw [q, hm.2.2] at e; cases e) (F.keep b y e)), F.above⟩ ?_
    · refine ⟨fun q hq hn => List.mem_append.mpr (.inl (updZ_ne hq hn)), ⟨_, List.mem_append.mpr (.inl (updZ_at hP)), by simpa using TriplesOk_snoc _ _ _ _ ht, fun q v e => ?_⟩, by simp, CO, .inr ⟨by simp, hP'⟩, fun q hq => ?_⟩
      · have e' : codeAmong q (ps.toList ++ [rawInt pos.line, rawInt pos.col, .ref c']) = some v := by simpa using e
        exact among_snoc _ ht e'
      · rcases List.mem_append.mp hq with z | z
        · rcases of_updZ z with rfl | ⟨z, _⟩
          · exact .inl (List.mem_map.mpr ⟨_, hP, rfl⟩)
          · exact .inl (List.mem_map_of_mem z)
        · simp only [List.mem_cons, List.mem_nil_iff, or_false] at z
          rcases z with rfl | rfl
          · exact .inr hc'
          · exact .inr hP'
    · intro q hq
      rcases List.mem_cons.mp hq with rfl | hq
      · exact ⟨Heap.get?_push_size _ rfl, fresh _ hsz⟩
      · exact ⟨up _ _ _ (NN q hq).1, (NN q hq).2⟩
  · intro c' hf ctv doc h' tk hk hsz
    obtain ⟨c2, o, P', e, hz, CO⟩ := href _ hf
    cases e
    have up : ∀ (x : Obj) b y, s.heap.get? b = some y → (h'.push x).get? b = some y := fun x b y e => Heap.get?_push_of_some x (hk _ _ e)
    refine h h'.objs.size c' o P' ctv doc _ tk Z ⟨fun q hq _ => hq, ⟨ps, hP, ht, fun q v e => .inl e⟩, hz, CO, .inl ⟨hf, rfl⟩, fun q hq => .inl (List.mem_map_of_mem hq)⟩ hsz (fun q hq => Heap.lt_size (hk _ _ (N q hq).1)) ⟨(F.ns.keeps hk).push _, fun b y e => up _ _ _ (F.keep b y e), F.above⟩ ?_
    intro q hq
    rcases List.mem_cons.mp hq with rfl | hq
    · exact ⟨Heap.get?_push_size _ rfl, fresh _ hsz⟩
    · exact ⟨up _ _ _ (N q hq).1, (N q hq).2⟩
end
/-- a table stays well when another, or it itself, grows -/
theorem Grew.tabOk {W : Pos → Obj → Addr → Prop} {Z Z' : Led} {P P' P2 c' : Addr} {ps : Array Value} {pos : Pos} {qual : Str} {n0 : Nat} {o : Obj} {h : Heap} (g : Grew Z P ps pos qual n0 Z' c' o P') (x : Has Z h) (hP : (P, tabObj ps) ∈ Z)
    (hW : P2 = P → ∀ q : Pos, q.line = pos.line → q.col = pos.col → W q o c') (t : TabOk W Z P2) : TabOk W Z' P2 := by
  have uniq : ∀ o2, (P, o2) ∈ Z → o2 = tabObj ps := fun o2 h2 => by
    have a := x _ h2; have b := x _ hP
    simp only at a b
    rw [b] at a; exact (Option.some.inj a).symm
  have keep : ∀ q ∈ Z, isTab q.2 = false → q ∈ Z' := fun q hq hf => g.sub q hq fun e => by
    have := uniq q.2 (e ▸ hq)
    rw [this] at hf; cases hf
  obtain ⟨ps2, h1, h2, h3⟩ := t
  have h3' : ∀ q v, codeAmong q ps2.toList = some v → ∃ c' o, v = .ref c' ∧ (c', o) ∈ Z' ∧ isTab o = false ∧ W q o c' := fun q v e => by
    obtain ⟨c3, o3, a1, a2, a3, a4⟩ := h3 q v e
    exact ⟨c3, o3, a1, keep _ a2 a3, a3, a4⟩
  by_cases e : P2 = P
  · subst e
    have := uniq _ h1
    obtain rfl : ps2 = ps := by injection this with _ _ e3; injection e3
    obtain ⟨ps', k1, k2, k3⟩ := g.tab
    refine ⟨ps', k1, k2, fun q v e => ?_⟩
    rcases k3 q v e with z | ⟨rfl, z1, z2⟩
    · exact h3' q v z
    · exact ⟨c', o, rfl, g.mem, g.code.1, hW rfl q z1 z2⟩
  · exact ⟨ps2, g.sub _ h1 e, h2, h3'⟩
section
variable {prog : Program} {w : World} {K : Frag} {p : Program} {loose : List Str} {mean : ExcName → Option Value} {mg mb : Str → Option Value}
/-- a def of the text with cells of its own, the tables in the ledger -/
theorem code_cloK {A : Around} {s : Shared} {R : Result → Shared → Prop} {name qual : Str} {params : Arguments} {body : List Stmt} {scope : Scope} {dV kV doc pm cdv ct oc : Value} {an od : Option Addr} {osl : Array (Option Value)} {f : Addr} {args : Args} {binds : List (Str × Value)}
    (tabs : Led) (htab : Has tabs s.heap)
    (X : K.In (hideAll s.heap (tabs.map (·.1)))) (T : Top p loose mean mg mb (hideAll s.heap (tabs.map (·.1))))
    (ho : K.lookup f = some ⟨oc, od, .func (fnOf name qual params body scope dV kV doc pm an cdv ct), osl⟩) (hcd : codeIn K cdv qual = true) (hroom : A.depth < recursionLimit)
    (hbind : BindsTo s (fnOf name qual params body scope dV kV doc pm an cdv ct) args binds)
    (hkind : (binds.all fun y => scope.names.lookup y.1 == some .local || scope.names.lookup y.1 == some .cell) = true)
    (hnd : ((cellsFrom 0 scope.names []).map (·.1)).Nodup)
    (h : ∀ h₁ tk cells, Fr (hideAll s.heap (tabs.map (·.1))) s.heap.objs.size h₁ (bindL (envX qual scope s.heap.objs.size f cdv (cellsFrom (s.heap.objs.size + 1) scope.names [] ++ [])).kindOf binds fun _ => none) →
      News (hideAll s.heap (tabs.map (·.1))) s.heap.objs.size h₁ (cells ++ tabs) →
      CellsAre (bindC (envX qual scope s.heap.objs.size f cdv (cellsFrom (s.heap.objs.size + 1) scope.names [] ++ [])).kindOf binds fun _ => none) (cellsFrom (s.heap.objs.size + 1) scope.names []) cells →
      wpAny (model prog w) (A.deeper (envX qual scope s.heap.objs.size f cdv (cellsFrom (s.heap.objs.size + 1) scope.names [] ++ []))) (execs body (envX qual scope s.heap.objs.size f cdv (cellsFrom (s.heap.objs.size + 1) scope.names [] ++ [])))
        (fun fl s' => R (.ok (.ret (match fl with | .ret v => v | _ => .none))) s') (fun _ _ => False)
        { s with heap := h₁, toks := tk })
    (hco : scope.isCoroutine = false) (hgen : scope.isGenerator = false) (hk : scope.kind = .function) : codeAny (model prog w) A (.call (.ref f) args) R s := by
  have X' : K.In s.heap := X.keeps fun b o e => of_hideAll _ e
  have T' : Top p loose mean mg mb s.heap := T.keeps fun b o e => of_hideAll _ e
  exact code_clo tabs htab (X' _ _ ho) rfl T'.nolimit (codeRec_of X' hcd) hroom hbind hkind hnd h hco hgen hk
end
section
variable {prog : Program} {w : World} {A : Around} {E : Value → Shared → Prop} {s : Shared} {q : Addr} {fd : FuncData} {sl : Array (Option Value)} {name : Str} {v : Value} {h₀ : Heap} {L : Addr} {m : Str → Option Value} {rest news : Led}
theorem set_fn {Q : Unit → Shared → Prop} (F : Fr h₀ L s.heap m) (N : News h₀ L s.heap news) (hq : (q, (⟨.type "function", none, .func fd, sl⟩ : Obj)) ∈ news) (hs : ∀ x ∈ rest, x ∈ news) (hl : ∀ x ∈ rest, x.1 < q) (hn : typeLookup (.type "function") name = pure none)
    (h : ∀ d h' tk, q < d → Fr h₀ L h' m → News h₀ L h' ((q, ⟨.type "function", some d, .func fd, sl⟩) :: (d, dictOf [⟨PyData.keyHash w.params name, .str name tk, v⟩] 1) :: rest) → Q () { s with heap := h', toks := s.toks + 2 }) :
    wpAny (model prog w) A (setAttr (.ref q) name v) Q E s := by
  have hm := N _ hq
  have hLs : L < s.heap.objs.size := F.ns.lt
  refine fn_setAttr hm.1 hn fun h' tk hsz h1 h2 hk => h s.heap.objs.size h' tk (Heap.lt_size hm.1) ?_ fun x hx => ?_
  · obtain ⟨oL, a1, a2, hL, a3⟩ := F.ns
    refine ⟨⟨oL, a1, a2, by rw [hk _ hm.2.1.symm (Nat.ne_of_lt hLs)]; exact hL, a3⟩, fun b o e => ?_, F.above⟩
    have e2 := F.keep b o e
    rw [hk b (fun z => by have z2 := hm.2.2; rw [z] at e; rw [z2] at e; cases e) (Nat.ne_of_lt (Heap.lt_size e2))]; exact e2
  · rcases List.mem_cons.mp hx with rfl | hx
    · exact ⟨h1, hm.2⟩
    rcases List.mem_cons.mp hx with rfl | hx
    · exact ⟨h2, Nat.ne_of_gt hLs, Heap.get?_none_of_le (Nat.le_trans F.above (Nat.le_of_lt hLs))⟩
    · have n := N x (hs x hx)
      exact ⟨by rw [hk _ (Nat.ne_of_lt (hl x hx)) (Nat.ne_of_lt (Heap.lt_size n.1))]; exact n.1, n.2⟩
end
end
section
open PySem PySem.W PyProof.Rows
set_option Elab.async false
set_option maxRecDepth 100000
theorem isTab_cell {o : Obj} {x : Option Value} (h : o.data = .cell x) : isTab o = false := by
  unfold isTab; rw [h]; cases o.cls <;> rfl
def W1 (ql : Str) : Pos → Obj → Addr → Prop := fun _ o c' => ∃ P', CodeO o c' ql P'
def qS : Str := Str.ofString "_law_prog.<locals>.search"
def qP : Str := Str.ofString "_law_prog.<locals>.<lambda>"
def qH : Str := Str.ofString "_law_prog.<locals>.search.<locals>.<lambda>"
/-- what the table of _law_prog's code tells -/
def W0 (Z : Led) : Pos → Obj → Addr → Prop := fun q o c' => (q.line = 61 → ∃ P', P' ≠ 72 ∧ CodeO o c' qS P' ∧ TabOk (W1 qH) Z P') ∧ (q.line = 71 → ∃ P', CodeO o c' qP P')
def TP0 (Z : Led) : Prop := TabOk (W0 Z) Z 72
/-- the tables, with the one of the present search -/
def TPP (P : Addr) (Z : Led) : Prop := TP0 Z ∧ P ≠ 72 ∧ TabOk (W1 qH) Z P
theorem TabOk.mono {W W' : Pos → Obj → Addr → Prop} {Z : Led} {P : Addr} (h : ∀ q o c, W q o c → W' q o c) (t : TabOk W Z P) : TabOk W' Z P := by
  obtain ⟨ps, a, b, d⟩ := t
  exact ⟨ps, a, b, fun q v e => let ⟨c, o, x, y, z, u⟩ := d q v e; ⟨c, o, x, y, z, h q o c u⟩⟩
section
variable {Z Z' : Led} {P P' c' : Addr} {ps : Array Value} {pos : Pos} {qual : Str} {n0 : Nat} {o : Obj} {h : Heap}
/-- table 72 grows by the code of search -/
theorem grow_s (g : Grew Z 72 ps pos qS n0 Z' c' o P') (x : Has Z h) (hP : (72, tabObj ps) ∈ Z) (hn : 72 < n0) (hl : pos.line = 61) (t : TP0 Z) : ∃ P1, CodeO o c' qS P1 ∧ TPP P1 Z' := by
  have up : ∀ P2, P2 ≠ 72 → TabOk (W1 qH) Z P2 → TabOk (W1 qH) Z' P2 := fun P2 hne tk => g.tabOk x hP (fun e => absurd e hne) tk
  have up0 : ∀ q o c, W0 Z q o c → W0 Z' q o c := fun q o c w => ⟨fun e => let ⟨P2, a, b, d⟩ := w.1 e; ⟨P2, a, b, up P2 a d⟩, w.2⟩
  have key : ∃ P1, P1 ≠ 72 ∧ CodeO o c' qS P1 ∧ TabOk (W1 qH) Z' P1 := by
    rcases g.new with ⟨hf, rfl⟩ | ⟨hm, hge⟩
    · obtain ⟨ps2, h1, h2, h3⟩ := t
      have e1 := x _ h1; have e2 := x _ hP
      simp only at e1 e2
      rw [e2] at e1
      obtain rfl : ps = ps2 := by have := Option.some.inj e1; injection this with _ _ e3; injection e3
      obtain ⟨c2, o2, e, hm2, _, hw⟩ := h3 _ _ hf
      cases e
      have e3 := x _ hm2; have e4 := x _ g.mem
      simp only at e3 e4
      rw [e4] at e3
      obtain rfl := Option.some.inj e3
      exact hw.1 hl
    · exact ⟨P', Nat.ne_of_gt (Nat.lt_of_lt_of_le hn hge), g.code, ⟨#[], hm, trivial, fun q v e => by simp [codeAmong] at e⟩⟩
  obtain ⟨P1, k1, k2, k3⟩ := key
  refine ⟨P1, k2, ?_, k1, k3⟩
  refine g.tabOk x hP (fun _ q e1 e2 => ⟨fun _ => ⟨P1, k1, k2, k3⟩, fun e => by omega⟩) (t.mono up0)
/-- table 72 grows by the code of prog's lambda -/
theorem grow_p (g : Grew Z 72 ps pos qP n0 Z' c' o P') (x : Has Z h) (hP : (72, tabObj ps) ∈ Z) (hl : pos.line = 71) (t : TPP P Z) : TPP P Z' := by
  have up : ∀ P2, P2 ≠ 72 → TabOk (W1 qH) Z P2 → TabOk (W1 qH) Z' P2 := fun P2 hne tk => g.tabOk x hP (fun e => absurd e hne) tk
  have up0 : ∀ q o c, W0 Z q o c → W0 Z' q o c := fun q o c w => ⟨fun e => let ⟨P2, a, b, d⟩ := w.1 e; ⟨P2, a, b, up P2 a d⟩, w.2⟩
  refine ⟨g.tabOk x hP (fun _ q e1 e2 => ⟨fun e => by omega, fun _ => ⟨P', g.code⟩⟩) (t.1.mono up0), t.2.1, up P t.2.1 t.2.2⟩
/-- the table of search's code grows -/
theorem grow_h (g : Grew Z P ps pos qH n0 Z' c' o P') (x : Has Z h) (hP : (P, tabObj ps) ∈ Z) (t : TPP P Z) : TPP P Z' := by
  have up : ∀ P2, TabOk (W1 qH) Z P2 → TabOk (W1 qH) Z' P2 := fun P2 tk => g.tabOk x hP (fun _ q _ _ => ⟨P', g.code⟩) tk
  have up0 : ∀ q o c, W0 Z q o c → W0 Z' q o c := fun q o c w => ⟨fun e => let ⟨P2, a, b, d⟩ := w.1 e; ⟨P2, a, b, up P2 d⟩, w.2⟩
  exact ⟨g.tabOk x hP (fun e => absurd e.symm t.2.1) (t.1.mono up0), t.2.1, up P t.2.2⟩
end
section
variable {M : Model} {A : Around} {E : Value → Shared → Prop} {s : Shared} {params : Arguments} {body : Expr} {scope : Scope} {env : Env} {c P : Addr} {ps : Array Value} {pos : Pos} {qual : Str}
  {p : Program} {loose : List Str} {mean : ExcName → Option Value} {mg mb : Str → Option Value} {m : Str → Option Value} {h₀ : Heap} {L : Addr} {Z rest news : Led}
  {clos : List (Str × Addr)} {Q : Value → Shared → Prop}
theorem mk_lam (F : Fr h₀ L s.heap m) (N : News h₀ L s.heap news) (hs : ∀ q ∈ Z ++ rest, q ∈ news) (T : Top p loose mean mg mb h₀) (hrest : ∀ q ∈ rest, isTab q.2 = false) (hq : env.qual ++ Str.ofString "<lambda>" = qual) (hdef : defaultsOf params env = ([], [])) (hcl : closureFor scope env = pure clos) (hge0 : env.globals = mainGlobals) (hcode : env.code = .ref c) (C : CodeHd s.heap c P) (hP : (P, tabObj ps) ∈ Z) (ht : TriplesOk ps.toList)
    (href : ∀ v, codeAmong pos ps.toList = some v → ∃ c' o P', v = .ref c' ∧ (c', o) ∈ Z ∧ CodeO o c' qual P')
    (h : ∀ f c' o P' ctv doc h' tk Z', Grew Z P ps pos qual s.heap.objs.size Z' c' o P' → s.heap.objs.size ≤ f → (∀ q ∈ Z' ++ rest, q.1 < f) → Fr h₀ L h' m →
      News h₀ L h' ((f, kdv_obj (Str.ofString "<lambda>") qual params (.expr body) scope clos .none doc ((mg "__name__").getD .none) c' ctv) :: (Z' ++ rest)) → Q (.ref f) { s with heap := h', toks := tk }) :
    wpAny M A (eval (.Lambda params body scope pos) env) Q E s := by
  refine kla_eval hdef ?_
  rw [makeFunction_eq]
  simp only [List.zip_nil_right, List.filterMap_nil, List.isEmpty_nil, if_true, pure_bind]
  subst hq
  exact mk_fn F (nSub N hs) T hrest hcl hge0 hcode C hP ht href h
end
theorem Adr.mono {A : List Addr} {n k : Nat} {Z : Led} (a : Adr A n Z) (h : k ≤ n) : Adr A k Z := fun q hq => (a q hq).imp id fun z => Nat.le_trans h z
theorem kept_of0 {h h' : Heap} {L : Addr} {m : Str → Option Value} {Z Z' news : Led} (hh : Has Z h) (F : Fr (hideAll h (Z.map (·.1))) L h' m) (N : News (hideAll h (Z.map (·.1))) L h' news) (hs : ∀ q ∈ Z', q ∈ news) (hr : ∀ q ∈ Z, isTab q.2 = false → q ∈ news) (ad : Adr (Z.map (·.1)) h.objs.size Z') : Kept h Z h' Z' := by
  have e : (Z ++ ([] : Led)).map (·.1) = Z.map (·.1) := by simp
  refine kept_of (PL := []) (m := m) (L := L) (by simpa using hh) (by rw [e]; exact F) (by
    rw [e]; refine nSub N fun q hq => ?_
    simp only [List.nil_append, List.mem_append] at hq
    rcases hq with z | z
    · exact hs q z
    · exact hr q (recs_sub q z) (recs_isTab q z)) ad
theorem Grew.keepRec {Z Z' : Led} {P P' c' : Addr} {ps : Array Value} {pos : Pos} {qual : Str} {n0 : Nat} {o : Obj} {h : Heap} (g : Grew Z P ps pos qual n0 Z' c' o P') (x : Has Z h) (hP : (P, tabObj ps) ∈ Z) (q : Addr × Obj) (hq : q ∈ Z) (hf : isTab q.2 = false) : q ∈ Z' :=
  g.sub q hq fun e => by
    have a := x _ hq; have b := x _ hP
    simp only at a b
    rw [e, b] at a
    rw [← Option.some.inj a] at hf; cases hf
/-- the first place from st on at which wd is not 0 -/
def firstW (wd : Nat → Nat) : Nat → Nat → Option (Nat × Nat)
  | 0, _ => none
  | n + 1, k => if wd k = 0 then firstW wd n (k + 1) else some (k, k + wd k)
theorem ne_lt {r : Led} {L c : Nat} (h : ∀ q ∈ r, q.1 < L) (hc : L ≤ c) : ∀ q ∈ r, q.1 ≠ c := fun q hq => Nat.ne_of_lt (Nat.lt_of_lt_of_le (h q hq) hc)
/-- the search's loop: nothing found so far -/
def SeJ (wd : Nat → Nat) (st : Nat) (l : List Nat) (t : Tok) (tail : Led) (L9 : Nat) (i : Nat) (m : Str → Option Value) (nx : Led) : Prop :=
  (∀ j, j < i → wd (st + j) = 0) ∧ (∃ u : Str → Option Value, m = fun y => if y = Str.ofString "chars" then some (.str (S l) t) else u y) ∧
  ∃ ok ow x y, nx = (L9 + 1 + 1, ow) :: (L9 + 1, ok) :: tail ∧ ok.data = .cell x ∧ ow.data = .cell y
theorem range_len (st n : Nat) : Builtin.Range.rangeSize (st : Int) (n : Int) 1 = ((n - st : Nat) : Int) := by
  rw [rangeSize_one]; split <;> omega
theorem firstW_none {wd : Nat → Nat} : ∀ {n k : Nat}, (∀ j, j < n → wd (k + j) = 0) → firstW wd n k = none
  | 0, _, _ => rfl
  | n + 1, k, h => by
    unfold firstW
    rw [if_pos (show wd k = 0 from h 0 (Nat.succ_pos _))]
    exact firstW_none fun j hj => by have := h (j + 1) (by omega); rwa [show k + (j + 1) = k + 1 + j by omega] at this
theorem firstW_some {wd : Nat → Nat} : ∀ {n k i : Nat}, i < n → (∀ j, j < i → wd (k + j) = 0) → wd (k + i) ≠ 0 → firstW wd n k = some (k + i, k + i + wd (k + i))
  | 0, _, _, h, _, _ => absurd h (Nat.not_lt_zero _)
  | n + 1, k, 0, _, _, h2 => by
    unfold firstW
    rw [if_neg (show ¬ wd k = 0 from h2)]
    rfl
  | n + 1, k, i + 1, h, h1, h2 => by
    unfold firstW
    rw [if_pos (show wd k = 0 from h1 0 (Nat.succ_pos _))]
    have := firstW_some (wd := wd) (n := n) (k := k + 1) (i := i) (by omega) (fun j hj => by have := h1 (j + 1) (by omega); rwa [show k + (j + 1) = k + 1 + j by omega] at this) (by rwa [show k + (i + 1) = k + 1 + i by omega] at h2)
    rw [this, show k + 1 + i = k + (i + 1) by omega]
theorem Adr.self {n : Nat} {Z : Led} : Adr (Z.map (·.1)) n Z := fun _ hq => .inl (List.mem_map_of_mem hq)
section
variable {prog : Program} {w : World} {A : Around} {E : Value → Shared → Prop} {Q : Flow → Shared → Prop} {s : Shared} {env : Env} {h₀ : Heap} {L : Addr}
/-- for target in range(a, b), the range made on the spot -/
theorem for_range2 {target : Expr} {a b : Int} {t u : Tok} {n : Nat} {body : List Stmt} {m₀ : Str → Option Value} {news₀ : List (Addr × Obj)} (J : Nat → (Str → Option Value) → List (Addr × Obj) → Prop)
    (hh : A.handled = none) (F : Fr h₀ L s.heap m₀) (N : News h₀ L s.heap news₀) (hsmall : Builtin.Range.small a b 1 = true) (hn : Builtin.Range.rangeSize a b 1 = (n : Int)) (hJ0 : J 0 m₀ news₀)
    (hadr : ∀ i m nx, J i m nx → nx.map (·.1) = news₀.map (·.1))
    (turn : ∀ it : Nat, s.heap.objs.size < it → ∀ i m nx h tk o tx, i < n → J i m nx → Fr h₀ L h m → News h₀ L h ((it, o) :: nx) →
      wpAny (model prog w) A (assign target env (.int (a + (i : Int)) tx)) (fun _ s₂ => wpAny (model prog w) A (execs body env) (TurnEnd h₀ L s it o (J (i + 1)) Q) E s₂) E { s with heap := h, toks := tk })
    (done : ∀ m nx h tk, J n m nx → Fr h₀ L h m → News h₀ L h nx → Q .next { s with heap := h, toks := tk })
    (hE : PassesOwn (model prog w) A env E) (ht : ∀ it v, letOwnedTupleGo target it v = pure () := by intro _ _; rfl) :
    wpAny (model prog w) A (call (.type "range") [.int a t, .int b u]) (fun x s₁ => wpAny (model prog w) A (pyIter x) (fun it s₂ => codeAny (model prog w) A (.forLoop target it body [] env) (fun r s' => match r with | .ok f => Q f s' | .error e => cameBackBy (model prog w) A env E e s') s₂) E s₁) E s := by
  refine call_range_2 ?_
  refine for_range J hh (F.push _) (fun q hq => ⟨Heap.get?_push_of_some _ (N q hq).1, (N q hq).2⟩) (IsRange.new _ _ _ _ _ _ _) hsmall hn hJ0 hadr (fun i m nx h tk o tx hi hj f nn => turn _ ?_ i m nx h tk o tx hi hj f nn) done hE ht
  show s.heap.objs.size < (s.heap.push _).objs.size
  rw [Heap.size_push]; exact Nat.lt_succ_self _
end
theorem ne_fst {a c : Nat} {o : Obj} (h : a < c ∨ c < a) : ((a, o) : Addr × Obj).1 ≠ c := by
  rcases h with h | h
  · exact Nat.ne_of_lt h
  · exact Nat.ne_of_gt h
end
section
open PySem PySem.W PyProof.Rows
set_option Elab.async false
set_option maxRecDepth 100000
section
variable {prog : Program} {w : World} {A : Around} {s : Shared} {R : Result → Shared → Prop}
/-- a call of a lambda that lies in the ledger HL -/
theorem code_lam {name qual : Str} {params : Arguments} {body : Expr} {scope : Scope} {cl : List (Str × Addr)} {dV doc pm ctv : Value} {c' f : Addr} {args : Args} {HL : Led}
    (hh : Has HL s.heap) (hlim : s.heap.NoLimit) (ho : (f, kdv_obj name qual params (.expr body) scope cl dV doc pm c' ctv) ∈ HL) (hcd : s.heap.CodeRec (.ref c') qual) (hroom : A.depth < recursionLimit)
    (hbind : bindArgs (kdv_fn name qual params (.expr body) scope cl dV doc pm (.ref c') ctv) args = pure [])
    (h : ∀ L' h₁, Fr (hideAll s.heap (HL.map (·.1))) L' h₁ (fun _ => none) → News (hideAll s.heap (HL.map (·.1))) L' h₁ HL →
      wpAny (model prog w) (A.deeper (envX qual scope L' f (.ref c') cl)) (eval body (envX qual scope L' f (.ref c') cl)) (fun v s' => R (.ok (.ret v)) s') (fun _ _ => False) { s with heap := h₁, toks := s.toks })
    (hco : scope.isCoroutine = false) (hgen : scope.isGenerator = false) (hk : scope.kind = .function)
    (hcell : ∀ x ∈ scope.names, x.2 ≠ .cell) : codeAny (model prog w) A (.call (.ref f) args) R s := by
  refine kla_callFunE hroom (hh _ ho) rfl hco hgen rfl hcd ?_
  rw [hbind]
  refine wpAny_pure (wpAny_newFunctionEnv hcell (fun _ hy => absurd hy List.not_mem_nil) (fun h₁ hns hsb => ⟨hlim.fresh _ hsb, ?_⟩) hk)
  show codeAny _ _ (.expr body (envX qual scope s.heap.objs.size f (.ref c') cl)) _ _
  have hk₁ : ∀ b o, s.heap.get? b = some o → h₁.get? b = some o := fun b o e => hsb.extBut b o (Nat.ne_of_lt (Heap.lt_size e)) (Heap.get?_push_of_some _ e)
  exact kla_codeExpr (wpAny_mono (h s.heap.objs.size h₁ ⟨hns, fun b o e => hk₁ b o (of_hideAll _ e), Nat.le_of_eq (hideAll_size _ _)⟩
    (fun p hp => ⟨hk₁ _ _ (hh p hp), Nat.ne_of_lt (Heap.lt_size (hh p hp)), hideAll_none _ (List.mem_map_of_mem hp)⟩)) (fun v s' hl => hl) fun _ _ y => y.elim)
end
end
section
open PySem PySem.W PyProof.Rows
set_option Elab.async false
set_option maxRecDepth 100000
abbrev noArgs : Arguments := { posonlyargs := [], args := [], vararg := none, kwonlyargs := [], kw_defaults := [], kwarg := none, defaults := [] }
theorem Grew.adrTrans {A0 : List Addr} {n0 n1 : Nat} {Z Z' : Led} {P P' c' : Addr} {ps : Array Value} {pos : Pos} {qual : Str} {o : Obj} (a : Adr A0 n0 Z) (g : Grew Z P ps pos qual n1 Z' c' o P') (h : n0 ≤ n1) : Adr A0 n0 Z' := Adr.trans a h g.adr
section
variable {prog : Program} {w : World} {K : Frag} {p : Program} {loose : List Str} {mean : ExcName → Option Value} {mg mb : Str → Option Value}
variable {A : Around} {E : Value → Shared → Prop} {s : Shared} {m : Str → Option Value} {h₀ : Heap} {L sf c P : Addr} {Z rest news cells : Led} {qn qual : Str} {cs sc0 sc1 : Scope} {cl clos : List (Str × Addr)} {Q : Flow → Shared → Prop}
  {body0 body : Expr} {p1 p2 p3 p4 p5 p6 p7 p8 p9 : Pos} {i j : Int}
/-- hit = lambda: ..; hit.span = lambda: ..; return hit -/
theorem hit_ok (TP : Led → Prop) (F : Fr h₀ L s.heap m) (N : News h₀ L s.heap news) (hs : ∀ q ∈ Z ++ rest, q ∈ news) (T : Top p loose mean mg mb h₀) (hrest : ∀ q ∈ rest, isTab q.2 = false) (hcells : ∀ q ∈ cells, q ∈ rest)
    (hq : (qn ++ Str.ofString ".<locals>.") ++ Str.ofString "<lambda>" = qual) (hk : cs.kind = .function) (hloc : (envX qn cs L sf (.ref c) cl).kindOf (Str.ofString "hit") = some .local)
    (hcl0 : closureFor sc0 (envX qn cs L sf (.ref c) cl) = pure []) (hcl1 : closureFor sc1 (envX qn cs L sf (.ref c) cl) = pure clos) (C : CodeHd h₀ c P ∨ ∃ o, (c, o) ∈ rest ∧ ∃ q, CodeO o c q P)
    (tp : TP Z) (htab : ∀ Z, TP Z → TabOk (W1 qual) Z P)
    (hgrow : ∀ Z ps pos n0 Z' c' o P' h, Grew Z P ps pos qual n0 Z' c' o P' → Has Z h → (P, tabObj ps) ∈ Z → TP Z → TP Z')
    (hspan : ∀ (HL : Led) (sp c' : Addr) (o' : Obj) (P' : Addr) (doc ctv pm : Value), (sp, kdv_obj (Str.ofString "<lambda>") qual noArgs (.expr body) sc1 clos .none doc pm c' ctv) ∈ HL → (c', o') ∈ HL → CodeO o' c' qual P' → (∀ q ∈ cells, q ∈ HL) → SpanOk prog w K p loose mean mg mb HL sp i j)
    (h : ∀ hit HL h' tk Z' m', TP Z' → HitL prog w K p loose mean mg mb HL hit i j → Fr h₀ L h' m' → News h₀ L h' (Z' ++ (HL ++ rest)) → Adr (Z.map (·.1)) s.heap.objs.size Z' → (∀ q ∈ HL, q ∈ cells ∨ q.1 ∈ Z.map (·.1) ∨ s.heap.objs.size ≤ q.1) → (∀ q ∈ Z, isTab q.2 = false → q ∈ Z') →
      Q (.ret (.ref hit)) { s with heap := h', toks := tk }) 
    (hs1 : swapsWith (.Lambda noArgs body0 sc0 p2) (some (.Name (Str.ofString "hit") p1)) p3.line (envX qn cs L sf (.ref c) cl) = pure false := by rfl)
    (hs2 : swapsWith (.Lambda noArgs body sc1 p6) (some (.Attribute (.Name (Str.ofString "hit") p4) (Str.ofString "span") p5)) p7.line (envX qn cs L sf (.ref c) cl) = pure false := by rfl) :
    wpAny (model prog w) A (execs [.Assign [.Name (Str.ofString "hit") p1] (.Lambda noArgs body0 sc0 p2) p3, .Assign [.Attribute (.Name (Str.ofString "hit") p4) (Str.ofString "span") p5] (.Lambda noArgs body sc1 p6) p7, .Return (some (.Name (Str.ofString "hit") p8)) p9] (envX qn cs L sf (.ref c) cl)) Q E s := by
  have hc : ∀ h' : Heap, (∀ b o, h₀.get? b = some o → h'.get? b = some o) → Has rest h' → CodeHd h' c P := fun h' a b => by
    rcases C with C | ⟨o, ho, q, co⟩
    · exact C.keeps a
    · exact (co.2 h' (b _ ho)).2
  refine wpAny_execs_cons (wpAny_Assign_Name ?_ hs1)
  obtain ⟨ps, hP, ht, href⟩ := htab Z tp
  have hZ0 : Has Z s.heap := News.has (nSub N fun q hq => hs q (by simp [hq]))
  have hR0 : Has rest s.heap := News.has (nSub N fun q hq => hs q (by simp [hq]))
  refine mk_lam (P := P) (c := c) (Z := Z) (rest := rest) F N hs T hrest hq rfl hcl0 rfl rfl (hc _ F.keep hR0) hP ht (fun v e => ?_) ?_
  · obtain ⟨c', o, rfl, hm, _, P', hco⟩ := href _ v e
    exact ⟨c', o, P', rfl, hm, hco⟩
  intro f1 c1 o1 P1 ctv1 doc1 h1 tk1 Z1 G1 lf1 lt1 F1 N1
  have tp1 := hgrow _ _ _ _ _ _ _ _ _ G1 hZ0 hP tp
  refine storeX_L F1 N1 ?_ hk hloc
  intro h2 F2 N2
  dsimp only
  generalize hf1 : kdv_obj _ _ _ _ _ _ _ _ _ _ _ = fo1 at N1 N2
  have hfo1 : isTab fo1 = false := by rw [← hf1]; rfl
  refine wpAny_execs_cons (plainObj_wpAny_Assign_Attribute ?_ hs2)
  obtain ⟨ps2, hP2, ht2, href2⟩ := htab Z1 tp1
  have hZ1 : Has Z1 h2 := News.has (nSub N2 fun q hq => by simp [hq])
  have hR1 : Has rest h2 := News.has (nSub N2 fun q hq => by simp [hq])
  have hsz1 : s.heap.objs.size ≤ h2.objs.size := Nat.le_trans lf1 (Nat.le_of_lt (Heap.lt_size (N2 _ (List.mem_cons_self)).1))
  refine mk_lam (P := P) (c := c) (Z := Z1) (rest := (f1, fo1) :: rest) F2 N2 (fun q hq => by
      simp only [List.mem_append, List.mem_cons] at hq ⊢
      rcases hq with z | z | z <;> simp [z]) T (fun q hq => (List.mem_cons.mp hq).elim (fun e => by rw [e]; exact hfo1) (hrest q)) hq rfl hcl1 rfl rfl (hc _ F2.keep hR1) hP2 ht2 (fun v e => ?_) ?_
  · obtain ⟨c', o, rfl, hm, _, P', hco⟩ := href2 _ v e
    exact ⟨c', o, P', rfl, hm, hco⟩
  intro f2 c2 o2 P2 ctv2 doc2 h3 tk3 Z2 G2 lf2 lt2 F3 N3
  have tp2 := hgrow _ _ _ _ _ _ _ _ _ G2 hZ1 hP2 tp1
  dsimp only at lf2
  refine nameX_L F3 (v := .ref f1) (by simp) ?_ hk hloc
  generalize hf2 : kdv_obj _ _ _ _ _ _ _ _ _ _ _ = fo2 at N3
  have hfo2 : isTab fo2 = false := by rw [← hf2]; rfl
  subst hf1
  have lt3 : ∀ q ∈ Z1 ++ rest, q.1 < f1 := lt1
  -- all but f1 itself
  have ne2 : ∀ q ∈ (f2, fo2) :: (Z2 ++ rest), q.1 ≠ f1 := fun q hq e => by
    rcases List.mem_cons.mp hq with rfl | hq
    · have := lt2 (f1, _) (List.mem_append.mpr (.inr (.head _)))
      exact absurd this (by dsimp only at e ⊢; rw [e]; exact Nat.lt_irrefl _)
    rcases List.mem_append.mp hq with hq | hq
    · rcases G2.adr q hq with z | z
      · obtain ⟨r, hr, e2⟩ := List.mem_map.mp z
        have := lt3 r (by simp [hr])
        rw [e2, e] at this
        exact Nat.lt_irrefl _ this
      · have := Heap.lt_size (N2 _ (List.mem_cons_self)).1
        dsimp only at this z
        rw [e] at z
        exact Nat.lt_irrefl _ (Nat.lt_of_lt_of_le this z)
    · have := lt3 q (by simp [hq])
      rw [e] at this
      exact Nat.lt_irrefl _ this
  have hm := N3 (f1, _) (.tail _ (List.mem_append.mpr (.inr (.head _))))
  have hLs : L < h3.objs.size := F3.ns.lt
  refine fn_setAttr (q := f1) hm.1 lk_fn_span fun h4 tk4 hsz h41 h42 hk4 => ?_
  dsimp only at hsz h41 h42 hk4 hm
  obtain ⟨oL, a1, a2, hL, a3⟩ := F3.ns
  have F4 : Fr h₀ L h4 _ := ⟨⟨oL, a1, a2, by rw [hk4 _ hm.2.1.symm (Nat.ne_of_lt hLs)]; exact hL, a3⟩, fun b o e => by
    have e2 := F3.keep b o e
    rw [hk4 b (fun z => by have z2 := hm.2.2; rw [z] at e; rw [z2] at e; cases e) (Nat.ne_of_lt (Heap.lt_size e2))]; exact e2, F3.above⟩
  refine wpAny_execs_cons (wpAny_Return_some (nameX_L F4 (v := .ref f1) (by simp) ?_ hk hloc))
  dsimp only
  have hd0 : h3.objs.size ≠ L ∧ h₀.get? h3.objs.size = none := ⟨Nat.ne_of_gt hLs, Heap.get?_none_of_le (Nat.le_trans F3.above (Nat.le_of_lt hLs))⟩
  have hold : ∀ q ∈ (f2, fo2) :: (Z2 ++ rest), h4.get? q.1 = some q.2 ∧ q.1 ≠ L ∧ h₀.get? q.1 = none := fun q hq => by
    have n := N3 q (by
      simp only [List.mem_append, List.mem_cons] at hq ⊢
      rcases hq with z | z | z <;> simp [z])
    exact ⟨by rw [hk4 _ (ne2 q hq) (Nat.ne_of_lt (Heap.lt_size n.1))]; exact n.1, n.2⟩
  have hA : ∃ oA oB, h4.get? f1 = some oA ∧ h4.get? h3.objs.size = some oB ∧ (∃ fd sl, oA = (⟨.type "function", some h3.objs.size, .func fd, sl⟩ : Obj)) ∧ ∃ hsh tk n, oB = dictOf [⟨hsh, .str (Str.ofString "span") tk, .ref f2⟩] n := ⟨_, _, h41, h42, ⟨_, _, rfl⟩, ⟨_, _, _, rfl⟩⟩
  obtain ⟨oA, oB, g41, g42, ⟨fd, sl, rfl⟩, ⟨hsh, tkk, nn, rfl⟩⟩ := hA
  refine h f1 ((f1, ⟨.type "function", some h3.objs.size, .func fd, sl⟩) :: (h3.objs.size, dictOf [⟨hsh, .str (Str.ofString "span") tkk, .ref f2⟩] nn) :: (f2, fo2) :: (c2, o2) :: cells) h4 _ Z2 _ tp2 ⟨h3.objs.size, fd, sl, hsh, tkk, nn, f2, .head _, .tail _ (.head _), ?_, ?_, ?_⟩ F4 ?_ ?_ ?_ ?_
  · intro q hq
    simp only [List.mem_cons] at hq
    rcases hq with rfl | rfl | rfl | rfl | z
    · rfl
    · rfl
    · exact hfo2
    · exact G2.code.1
    · exact hrest q (hcells q z)
  · subst hf2
    exact ⟨_, _, _, _, .tail _ (.tail _ (.head _))⟩
  · subst hf2
    exact hspan _ f2 c2 o2 P2 _ _ _ (.tail _ (.tail _ (.head _))) (.tail _ (.tail _ (.tail _ (.head _)))) G2.code (fun q hq => by simp [hq])
  · intro q hq
    rcases List.mem_append.mp hq with hq | hq
    · exact hold q (by simp [hq])
    rcases List.mem_append.mp hq with hq | hq
    · simp only [List.mem_cons] at hq
      rcases hq with rfl | rfl | rfl | rfl | z
      · exact ⟨g41, hm.2⟩
      · exact ⟨g42, hd0⟩
      · exact hold _ (by simp)
      · exact hold _ (by simp [G2.mem])
      · exact hold q (by simp [hcells q z])
    · exact hold q (by simp [hq])
  · exact (G2.adrTrans G1.adr hsz1)
  · intro q hq
    have hf1 := lf1
    have s3 : s.heap.objs.size ≤ h3.objs.size := Nat.le_trans lf1 (Nat.le_of_lt (Heap.lt_size hm.1))
    simp only [List.mem_cons] at hq
    rcases hq with rfl | rfl | rfl | rfl | z
    · exact .inr (.inr hf1)
    · exact .inr (.inr s3)
    · exact .inr (.inr (Nat.le_trans hsz1 lf2))
    · exact .inr ((G2.adrTrans G1.adr hsz1) _ G2.mem)
    · exact .inl z
  · intro q hq hf
    exact G2.keepRec hZ1 hP2 _ (G1.keepRec hZ0 hP _ hq hf) hf
end
end
section
open PySem PySem.W PyProof.Rows
set_option Elab.async false
set_option maxRecDepth 100000
set_option maxHeartbeats 40000000

theorem ln_3 : True := by
  k_with_none
  k_with "mI" => (first | omega | (simp only [List.length_cons, List.length_nil, List.length_append, List.length_take, List.length_drop, List.length_replicate, List.length_map, List.length_range, S_len, sizeLine_eq]; omega) | (simp only [List.length_cons, List.length_nil, List.length_append, List.length_take, List.length_drop, List.length_replicate, List.length_map, List.length_range, S_len, sizeLine_eq] at *; omega))
  k_with "mItem" => (first
  | ((with_reducible show wpAny _ _ (subscriptTail _ _ (Value.str (S (_ :: _)) _) (Value.int 0 _)) _ _ _); refine r_it0 (by walk_at "mI") ?_)
  | ((with_reducible show wpAny _ _ (subscriptTail _ _ (Value.str (S (_ :: _ :: _)) _) (Value.int 1 _)) _ _ _); refine r_it1 (by walk_at "mI") ?_)
  | ((with_reducible show wpAny _ _ (subscriptTail _ _ (Value.str (S _) _) (Value.int _ _)) _ _ _); refine r_item (by walk_at "mI") (by walk_at "mI") (by walk_at "mI") ?_))
  k_with "mSlice" => (first
  | ((with_reducible show wpAny _ _ (subscriptTail _ (Expr.Slice (some _) none none _) (Value.str (S (_ :: _)) _) _) _ _ _); (with_reducible rename Fr _ _ _ _ => F'); (with_reducible rename News _ _ _ _ => N'); refine r_sl1 (s := ⟨_, _, _, _, _⟩) F' N' (by walk_at "mI") ?_; intro _ _ _ _ _)
  | ((with_reducible show wpAny _ _ (subscriptTail _ (Expr.Slice (some _) (some _) none _) (Value.str (S _) _) _) _ _ _); (with_reducible rename Fr _ _ _ _ => F'); (with_reducible rename News _ _ _ _ => N'); refine r_ss (s := ⟨_, _, _, _, _⟩) F' N' (by walk_at "mI") (by walk_at "mI") (by walk_at "mI") ?_; intro _ _ _ _ _)
  | ((with_reducible show wpAny _ _ (subscriptTail _ (Expr.Slice (some _) none none _) (Value.str (S _) _) _) _ _ _); (with_reducible rename Fr _ _ _ _ => F'); (with_reducible rename News _ _ _ _ => N'); refine r_sn (s := ⟨_, _, _, _, _⟩) F' N' (by walk_at "mI") (by walk_at "mI") ?_; intro _ _ _ _ _)
  | ((with_reducible show wpAny _ _ (subscriptTail _ (Expr.Slice none (some _) none _) (Value.str (S _) _) _) _ _ _); (with_reducible rename Fr _ _ _ _ => F'); (with_reducible rename News _ _ _ _ => N'); refine r_ns (s := ⟨_, _, _, _, _⟩) F' N' (by walk_at "mI") (by walk_at "mI") ?_; intro _ _ _ _ _))
  k_with "subscriptTail" => (first | walk_at "mItem" | walk_at "mSlice")
  k_with "subscriptTail Name Name str int" => (walk_at "mItem")
  k_with "subscriptTail Name Constant str int" => (walk_at "mItem")
  k_with "subscriptTail Name Slice str ref" => (walk_at "mSlice")
  k_with "eval Constant str" => ((first | with_reducible refine r_const lit_bang ?_ | with_reducible refine r_const lit_hat ?_ | with_reducible refine r_const lit_q ?_ | with_reducible refine r_const lit_thorn ?_ | with_reducible refine r_const lit_del ?_ | with_reducible refine r_const lit_ff ?_ | with_reducible refine r_const lit_A ?_ | with_reducible refine r_const lit_hq ?_ | with_reducible refine r_const lit_h9 ?_ | with_reducible refine r_const lit_sp ?_ | with_reducible refine r_const lit_tilde ?_ | with_reducible refine r_const lit_fe ?_ | with_reducible refine r_const lit_hT ?_ | with_reducible refine r_const lit_e ?_ | with_reducible refine r_const lit_marks ?_))
  k_with "call builtin:len" => (first
  | ((with_reducible show wpAny _ _ (call (Value.builtin "len") [Value.str (S [_]) _]) _ _ _); refine r_len1 ?_)
  | ((with_reducible show wpAny _ _ (call (Value.builtin "len") [Value.str (S [_, _]) _]) _ _ _); refine r_len2 ?_)
  | ((with_reducible show wpAny _ _ (call (Value.builtin "len") [Value.str (S [_, _, _]) _]) _ _ _); refine r_len3 ?_)
  | ((with_reducible show wpAny _ _ (call (Value.builtin "len") [Value.str (S _) _]) _ _ _); refine r_len (by walk_at "mI") ?_))
  k_with "compareOp Eq str str" => (((with_reducible show wpAny _ _ (compareOp _ (Value.str (S _) _) (Value.str (S _) _)) _ _ _); refine r_eq ?_))
  k_with "compareOp NotEq str str" => (((with_reducible show wpAny _ _ (compareOp _ (Value.str (S _) _) (Value.str (S _) _)) _ _ _); refine r_ne ?_))
  k_with "compareOp In str str" => (((with_reducible show wpAny _ _ (compareOp _ (Value.str (S _) _) (Value.str (S _) _)) _ _ _); refine r_in ?_))
  k_with "compareOp Gt str str" => (((with_reducible show wpAny _ _ (compareOp _ (Value.str (S _) _) (Value.str (S _) _)) _ _ _); refine r_gt ?_))
  k_with "compareOp LtE str str" => (((with_reducible show wpAny _ _ (compareOp _ (Value.str (S _) _) (Value.str (S _) _)) _ _ _); refine r_le ?_))
  k_with "binaryOp Add str str" => (((with_reducible show wpAny _ _ (binaryOp _ (Value.str (S _) _) (Value.str (S _) _)) _ _ _); refine r_add ?_ (by walk_at "mI"); intro _ _))
  k_with "inplaceOp Add str str" => (((with_reducible show wpAny _ _ (inplaceOp _ (Value.str (S _) _) (Value.str (S _) _)) _ _ _); refine r_iadd ?_ (by walk_at "mI"); intro _ _))
  k_with "call builtin:ord" => (((with_reducible show wpAny _ _ (call (Value.builtin "ord") [Value.str (S _) _]) _ _ _); refine r_ord ?_))
  k_with "call builtin:chr" => ((refine r_chr (by walk_at "mChr") (by walk_at "mChr") ?_))
  k_with "mChr" => (first | omega | (split <;> omega))
  k_with "mRoom" => (((try simp only [depth_mark, depth_under_make, depth_under_kw, depth_in1, depth_deeper, depth_caller, units_in1, units_deeper, Around.mark_units, units_caller]); (try dsimp only [arA]); omega))
  k_with "mClean" => (((try clear hret); (repeat (with_reducible rename Fr _ _ _ _ => x9; clear x9)); (repeat (with_reducible rename News _ _ _ _ => x9; clear x9)); (repeat (with_reducible rename Below _ _ _ _ => x9; clear x9)); (repeat (with_reducible rename Top _ _ _ _ _ _ => x9; clear x9)); (repeat (with_reducible rename Frag.In _ _ => x9; clear x9))))
  k_with "binaryOp BitAnd int int" => (first
  | ((with_reducible show wpAny _ _ (binaryOp _ (Value.int _ _) (Value.int 127 _)) _ _ _); refine r_and127 ?_)
  | ((with_reducible show wpAny _ _ (binaryOp _ (Value.int _ _) (Value.int 31 _)) _ _ _); refine r_and31 ?_)
  | ((with_reducible show wpAny _ _ (binaryOp _ (Value.int _ _) (Value.int 128 _)) _ _ _); refine r_and128 (by omega) ?_ ?_ <;> intro _))
  k_with "binaryOp BitOr int int" => (first
  | ((with_reducible show wpAny _ _ (binaryOp _ (Value.int _ _) (Value.int 32 _)) _ _ _); refine r_or32 (by omega) ?_ ?_ <;> intro _)
  | ((with_reducible show wpAny _ _ (binaryOp _ (Value.int _ _) (Value.int 128 _)) _ _ _); refine r_or128 (by omega) ?_ ?_ <;> intro _))
  k_with "call ref" => ((k_here; (with_reducible show wpAny _ _ (call (Value.ref 28) [Value.int _ _]) _ _ _); k_dflt (refine PCl.use (ctoi_i _ _ _ _ _ _ _ _ ) (by k_asm) (by k_asm) (by k_asm) (by k_asm) (by walk_at "mRoom") (by walk_at "mRoom") ?_; k_whole); (intro t9 h9 tk9 F9 N9); (try dsimp only); (try k_fold)))
  trivial
theorem isprint_i (w : World) (p : Program) (loose : List Str) (mean : ExcName → Option Value) (mg mb : Str → Option Value) (c : Int) (t : Tok) :
  PCl 10 PySem.Challenge.rw_mr0049_02.prog w (hd.heap_39 w.params) p loose mean mg mb 35 [.int c t] (fun _ => .bool (decide (32 ≤ c ∧ c ≤ 126))) := by
  w_top off
  dsimp only [PCl]
  k_fill
  intro dp un fr gd s Q E X T hdp hun hret
  refine wpAny_call ?_
  k_dflt (refine' code_pure ?k3 ?k5 ?k6 ?k7 ?k8 ?k9 ?kB ?_ ?c2 ?c3 ?c4 ?c5; (case k3 => assumption); (case k5 => assumption); (case k6 => k_is); (case k7 => k_is); (case k8 => (show dp < 1000); omega); (case k9 => exact BindsTo.of_eq rfl); (case c5 => decide); (case kB => exact locs rfl); (case c2 => exact rfl); (case c3 => exact rfl); (case c4 => exact rfl); k_whole; intro L' h' F' N')
  k_steps
  all_goals refine pc_retB (s := s) hret ?_ (by k_asm)
  all_goals walk_at "mClean"
  all_goals (rw [Bool.eq_iff_iff]; simp only [decide_eq_true_eq]; omega)

theorem ctrl_i (w : World) (p : Program) (loose : List Str) (mean : ExcName → Option Value) (mg mb : Str → Option Value) (c : Int) (t : Tok) :
  PCl 10 PySem.Challenge.rw_mr0049_02.prog w (hd.heap_39 w.params) p loose mean mg mb 42 [.int c t] (fun t => .int (c % 32) t) := by
  w_top off
  dsimp only [PCl]
  k_fill
  intro dp un fr gd s Q E X T hdp hun hret
  refine wpAny_call ?_
  k_dflt (refine' code_pure ?k3 ?k5 ?k6 ?k7 ?k8 ?k9 ?kB ?_ ?c2 ?c3 ?c4 ?c5; (case k3 => assumption); (case k5 => assumption); (case k6 => k_is); (case k7 => k_is); (case k8 => (show dp < 1000); omega); (case k9 => exact BindsTo.of_eq rfl); (case c5 => decide); (case kB => exact locs rfl); (case c2 => exact rfl); (case c3 => exact rfl); (case c4 => exact rfl); k_whole; intro L' h' F' N')
  k_steps
  all_goals refine pc_retI (s := s) hret ?_ (by k_asm)
  all_goals walk_at "mClean"
  all_goals rfl

theorem alt_i (w : World) (p : Program) (loose : List Str) (mean : ExcName → Option Value) (mg mb : Str → Option Value) (c : Int) (t : Tok) (hc : 0 ≤ c) :
  PCl 10 PySem.Challenge.rw_mr0049_02.prog w (hd.heap_39 w.params) p loose mean mg mb 49 [.int c t] (fun t => .int (altZ c) t) := by
  w_top off
  dsimp only [PCl]
  k_fill
  intro dp un fr gd s Q E X T hdp hun hret
  refine wpAny_call ?_
  k_dflt (refine' code_pure ?k3 ?k5 ?k6 ?k7 ?k8 ?k9 ?kB ?_ ?c2 ?c3 ?c4 ?c5; (case k3 => assumption); (case k5 => assumption); (case k6 => k_is); (case k7 => k_is); (case k8 => (show dp < 1000); omega); (case k9 => exact BindsTo.of_eq rfl); (case c5 => decide); (case kB => exact locs rfl); (case c2 => exact rfl); (case c3 => exact rfl); (case c4 => exact rfl); k_whole; intro L' h' F' N')
  k_steps
  all_goals refine pc_retI (s := s) hret ?_ (by k_asm)
  all_goals walk_at "mClean"
  all_goals (unfold altZ; split <;> omega)
end
section
open PySem PySem.W PyProof.Rows
set_option Elab.async false
set_option maxRecDepth 100000
set_option maxHeartbeats 40000000

theorem ln_4 : True := by
  k_with_none
  k_with "mI" => (first | omega | (simp only [List.length_cons, List.length_nil, List.length_append, List.length_take, List.length_drop, List.length_replicate, List.length_map, List.length_range, S_len, sizeLine_eq]; omega) | (simp only [List.length_cons, List.length_nil, List.length_append, List.length_take, List.length_drop, List.length_replicate, List.length_map, List.length_range, S_len, sizeLine_eq] at *; omega))
  k_with "mItem" => (first
  | ((with_reducible show wpAny _ _ (subscriptTail _ _ (Value.str (S (_ :: _)) _) (Value.int 0 _)) _ _ _); refine r_it0 (by walk_at "mI") ?_)
  | ((with_reducible show wpAny _ _ (subscriptTail _ _ (Value.str (S (_ :: _ :: _)) _) (Value.int 1 _)) _ _ _); refine r_it1 (by walk_at "mI") ?_)
  | ((with_reducible show wpAny _ _ (subscriptTail _ _ (Value.str (S _) _) (Value.int _ _)) _ _ _); refine r_item (by walk_at "mI") (by walk_at "mI") (by walk_at "mI") ?_))
  k_with "mSlice" => (first
  | ((with_reducible show wpAny _ _ (subscriptTail _ (Expr.Slice (some _) none none _) (Value.str (S (_ :: _)) _) _) _ _ _); (with_reducible rename Fr _ _ _ _ => F'); (with_reducible rename News _ _ _ _ => N'); refine r_sl1 (s := ⟨_, _, _, _, _⟩) F' N' (by walk_at "mI") ?_; intro _ _ _ _ _)
  | ((with_reducible show wpAny _ _ (subscriptTail _ (Expr.Slice (some _) (some _) none _) (Value.str (S _) _) _) _ _ _); (with_reducible rename Fr _ _ _ _ => F'); (with_reducible rename News _ _ _ _ => N'); refine r_ss (s := ⟨_, _, _, _, _⟩) F' N' (by walk_at "mI") (by walk_at "mI") (by walk_at "mI") ?_; intro _ _ _ _ _)
  | ((with_reducible show wpAny _ _ (subscriptTail _ (Expr.Slice (some _) none none _) (Value.str (S _) _) _) _ _ _); (with_reducible rename Fr _ _ _ _ => F'); (with_reducible rename News _ _ _ _ => N'); refine r_sn (s := ⟨_, _, _, _, _⟩) F' N' (by walk_at "mI") (by walk_at "mI") ?_; intro _ _ _ _ _)
  | ((with_reducible show wpAny _ _ (subscriptTail _ (Expr.Slice none (some _) none _) (Value.str (S _) _) _) _ _ _); (with_reducible rename Fr _ _ _ _ => F'); (with_reducible rename News _ _ _ _ => N'); refine r_ns (s := ⟨_, _, _, _, _⟩) F' N' (by walk_at "mI") (by walk_at "mI") ?_; intro _ _ _ _ _))
  k_with "subscriptTail" => (first | walk_at "mItem" | walk_at "mSlice")
  k_with "subscriptTail Name Name str int" => (walk_at "mItem")
  k_with "subscriptTail Name Constant str int" => (walk_at "mItem")
  k_with "subscriptTail Name Slice str ref" => (walk_at "mSlice")
  k_with "eval Constant str" => ((first | with_reducible refine r_const lit_bang ?_ | with_reducible refine r_const lit_hat ?_ | with_reducible refine r_const lit_q ?_ | with_reducible refine r_const lit_thorn ?_ | with_reducible refine r_const lit_del ?_ | with_reducible refine r_const lit_ff ?_ | with_reducible refine r_const lit_A ?_ | with_reducible refine r_const lit_hq ?_ | with_reducible refine r_const lit_h9 ?_ | with_reducible refine r_const lit_sp ?_ | with_reducible refine r_const lit_tilde ?_ | with_reducible refine r_const lit_fe ?_ | with_reducible refine r_const lit_hT ?_ | with_reducible refine r_const lit_e ?_ | with_reducible refine r_const lit_marks ?_))
  k_with "call builtin:len" => (first
  | ((with_reducible show wpAny _ _ (call (Value.builtin "len") [Value.str (S [_]) _]) _ _ _); refine r_len1 ?_)
  | ((with_reducible show wpAny _ _ (call (Value.builtin "len") [Value.str (S [_, _]) _]) _ _ _); refine r_len2 ?_)
  | ((with_reducible show wpAny _ _ (call (Value.builtin "len") [Value.str (S [_, _, _]) _]) _ _ _); refine r_len3 ?_)
  | ((with_reducible show wpAny _ _ (call (Value.builtin "len") [Value.str (S _) _]) _ _ _); refine r_len (by walk_at "mI") ?_))
  k_with "compareOp Eq str str" => (((with_reducible show wpAny _ _ (compareOp _ (Value.str (S _) _) (Value.str (S _) _)) _ _ _); refine r_eq ?_))
  k_with "compareOp NotEq str str" => (((with_reducible show wpAny _ _ (compareOp _ (Value.str (S _) _) (Value.str (S _) _)) _ _ _); refine r_ne ?_))
  k_with "compareOp In str str" => (((with_reducible show wpAny _ _ (compareOp _ (Value.str (S _) _) (Value.str (S _) _)) _ _ _); refine r_in ?_))
  k_with "compareOp Gt str str" => (((with_reducible show wpAny _ _ (compareOp _ (Value.str (S _) _) (Value.str (S _) _)) _ _ _); refine r_gt ?_))
  k_with "compareOp LtE str str" => (((with_reducible show wpAny _ _ (compareOp _ (Value.str (S _) _) (Value.str (S _) _)) _ _ _); refine r_le ?_))
  k_with "binaryOp Add str str" => (((with_reducible show wpAny _ _ (binaryOp _ (Value.str (S _) _) (Value.str (S _) _)) _ _ _); refine r_add ?_ (by walk_at "mI"); intro _ _))
  k_with "inplaceOp Add str str" => (((with_reducible show wpAny _ _ (inplaceOp _ (Value.str (S _) _) (Value.str (S _) _)) _ _ _); refine r_iadd ?_ (by walk_at "mI"); intro _ _))
  k_with "call builtin:ord" => (((with_reducible show wpAny _ _ (call (Value.builtin "ord") [Value.str (S _) _]) _ _ _); refine r_ord ?_))
  k_with "call builtin:chr" => ((refine r_chr (by walk_at "mChr") (by walk_at "mChr") ?_))
  k_with "mChr" => (first | omega | (split <;> omega))
  k_with "mRoom" => (((try simp only [depth_mark, depth_under_make, depth_under_kw, depth_in1, depth_deeper, depth_caller, units_in1, units_deeper, Around.mark_units, units_caller]); (try dsimp only [arA]); omega))
  k_with "mClean" => (((try clear hret); (repeat (with_reducible rename Fr _ _ _ _ => x9; clear x9)); (repeat (with_reducible rename News _ _ _ _ => x9; clear x9)); (repeat (with_reducible rename Below _ _ _ _ => x9; clear x9)); (repeat (with_reducible rename Top _ _ _ _ _ _ => x9; clear x9)); (repeat (with_reducible rename Frag.In _ _ => x9; clear x9))))
  k_with "binaryOp BitAnd int int" => (first
  | ((with_reducible show wpAny _ _ (binaryOp _ (Value.int _ _) (Value.int 127 _)) _ _ _); refine r_and127 ?_)
  | ((with_reducible show wpAny _ _ (binaryOp _ (Value.int _ _) (Value.int 31 _)) _ _ _); refine r_and31 ?_)
  | ((with_reducible show wpAny _ _ (binaryOp _ (Value.int _ _) (Value.int 128 _)) _ _ _); refine r_and128 (by omega) ?_ ?_ <;> intro _))
  k_with "binaryOp BitOr int int" => (first
  | ((with_reducible show wpAny _ _ (binaryOp _ (Value.int _ _) (Value.int 32 _)) _ _ _); refine r_or32 (by omega) ?_ ?_ <;> intro _)
  | ((with_reducible show wpAny _ _ (binaryOp _ (Value.int _ _) (Value.int 128 _)) _ _ _); refine r_or128 (by omega) ?_ ?_ <;> intro _))
  k_with "call ref" => ((k_here; (with_reducible show wpAny _ _ (call (Value.ref 28) [Value.int _ _]) _ _ _); k_dflt (refine PCl.use (ctoi_i _ _ _ _ _ _ _ _ ) (by k_asm) (by k_asm) (by k_asm) (by k_asm) (by walk_at "mRoom") (by walk_at "mRoom") ?_; k_whole); (intro t9 h9 tk9 F9 N9); (try dsimp only); (try k_fold)))
  k_with "call ref" => ((k_here; (with_reducible show wpAny _ _ (call (Value.ref 35) [Value.int _ _]) _ _ _); k_dflt (refine PCl.use (isprint_i _ _ _ _ _ _ _ _ ) (by k_asm) (by k_asm) (by k_asm) (by k_asm) (by walk_at "mRoom") (by walk_at "mRoom") ?_; k_whole); (intro t9 h9 tk9 F9 N9); (try dsimp only); (try k_fold)))
  k_with "call ref" => ((k_here; (with_reducible show wpAny _ _ (call (Value.ref 42) [Value.int _ _]) _ _ _); k_dflt (refine PCl.use (ctrl_i _ _ _ _ _ _ _ _ ) (by k_asm) (by k_asm) (by k_asm) (by k_asm) (by walk_at "mRoom") (by walk_at "mRoom") ?_; k_whole); (intro t9 h9 tk9 F9 N9); (try dsimp only); (try k_fold)))
  k_with "call ref" => ((k_here; (with_reducible show wpAny _ _ (call (Value.ref 49) [Value.int _ _]) _ _ _); k_dflt (refine PCl.use (alt_i _ _ _ _ _ _ _ _ (by walk_at "mI")) (by k_asm) (by k_asm) (by k_asm) (by k_asm) (by walk_at "mRoom") (by walk_at "mRoom") ?_; k_whole); (intro t9 h9 tk9 F9 N9); (try dsimp only); (try k_fold)))
  trivial
theorem unctrl_i (w : World) (p : Program) (loose : List Str) (mean : ExcName → Option Value) (mg mb : Str → Option Value) (c : Nat) (t : Tok) :
  PCl 15 PySem.Challenge.rw_mr0049_02.prog w (hd.heap_39 w.params) p loose mean mg mb 56 [.int (c : Int) t] (fun t => .str (S (uncL c)) t) := by
  w_top off
  dsimp only [PCl]
  k_fill
  intro dp un fr gd s Q E X T hdp hun hret
  refine wpAny_call ?_
  k_dflt (refine' code_pure ?k3 ?k5 ?k6 ?k7 ?k8 ?k9 ?kB ?_ ?c2 ?c3 ?c4 ?c5; (case k3 => assumption); (case k5 => assumption); (case k6 => k_is); (case k7 => k_is); (case k8 => (show dp < 1000); omega); (case k9 => exact BindsTo.of_eq rfl); (case c5 => decide); (case kB => exact locs rfl); (case c2 => exact rfl); (case c3 => exact rfl); (case c4 => exact rfl); k_whole; intro L' h' F' N')
  k_steps
  all_goals refine pc_retS (s := s) hret ?_ (by k_asm)
  all_goals walk_at "mClean"
  all_goals (rw [S_inj]; unfold uncL; (repeat' split) <;> first | omega | (simp; omega) | simp)
end
section
open PySem PySem.W PyProof.Rows
set_option Elab.async false
set_option maxRecDepth 100000
set_option maxHeartbeats 40000000

theorem ln_5 : True := by
  k_with_none
  k_with "mI" => (first | omega | (simp only [List.length_cons, List.length_nil, List.length_append, List.length_take, List.length_drop, List.length_replicate, List.length_map, List.length_range, S_len, sizeLine_eq]; omega) | (simp only [List.length_cons, List.length_nil, List.length_append, List.length_take, List.length_drop, List.length_replicate, List.length_map, List.length_range, S_len, sizeLine_eq] at *; omega))
  k_with "mItem" => (first
  | ((with_reducible show wpAny _ _ (subscriptTail _ _ (Value.str (S (_ :: _)) _) (Value.int 0 _)) _ _ _); refine r_it0 (by walk_at "mI") ?_)
  | ((with_reducible show wpAny _ _ (subscriptTail _ _ (Value.str (S (_ :: _ :: _)) _) (Value.int 1 _)) _ _ _); refine r_it1 (by walk_at "mI") ?_)
  | ((with_reducible show wpAny _ _ (subscriptTail _ _ (Value.str (S _) _) (Value.int _ _)) _ _ _); refine r_item (by walk_at "mI") (by walk_at "mI") (by walk_at "mI") ?_))
  k_with "mSlice" => (first
  | ((with_reducible show wpAny _ _ (subscriptTail _ (Expr.Slice (some _) none none _) (Value.str (S (_ :: _)) _) _) _ _ _); (with_reducible rename Fr _ _ _ _ => F'); (with_reducible rename News _ _ _ _ => N'); refine r_sl1 (s := ⟨_, _, _, _, _⟩) F' N' (by walk_at "mI") ?_; intro _ _ _ _ _)
  | ((with_reducible show wpAny _ _ (subscriptTail _ (Expr.Slice (some _) (some _) none _) (Value.str (S _) _) _) _ _ _); (with_reducible rename Fr _ _ _ _ => F'); (with_reducible rename News _ _ _ _ => N'); refine r_ss (s := ⟨_, _, _, _, _⟩) F' N' (by walk_at "mI") (by walk_at "mI") (by walk_at "mI") ?_; intro _ _ _ _ _)
  | ((with_reducible show wpAny _ _ (subscriptTail _ (Expr.Slice (some _) none none _) (Value.str (S _) _) _) _ _ _); (with_reducible rename Fr _ _ _ _ => F'); (with_reducible rename News _ _ _ _ => N'); refine r_sn (s := ⟨_, _, _, _, _⟩) F' N' (by walk_at "mI") (by walk_at "mI") ?_; intro _ _ _ _ _)
  | ((with_reducible show wpAny _ _ (subscriptTail _ (Expr.Slice none (some _) none _) (Value.str (S _) _) _) _ _ _); (with_reducible rename Fr _ _ _ _ => F'); (with_reducible rename News _ _ _ _ => N'); refine r_ns (s := ⟨_, _, _, _, _⟩) F' N' (by walk_at "mI") (by walk_at "mI") ?_; intro _ _ _ _ _))
  k_with "subscriptTail" => (first | walk_at "mItem" | walk_at "mSlice")
  k_with "subscriptTail Name Name str int" => (walk_at "mItem")
  k_with "subscriptTail Name Constant str int" => (walk_at "mItem")
  k_with "subscriptTail Name Slice str ref" => (walk_at "mSlice")
  k_with "eval Constant str" => ((first | with_reducible refine r_const lit_bang ?_ | with_reducible refine r_const lit_hat ?_ | with_reducible refine r_const lit_q ?_ | with_reducible refine r_const lit_thorn ?_ | with_reducible refine r_const lit_del ?_ | with_reducible refine r_const lit_ff ?_ | with_reducible refine r_const lit_A ?_ | with_reducible refine r_const lit_hq ?_ | with_reducible refine r_const lit_h9 ?_ | with_reducible refine r_const lit_sp ?_ | with_reducible refine r_const lit_tilde ?_ | with_reducible refine r_const lit_fe ?_ | with_reducible refine r_const lit_hT ?_ | with_reducible refine r_const lit_e ?_ | with_reducible refine r_const lit_marks ?_))
  k_with "call builtin:len" => (first
  | ((with_reducible show wpAny _ _ (call (Value.builtin "len") [Value.str (S [_]) _]) _ _ _); refine r_len1 ?_)
  | ((with_reducible show wpAny _ _ (call (Value.builtin "len") [Value.str (S [_, _]) _]) _ _ _); refine r_len2 ?_)
  | ((with_reducible show wpAny _ _ (call (Value.builtin "len") [Value.str (S [_, _, _]) _]) _ _ _); refine r_len3 ?_)
  | ((with_reducible show wpAny _ _ (call (Value.builtin "len") [Value.str (S _) _]) _ _ _); refine r_len (by walk_at "mI") ?_))
  k_with "compareOp Eq str str" => (((with_reducible show wpAny _ _ (compareOp _ (Value.str (S _) _) (Value.str (S _) _)) _ _ _); refine r_eq ?_))
  k_with "compareOp NotEq str str" => (((with_reducible show wpAny _ _ (compareOp _ (Value.str (S _) _) (Value.str (S _) _)) _ _ _); refine r_ne ?_))
  k_with "compareOp In str str" => (((with_reducible show wpAny _ _ (compareOp _ (Value.str (S _) _) (Value.str (S _) _)) _ _ _); refine r_in ?_))
  k_with "compareOp Gt str str" => (((with_reducible show wpAny _ _ (compareOp _ (Value.str (S _) _) (Value.str (S _) _)) _ _ _); refine r_gt ?_))
  k_with "compareOp LtE str str" => (((with_reducible show wpAny _ _ (compareOp _ (Value.str (S _) _) (Value.str (S _) _)) _ _ _); refine r_le ?_))
  k_with "binaryOp Add str str" => (((with_reducible show wpAny _ _ (binaryOp _ (Value.str (S _) _) (Value.str (S _) _)) _ _ _); refine r_add ?_ (by walk_at "mI"); intro _ _))
  k_with "inplaceOp Add str str" => (((with_reducible show wpAny _ _ (inplaceOp _ (Value.str (S _) _) (Value.str (S _) _)) _ _ _); refine r_iadd ?_ (by walk_at "mI"); intro _ _))
  k_with "call builtin:ord" => (((with_reducible show wpAny _ _ (call (Value.builtin "ord") [Value.str (S _) _]) _ _ _); refine r_ord ?_))
  k_with "call builtin:chr" => ((refine r_chr (by walk_at "mChr") (by walk_at "mChr") ?_))
  k_with "mChr" => (first | omega | (split <;> omega))
  k_with "mRoom" => (((try simp only [depth_mark, depth_under_make, depth_under_kw, depth_in1, depth_deeper, depth_caller, units_in1, units_deeper, Around.mark_units, units_caller]); (try dsimp only [arA]); omega))
  k_with "mClean" => (((try clear hret); (repeat (with_reducible rename Fr _ _ _ _ => x9; clear x9)); (repeat (with_reducible rename News _ _ _ _ => x9; clear x9)); (repeat (with_reducible rename Below _ _ _ _ => x9; clear x9)); (repeat (with_reducible rename Top _ _ _ _ _ _ => x9; clear x9)); (repeat (with_reducible rename Frag.In _ _ => x9; clear x9))))
  k_with "binaryOp BitAnd int int" => (first
  | ((with_reducible show wpAny _ _ (binaryOp _ (Value.int _ _) (Value.int 127 _)) _ _ _); refine r_and127 ?_)
  | ((with_reducible show wpAny _ _ (binaryOp _ (Value.int _ _) (Value.int 31 _)) _ _ _); refine r_and31 ?_)
  | ((with_reducible show wpAny _ _ (binaryOp _ (Value.int _ _) (Value.int 128 _)) _ _ _); refine r_and128 (by omega) ?_ ?_ <;> intro _))
  k_with "binaryOp BitOr int int" => (first
  | ((with_reducible show wpAny _ _ (binaryOp _ (Value.int _ _) (Value.int 32 _)) _ _ _); refine r_or32 (by omega) ?_ ?_ <;> intro _)
  | ((with_reducible show wpAny _ _ (binaryOp _ (Value.int _ _) (Value.int 128 _)) _ _ _); refine r_or128 (by omega) ?_ ?_ <;> intro _))
  k_with "eval Constant str" => ((first | with_reducible refine r_const lit_q9 ?_ | with_reducible refine r_const lit_marks2 ?_))
  k_with "call ref" => ((k_here; (with_reducible show wpAny _ _ (call (Value.ref 28) [Value.int _ _]) _ _ _); k_dflt (refine PCl.use (ctoi_i _ _ _ _ _ _ _ _ ) (by k_asm) (by k_asm) (by k_asm) (by k_asm) (by walk_at "mRoom") (by walk_at "mRoom") ?_; k_whole); (intro t9 h9 tk9 F9 N9); (try dsimp only); (try k_fold)))
  k_with "call ref" => ((k_here; (with_reducible show wpAny _ _ (call (Value.ref 35) [Value.int _ _]) _ _ _); k_dflt (refine PCl.use (isprint_i _ _ _ _ _ _ _ _ ) (by k_asm) (by k_asm) (by k_asm) (by k_asm) (by walk_at "mRoom") (by walk_at "mRoom") ?_; k_whole); (intro t9 h9 tk9 F9 N9); (try dsimp only); (try k_fold)))
  k_with "call ref" => ((k_here; (with_reducible show wpAny _ _ (call (Value.ref 42) [Value.int _ _]) _ _ _); k_dflt (refine PCl.use (ctrl_i _ _ _ _ _ _ _ _ ) (by k_asm) (by k_asm) (by k_asm) (by k_asm) (by walk_at "mRoom") (by walk_at "mRoom") ?_; k_whole); (intro t9 h9 tk9 F9 N9); (try dsimp only); (try k_fold)))
  k_with "call ref" => ((k_here; (with_reducible show wpAny _ _ (call (Value.ref 49) [Value.int _ _]) _ _ _); k_dflt (refine PCl.use (alt_i _ _ _ _ _ _ _ _ (by walk_at "mI")) (by k_asm) (by k_asm) (by k_asm) (by k_asm) (by walk_at "mRoom") (by walk_at "mRoom") ?_; k_whole); (intro t9 h9 tk9 F9 N9); (try dsimp only); (try k_fold)))
  k_with "call ref" => ((k_here; (with_reducible show wpAny _ _ (call (Value.ref 56) [Value.int _ _]) _ _ _); k_dflt (refine PCl.use (unctrl_i _ _ _ _ _ _ _ _ ) (by k_asm) (by k_asm) (by k_asm) (by k_asm) (by walk_at "mRoom") (by walk_at "mRoom") ?_; k_whole); (intro t9 h9 tk9 F9 N9); (try dsimp only); (try k_fold)))
  trivial
def sizeL (l : List Nat) (k : Nat) : Nat :=
  let ahead := if l.getD k 0 = 33 ∧ k + 1 < l.length then 1 else 0
  let two := (l.drop (k + ahead)).take 2
  if two.length = 2 ∧ two.getD 0 0 = 94 ∧ ((63 ≤ two.getD 1 0 ∧ two.getD 1 0 ≤ 95) ∨ two.getD 1 0 = 159) then ahead + 2 else ahead + 1
theorem mem_marks2 (c : Nat) : c ∈ (List.range 33).map (63 + ·) ++ [159] ↔ (63 ≤ c ∧ c ≤ 95) ∨ c = 159 := by
  rw [List.mem_append, mem_marks]; simp
theorem size_1 (l : List Nat) (k : Int) (h0 : 0 ≤ k) : sizeL l k.toNat = 
   if [l.getD k.toNat 0] = [33] ∧ k + 1 < l.length then 
     (if ((List.take ((k + 1 + 2).toNat - (k + 1).toNat) (List.drop (k + 1).toNat l)).length : Int) = 2 ∧ [(List.take ((k + 1 + 2).toNat - (k + 1).toNat) (List.drop (k + 1).toNat l)).getD (Int.toNat 0) 0] = [94] ∧ (List.take ((k + 1 + 2).toNat - (k + 1).toNat) (List.drop (k + 1).toNat l)).getD (Int.toNat 1) 0 ∈ (List.range 33).map (63 + ·) ++ [159] then 3 else 2)
   else (if ((List.take ((k + 0 + 2).toNat - (k + 0).toNat) (List.drop (k + 0).toNat l)).length : Int) = 2 ∧ [(List.take ((k + 0 + 2).toNat - (k + 0).toNat) (List.drop (k + 0).toNat l)).getD (Int.toNat 0) 0] = [94] ∧ (List.take ((k + 0 + 2).toNat - (k + 0).toNat) (List.drop (k + 0).toNat l)).getD (Int.toNat 1) 0 ∈ (List.range 33).map (63 + ·) ++ [159] then 2 else 1) := by
  obtain ⟨n, rfl⟩ := Int.eq_ofNat_of_zero_le h0
  unfold sizeL
  have c : ∀ x : Nat, (((x : Nat) : Int) = 2) ↔ (x = 2) := fun x => by omega
  simp only [c, mem_marks2, Int.toNat_natCast, Int.add_zero, show (((n : Int) + 1).toNat) = n + 1 by omega, show (((n : Int) + 1 + 2).toNat) - (n + 1) = 2 by omega, show (((n : Int) + 2).toNat) - n = 2 by omega, List.cons.injEq, and_true, Int.toNat_zero, Int.toNat_one, show ((n : Int) + 1 < (l.length : Int)) ↔ n + 1 < l.length by omega]
  split <;> simp

theorem size_ok (w : World) (p : Program) (loose : List Str) (mean : ExcName → Option Value) (mg mb : Str → Option Value) (l : List Nat) (t : Tok) (k : Int) (u : Tok) (h0 : 0 ≤ k) (h1 : k < (l.length : Int)) (hl : l.length < 1000) :
  PCl 10 PySem.Challenge.rw_mr0049_02.prog w (hd.heap_39 w.params) p loose mean mg mb 70 [.str (S l) t, .int k u] (fun t => .int (sizeL l k.toNat) t) := by
  w_top off
  dsimp only [PCl]
  k_fill
  intro dp un fr gd s Q E X T hdp hun hret
  refine wpAny_call ?_
  k_dflt (refine' code_pure ?k3 ?k5 ?k6 ?k7 ?k8 ?k9 ?kB ?_ ?c2 ?c3 ?c4 ?c5; (case k3 => assumption); (case k5 => assumption); (case k6 => k_is); (case k7 => k_is); (case k8 => (show dp < 1000); omega); (case k9 => exact BindsTo.of_eq rfl); (case c5 => decide); (case kB => exact locs rfl); (case c2 => exact rfl); (case c3 => exact rfl); (case c4 => exact rfl); k_whole; intro L' h' F' N')
  k_steps
  all_goals refine pc_retI (s := s) hret ?_ (by k_asm)
  all_goals walk_at "mClean"
  all_goals rw [size_1 l k h0]
  all_goals (simp only [*, ne_eq, eq_self, not_false_eq_true, and_self, and_true, true_and, and_false, false_and, if_true, if_false, not_true_eq_false]; try rfl)

def rdZ (m : Nat) : Nat := if m = 63 ∨ m = 159 then 127 else m % 32

theorem read_2 (w : World) (p : Program) (loose : List Str) (mean : ExcName → Option Value) (mg mb : Str → Option Value) (m : Nat) (t : Tok) :
  PCl 20 PySem.Challenge.rw_mr0049_02.prog w (hd.heap_39 w.params) p loose mean mg mb 84 [.str (S [94, m]) t] (fun t => .int (rdZ m : Nat) t) := by
  w_top off
  dsimp only [PCl]
  k_fill
  intro dp un fr gd s Q E X T hdp hun hret
  refine wpAny_call ?_
  k_dflt (refine' code_pure ?k3 ?k5 ?k6 ?k7 ?k8 ?k9 ?kB ?_ ?c2 ?c3 ?c4 ?c5; (case k3 => assumption); (case k5 => assumption); (case k6 => k_is); (case k7 => k_is); (case k8 => (show dp < 1000); omega); (case k9 => exact BindsTo.of_eq rfl); (case c5 => decide); (case kB => exact locs rfl); (case c2 => exact rfl); (case c3 => exact rfl); (case c4 => exact rfl); k_whole; intro L' h' F' N')
  k_steps
  all_goals refine pc_retI (s := s) hret ?_ (by k_asm)
  all_goals walk_at "mClean"
  all_goals first | (exfalso; simp at *; done) | (unfold rdZ; simp_all; done)

theorem read_0 (w : World) (p : Program) (loose : List Str) (mean : ExcName → Option Value) (mg mb : Str → Option Value) (m : Nat) (t : Tok) :
  PCl 15 PySem.Challenge.rw_mr0049_02.prog w (hd.heap_39 w.params) p loose mean mg mb 84 [.str (S [m]) t] (fun t => .int (m : Nat) t) := by
  w_top off
  dsimp only [PCl]
  k_fill
  intro dp un fr gd s Q E X T hdp hun hret
  refine wpAny_call ?_
  k_dflt (refine' code_pure ?k3 ?k5 ?k6 ?k7 ?k8 ?k9 ?kB ?_ ?c2 ?c3 ?c4 ?c5; (case k3 => assumption); (case k5 => assumption); (case k6 => k_is); (case k7 => k_is); (case k8 => (show dp < 1000); omega); (case k9 => exact BindsTo.of_eq rfl); (case c5 => decide); (case kB => exact locs rfl); (case c2 => exact rfl); (case c3 => exact rfl); (case c4 => exact rfl); k_whole; intro L' h' F' N')
  k_steps
  all_goals refine pc_retI (s := s) hret ?_ (by k_asm)
  all_goals walk_at "mClean"
  all_goals first | (exfalso; simp at *; done) | rfl
end
section
open PySem PySem.W PyProof.Rows
set_option Elab.async false
set_option maxRecDepth 100000
set_option maxHeartbeats 40000000

theorem ln_6 : True := by
  k_with_none
  k_with "mI" => (first | omega | (simp only [List.length_cons, List.length_nil, List.length_append, List.length_take, List.length_drop, List.length_replicate, List.length_map, List.length_range, S_len, sizeLine_eq]; omega) | (simp only [List.length_cons, List.length_nil, List.length_append, List.length_take, List.length_drop, List.length_replicate, List.length_map, List.length_range, S_len, sizeLine_eq] at *; omega))
  k_with "mItem" => (first
  | ((with_reducible show wpAny _ _ (subscriptTail _ _ (Value.str (S (_ :: _)) _) (Value.int 0 _)) _ _ _); refine r_it0 (by walk_at "mI") ?_)
  | ((with_reducible show wpAny _ _ (subscriptTail _ _ (Value.str (S (_ :: _ :: _)) _) (Value.int 1 _)) _ _ _); refine r_it1 (by walk_at "mI") ?_)
  | ((with_reducible show wpAny _ _ (subscriptTail _ _ (Value.str (S _) _) (Value.int _ _)) _ _ _); refine r_item (by walk_at "mI") (by walk_at "mI") (by walk_at "mI") ?_))
  k_with "mSlice" => (first
  | ((with_reducible show wpAny _ _ (subscriptTail _ (Expr.Slice (some _) none none _) (Value.str (S (_ :: _)) _) _) _ _ _); (with_reducible rename Fr _ _ _ _ => F'); (with_reducible rename News _ _ _ _ => N'); refine r_sl1 (s := ⟨_, _, _, _, _⟩) F' N' (by walk_at "mI") ?_; intro _ _ _ _ _)
  | ((with_reducible show wpAny _ _ (subscriptTail _ (Expr.Slice (some _) (some _) none _) (Value.str (S _) _) _) _ _ _); (with_reducible rename Fr _ _ _ _ => F'); (with_reducible rename News _ _ _ _ => N'); refine r_ss (s := ⟨_, _, _, _, _⟩) F' N' (by walk_at "mI") (by walk_at "mI") (by walk_at "mI") ?_; intro _ _ _ _ _)
  | ((with_reducible show wpAny _ _ (subscriptTail _ (Expr.Slice (some _) none none _) (Value.str (S _) _) _) _ _ _); (with_reducible rename Fr _ _ _ _ => F'); (with_reducible rename News _ _ _ _ => N'); refine r_sn (s := ⟨_, _, _, _, _⟩) F' N' (by walk_at "mI") (by walk_at "mI") ?_; intro _ _ _ _ _)
  | ((with_reducible show wpAny _ _ (subscriptTail _ (Expr.Slice none (some _) none _) (Value.str (S _) _) _) _ _ _); (with_reducible rename Fr _ _ _ _ => F'); (with_reducible rename News _ _ _ _ => N'); refine r_ns (s := ⟨_, _, _, _, _⟩) F' N' (by walk_at "mI") (by walk_at "mI") ?_; intro _ _ _ _ _))
  k_with "subscriptTail" => (first | walk_at "mItem" | walk_at "mSlice")
  k_with "subscriptTail Name Name str int" => (walk_at "mItem")
  k_with "subscriptTail Name Constant str int" => (walk_at "mItem")
  k_with "subscriptTail Name Slice str ref" => (walk_at "mSlice")
  k_with "eval Constant str" => ((first | with_reducible refine r_const lit_bang ?_ | with_reducible refine r_const lit_hat ?_ | with_reducible refine r_const lit_q ?_ | with_reducible refine r_const lit_thorn ?_ | with_reducible refine r_const lit_del ?_ | with_reducible refine r_const lit_ff ?_ | with_reducible refine r_const lit_A ?_ | with_reducible refine r_const lit_hq ?_ | with_reducible refine r_const lit_h9 ?_ | with_reducible refine r_const lit_sp ?_ | with_reducible refine r_const lit_tilde ?_ | with_reducible refine r_const lit_fe ?_ | with_reducible refine r_const lit_hT ?_ | with_reducible refine r_const lit_e ?_ | with_reducible refine r_const lit_marks ?_))
  k_with "call builtin:len" => (first
  | ((with_reducible show wpAny _ _ (call (Value.builtin "len") [Value.str (S [_]) _]) _ _ _); refine r_len1 ?_)
  | ((with_reducible show wpAny _ _ (call (Value.builtin "len") [Value.str (S [_, _]) _]) _ _ _); refine r_len2 ?_)
  | ((with_reducible show wpAny _ _ (call (Value.builtin "len") [Value.str (S [_, _, _]) _]) _ _ _); refine r_len3 ?_)
  | ((with_reducible show wpAny _ _ (call (Value.builtin "len") [Value.str (S _) _]) _ _ _); refine r_len (by walk_at "mI") ?_))
  k_with "compareOp Eq str str" => (((with_reducible show wpAny _ _ (compareOp _ (Value.str (S _) _) (Value.str (S _) _)) _ _ _); refine r_eq ?_))
  k_with "compareOp NotEq str str" => (((with_reducible show wpAny _ _ (compareOp _ (Value.str (S _) _) (Value.str (S _) _)) _ _ _); refine r_ne ?_))
  k_with "compareOp In str str" => (((with_reducible show wpAny _ _ (compareOp _ (Value.str (S _) _) (Value.str (S _) _)) _ _ _); refine r_in ?_))
  k_with "compareOp Gt str str" => (((with_reducible show wpAny _ _ (compareOp _ (Value.str (S _) _) (Value.str (S _) _)) _ _ _); refine r_gt ?_))
  k_with "compareOp LtE str str" => (((with_reducible show wpAny _ _ (compareOp _ (Value.str (S _) _) (Value.str (S _) _)) _ _ _); refine r_le ?_))
  k_with "binaryOp Add str str" => (((with_reducible show wpAny _ _ (binaryOp _ (Value.str (S _) _) (Value.str (S _) _)) _ _ _); refine r_add ?_ (by walk_at "mI"); intro _ _))
  k_with "inplaceOp Add str str" => (((with_reducible show wpAny _ _ (inplaceOp _ (Value.str (S _) _) (Value.str (S _) _)) _ _ _); refine r_iadd ?_ (by walk_at "mI"); intro _ _))
  k_with "call builtin:ord" => (((with_reducible show wpAny _ _ (call (Value.builtin "ord") [Value.str (S _) _]) _ _ _); refine r_ord ?_))
  k_with "call builtin:chr" => ((refine r_chr (by walk_at "mChr") (by walk_at "mChr") ?_))
  k_with "mChr" => (first | omega | (split <;> omega))
  k_with "mRoom" => (((try simp only [depth_mark, depth_under_make, depth_under_kw, depth_in1, depth_deeper, depth_caller, units_in1, units_deeper, Around.mark_units, units_caller]); (try dsimp only [arA]); omega))
  k_with "mClean" => (((try clear hret); (repeat (with_reducible rename Fr _ _ _ _ => x9; clear x9)); (repeat (with_reducible rename News _ _ _ _ => x9; clear x9)); (repeat (with_reducible rename Below _ _ _ _ => x9; clear x9)); (repeat (with_reducible rename Top _ _ _ _ _ _ => x9; clear x9)); (repeat (with_reducible rename Frag.In _ _ => x9; clear x9))))
  k_with "binaryOp BitAnd int int" => (first
  | ((with_reducible show wpAny _ _ (binaryOp _ (Value.int _ _) (Value.int 127 _)) _ _ _); refine r_and127 ?_)
  | ((with_reducible show wpAny _ _ (binaryOp _ (Value.int _ _) (Value.int 31 _)) _ _ _); refine r_and31 ?_)
  | ((with_reducible show wpAny _ _ (binaryOp _ (Value.int _ _) (Value.int 128 _)) _ _ _); refine r_and128 (by omega) ?_ ?_ <;> intro _))
  k_with "binaryOp BitOr int int" => (first
  | ((with_reducible show wpAny _ _ (binaryOp _ (Value.int _ _) (Value.int 32 _)) _ _ _); refine r_or32 (by omega) ?_ ?_ <;> intro _)
  | ((with_reducible show wpAny _ _ (binaryOp _ (Value.int _ _) (Value.int 128 _)) _ _ _); refine r_or128 (by omega) ?_ ?_ <;> intro _))
  k_with "eval Constant str" => ((first | with_reducible refine r_const lit_q9 ?_ | with_reducible refine r_const lit_marks2 ?_))
  k_with "call ref" => ((k_here; (with_reducible show wpAny _ _ (call (Value.ref 28) [Value.int _ _]) _ _ _); k_dflt (refine PCl.use (ctoi_i _ _ _ _ _ _ _ _ ) (by k_asm) (by k_asm) (by k_asm) (by k_asm) (by walk_at "mRoom") (by walk_at "mRoom") ?_; k_whole); (intro t9 h9 tk9 F9 N9); (try dsimp only); (try k_fold)))
  k_with "call ref" => ((k_here; (with_reducible show wpAny _ _ (call (Value.ref 35) [Value.int _ _]) _ _ _); k_dflt (refine PCl.use (isprint_i _ _ _ _ _ _ _ _ ) (by k_asm) (by k_asm) (by k_asm) (by k_asm) (by walk_at "mRoom") (by walk_at "mRoom") ?_; k_whole); (intro t9 h9 tk9 F9 N9); (try dsimp only); (try k_fold)))
  k_with "call ref" => ((k_here; (with_reducible show wpAny _ _ (call (Value.ref 42) [Value.int _ _]) _ _ _); k_dflt (refine PCl.use (ctrl_i _ _ _ _ _ _ _ _ ) (by k_asm) (by k_asm) (by k_asm) (by k_asm) (by walk_at "mRoom") (by walk_at "mRoom") ?_; k_whole); (intro t9 h9 tk9 F9 N9); (try dsimp only); (try k_fold)))
  k_with "call ref" => ((k_here; (with_reducible show wpAny _ _ (call (Value.ref 49) [Value.int _ _]) _ _ _); k_dflt (refine PCl.use (alt_i _ _ _ _ _ _ _ _ (by walk_at "mI")) (by k_asm) (by k_asm) (by k_asm) (by k_asm) (by walk_at "mRoom") (by walk_at "mRoom") ?_; k_whole); (intro t9 h9 tk9 F9 N9); (try dsimp only); (try k_fold)))
  k_with "call ref" => ((k_here; (with_reducible show wpAny _ _ (call (Value.ref 56) [Value.int _ _]) _ _ _); k_dflt (refine PCl.use (unctrl_i _ _ _ _ _ _ _ _ ) (by k_asm) (by k_asm) (by k_asm) (by k_asm) (by walk_at "mRoom") (by walk_at "mRoom") ?_; k_whole); (intro t9 h9 tk9 F9 N9); (try dsimp only); (try k_fold)))
  k_with "call ref" => ((k_here; (with_reducible show wpAny _ _ (call (Value.ref 70) [Value.str (S _) _, Value.int _ _]) _ _ _); k_dflt (refine PCl.use (size_ok _ _ _ _ _ _ _ _ _ _ (by walk_at "mI") (by walk_at "mI") (by walk_at "mI")) (by k_asm) (by k_asm) (by k_asm) (by k_asm) (by walk_at "mRoom") (by walk_at "mRoom") ?_; k_whole); (intro t9 h9 tk9 F9 N9); (try dsimp only); (try k_fold)))
  k_with "call ref" => ((k_here; (with_reducible show wpAny _ _ (call (Value.ref 84) [Value.str (S [94, _]) _]) _ _ _); k_dflt (refine PCl.use (read_2 _ _ _ _ _ _ _ _ ) (by k_asm) (by k_asm) (by k_asm) (by k_asm) (by walk_at "mRoom") (by walk_at "mRoom") ?_; k_whole); (intro t9 h9 tk9 F9 N9); (try dsimp only); (try k_fold)))
  k_with "call ref" => ((k_here; (with_reducible show wpAny _ _ (call (Value.ref 84) [Value.str (S [_]) _]) _ _ _); k_dflt (refine PCl.use (read_0 _ _ _ _ _ _ _ _ ) (by k_asm) (by k_asm) (by k_asm) (by k_asm) (by walk_at "mRoom") (by walk_at "mRoom") ?_; k_whole); (intro t9 h9 tk9 F9 N9); (try dsimp only); (try k_fold)))
  trivial
theorem read_1 (w : World) (p : Program) (loose : List Str) (mean : ExcName → Option Value) (mg mb : Str → Option Value) (c : Nat) (t : Tok) :
  PCl 25 PySem.Challenge.rw_mr0049_02.prog w (hd.heap_39 w.params) p loose mean mg mb 84 [.str (S [33, c]) t] (fun t => .int (altZ c) t) := by
  w_top off
  dsimp only [PCl]
  k_fill
  intro dp un fr gd s Q E X T hdp hun hret
  refine wpAny_call ?_
  k_dflt (refine' code_pure ?k3 ?k5 ?k6 ?k7 ?k8 ?k9 ?kB ?_ ?c2 ?c3 ?c4 ?c5; (case k3 => assumption); (case k5 => assumption); (case k6 => k_is); (case k7 => k_is); (case k8 => (show dp < 1000); omega); (case k9 => exact BindsTo.of_eq rfl); (case c5 => decide); (case kB => exact locs rfl); (case c2 => exact rfl); (case c3 => exact rfl); (case c4 => exact rfl); k_whole; intro L' h' F' N')
  k_steps
  all_goals refine pc_retI (s := s) hret ?_ (by k_asm)
  all_goals walk_at "mClean"
  all_goals first | (exfalso; simp at *; done) | rfl

theorem read_3 (w : World) (p : Program) (loose : List Str) (mean : ExcName → Option Value) (mg mb : Str → Option Value) (m : Nat) (t : Tok) :
  PCl 35 PySem.Challenge.rw_mr0049_02.prog w (hd.heap_39 w.params) p loose mean mg mb 84 [.str (S [33, 94, m]) t] (fun t => .int (altZ (rdZ m : Nat)) t) := by
  w_top off
  dsimp only [PCl]
  k_fill
  intro dp un fr gd s Q E X T hdp hun hret
  refine wpAny_call ?_
  k_dflt (refine' code_pure ?k3 ?k5 ?k6 ?k7 ?k8 ?k9 ?kB ?_ ?c2 ?c3 ?c4 ?c5; (case k3 => assumption); (case k5 => assumption); (case k6 => k_is); (case k7 => k_is); (case k8 => (show dp < 1000); omega); (case k9 => exact BindsTo.of_eq rfl); (case c5 => decide); (case kB => exact locs rfl); (case c2 => exact rfl); (case c3 => exact rfl); (case c4 => exact rfl); k_whole; intro L' h' F' N')
  k_steps
  all_goals refine pc_retI (s := s) hret ?_ (by k_asm)
  all_goals walk_at "mClean"
  all_goals first | (exfalso; simp at *; done) | rfl
end
section
open PySem PySem.W PyProof.Rows
set_option Elab.async false
set_option maxRecDepth 100000
set_option maxHeartbeats 40000000

theorem ln_7 : True := by
  k_with_none
  k_with "mI" => (first | omega | (simp only [List.length_cons, List.length_nil, List.length_append, List.length_take, List.length_drop, List.length_replicate, List.length_map, List.length_range, S_len, sizeLine_eq]; omega) | (simp only [List.length_cons, List.length_nil, List.length_append, List.length_take, List.length_drop, List.length_replicate, List.length_map, List.length_range, S_len, sizeLine_eq] at *; omega))
  k_with "mItem" => (first
  | ((with_reducible show wpAny _ _ (subscriptTail _ _ (Value.str (S (_ :: _)) _) (Value.int 0 _)) _ _ _); refine r_it0 (by walk_at "mI") ?_)
  | ((with_reducible show wpAny _ _ (subscriptTail _ _ (Value.str (S (_ :: _ :: _)) _) (Value.int 1 _)) _ _ _); refine r_it1 (by walk_at "mI") ?_)
  | ((with_reducible show wpAny _ _ (subscriptTail _ _ (Value.str (S _) _) (Value.int _ _)) _ _ _); refine r_item (by walk_at "mI") (by walk_at "mI") (by walk_at "mI") ?_))
  k_with "mSlice" => (first
  | ((with_reducible show wpAny _ _ (subscriptTail _ (Expr.Slice (some _) none none _) (Value.str (S (_ :: _)) _) _) _ _ _); (with_reducible rename Fr _ _ _ _ => F'); (with_reducible rename News _ _ _ _ => N'); refine r_sl1 (s := ⟨_, _, _, _, _⟩) F' N' (by walk_at "mI") ?_; intro _ _ _ _ _)
  | ((with_reducible show wpAny _ _ (subscriptTail _ (Expr.Slice (some _) (some _) none _) (Value.str (S _) _) _) _ _ _); (with_reducible rename Fr _ _ _ _ => F'); (with_reducible rename News _ _ _ _ => N'); refine r_ss (s := ⟨_, _, _, _, _⟩) F' N' (by walk_at "mI") (by walk_at "mI") (by walk_at "mI") ?_; intro _ _ _ _ _)
  | ((with_reducible show wpAny _ _ (subscriptTail _ (Expr.Slice (some _) none none _) (Value.str (S _) _) _) _ _ _); (with_reducible rename Fr _ _ _ _ => F'); (with_reducible rename News _ _ _ _ => N'); refine r_sn (s := ⟨_, _, _, _, _⟩) F' N' (by walk_at "mI") (by walk_at "mI") ?_; intro _ _ _ _ _)
  | ((with_reducible show wpAny _ _ (subscriptTail _ (Expr.Slice none (some _) none _) (Value.str (S _) _) _) _ _ _); (with_reducible rename Fr _ _ _ _ => F'); (with_reducible rename News _ _ _ _ => N'); refine r_ns (s := ⟨_, _, _, _, _⟩) F' N' (by walk_at "mI") (by walk_at "mI") ?_; intro _ _ _ _ _))
  k_with "subscriptTail" => (first | walk_at "mItem" | walk_at "mSlice")
  k_with "subscriptTail Name Name str int" => (walk_at "mItem")
  k_with "subscriptTail Name Constant str int" => (walk_at "mItem")
  k_with "subscriptTail Name Slice str ref" => (walk_at "mSlice")
  k_with "eval Constant str" => ((first | with_reducible refine r_const lit_bang ?_ | with_reducible refine r_const lit_hat ?_ | with_reducible refine r_const lit_q ?_ | with_reducible refine r_const lit_thorn ?_ | with_reducible refine r_const lit_del ?_ | with_reducible refine r_const lit_ff ?_ | with_reducible refine r_const lit_A ?_ | with_reducible refine r_const lit_hq ?_ | with_reducible refine r_const lit_h9 ?_ | with_reducible refine r_const lit_sp ?_ | with_reducible refine r_const lit_tilde ?_ | with_reducible refine r_const lit_fe ?_ | with_reducible refine r_const lit_hT ?_ | with_reducible refine r_const lit_e ?_ | with_reducible refine r_const lit_marks ?_))
  k_with "call builtin:len" => (first
  | ((with_reducible show wpAny _ _ (call (Value.builtin "len") [Value.str (S [_]) _]) _ _ _); refine r_len1 ?_)
  | ((with_reducible show wpAny _ _ (call (Value.builtin "len") [Value.str (S [_, _]) _]) _ _ _); refine r_len2 ?_)
  | ((with_reducible show wpAny _ _ (call (Value.builtin "len") [Value.str (S [_, _, _]) _]) _ _ _); refine r_len3 ?_)
  | ((with_reducible show wpAny _ _ (call (Value.builtin "len") [Value.str (S _) _]) _ _ _); refine r_len (by walk_at "mI") ?_))
  k_with "compareOp Eq str str" => (((with_reducible show wpAny _ _ (compareOp _ (Value.str (S _) _) (Value.str (S _) _)) _ _ _); refine r_eq ?_))
  k_with "compareOp NotEq str str" => (((with_reducible show wpAny _ _ (compareOp _ (Value.str (S _) _) (Value.str (S _) _)) _ _ _); refine r_ne ?_))
  k_with "compareOp In str str" => (((with_reducible show wpAny _ _ (compareOp _ (Value.str (S _) _) (Value.str (S _) _)) _ _ _); refine r_in ?_))
  k_with "compareOp Gt str str" => (((with_reducible show wpAny _ _ (compareOp _ (Value.str (S _) _) (Value.str (S _) _)) _ _ _); refine r_gt ?_))
  k_with "compareOp LtE str str" => (((with_reducible show wpAny _ _ (compareOp _ (Value.str (S _) _) (Value.str (S _) _)) _ _ _); refine r_le ?_))
  k_with "binaryOp Add str str" => (((with_reducible show wpAny _ _ (binaryOp _ (Value.str (S _) _) (Value.str (S _) _)) _ _ _); refine r_add ?_ (by walk_at "mI"); intro _ _))
  k_with "inplaceOp Add str str" => (((with_reducible show wpAny _ _ (inplaceOp _ (Value.str (S _) _) (Value.str (S _) _)) _ _ _); refine r_iadd ?_ (by walk_at "mI"); intro _ _))
  k_with "call builtin:ord" => (((with_reducible show wpAny _ _ (call (Value.builtin "ord") [Value.str (S _) _]) _ _ _); refine r_ord ?_))
  k_with "call builtin:chr" => ((refine r_chr (by walk_at "mChr") (by walk_at "mChr") ?_))
  k_with "mChr" => (first | omega | (split <;> omega))
  k_with "mRoom" => (((try simp only [depth_mark, depth_under_make, depth_under_kw, depth_in1, depth_deeper, depth_caller, units_in1, units_deeper, Around.mark_units, units_caller]); (try dsimp only [arA]); omega))
  k_with "mClean" => (((try clear hret); (repeat (with_reducible rename Fr _ _ _ _ => x9; clear x9)); (repeat (with_reducible rename News _ _ _ _ => x9; clear x9)); (repeat (with_reducible rename Below _ _ _ _ => x9; clear x9)); (repeat (with_reducible rename Top _ _ _ _ _ _ => x9; clear x9)); (repeat (with_reducible rename Frag.In _ _ => x9; clear x9))))
  k_with "eval Name" => ((k_here; k_dflt (refine nameX_F (by k_asm) (by rfl) (by assumption) (by assumption) ?_ (by rfl) (by rfl); k_whole)))
  trivial
theorem span_end {h h' : Heap} {L D : Addr} {m : Str → Option Value} {HL : Led} {o : Obj} {G : Prop} (hh : Has HL h) (F : Fr (hideAll h (HL.map (·.1))) L h' m) (N : News (hideAll h (HL.map (·.1))) L h' ((D, o) :: HL)) (l1 : ∀ q ∈ HL, q.1 < D)
    (k : h.StaysIn h' → h.get? D = none → h'.get? D = some o → G) : G := by
  refine k (fun b x e => ?_) ?_ (N _ (.head _)).1
  · by_cases hb : b ∈ HL.map (·.1)
    · obtain ⟨r, hr, rfl⟩ := List.mem_map.mp hb
      rw [hh r hr] at e; cases e
      exact (N r (.tail _ hr)).1
    · exact F.keep b x (hideAll_get _ e hb)
  · cases q : h.get? D with
    | none => rfl
    | some x =>
      have := (N _ (.head _)).2.2
      dsimp only at this
      rw [hideAll_get _ q (fun hm => by
        obtain ⟨r, hr, e⟩ := List.mem_map.mp hm
        exact absurd (l1 r hr) (by rw [e]; exact Nat.lt_irrefl _))] at this
      cases this
section
variable (prog : Program) (w : World) (K : Frag) (p : Program) (loose : List Str) (mean : ExcName → Option Value) (mg mb : Str → Option Value)
theorem span_sb (HL : Led) (sp c' : Addr) (o' : Obj) (P' : Addr) (doc ctv pm : Value) (qual : Str) (ck cw : Addr) (ok ow : Obj) (i j : Nat) (ti tw : Tok) (p1 p2 p5 : Pos)
   (hm : (sp, kdv_obj (Str.ofString "<lambda>") qual noArgs (.expr (.Tuple [.Name (Str.ofString "start") p1, .Name (Str.ofString "behind") p2] 0 p5)) { kind := ScopeKind.function, names := [(Str.ofString "behind", NameKind.free), (Str.ofString "start", NameKind.free)], isGenerator := false, isCoroutine := false } [(Str.ofString "start", ck), (Str.ofString "behind", cw)] .none doc pm c' ctv) ∈ HL)
   (hc : (c', o') ∈ HL) (co : CodeO o' c' qual P') (hk : (ck, ok) ∈ HL) (hw : (cw, ow) ∈ HL) (dk : ok.data = .cell (some (.int (i : Int) ti))) (dw : ow.data = .cell (some (.int (j : Int) tw))) :
   SpanOk prog w K p loose mean mg mb HL sp (i : Int) (j : Int) := by
  w_top off
  intro dp un fr gd s Q E X T hdp hun hh hret
  refine wpAny_call ?_
  refine code_lam (HL := HL) hh T.nolimit hm (co.2 _ (hh _ hc)).1 (by show dp < 1000; omega) rfl ?_ rfl rfl rfl (by decide)
  intro L' h1 F N
  k_steps
  rename Fr _ _ _ _ => F'
  rename News _ _ _ _ => N'
  rename ∀ (p : Addr × Obj), p ∈ HL → _ => l1
  refine span_end hh F' N' l1 fun a b c => hret _ _ _ _ _ a b c
end
end
section
open PySem PySem.W PyProof.Rows
set_option Elab.async false
set_option maxRecDepth 100000
section
variable {M : Model} {A : Around} {E : Value → Shared → Prop} {s : Shared} {h₀ : Heap} {L a : Addr} {m : Str → Option Value} {cn : Str} {cs : Scope} {ccd : Value} {cl : List (Str × Addr)}
  {x : Str} {v : Value} {news : List (Addr × Obj)} {c : Addr} {o : Obj}
theorem loadX_C {Q : Value → Shared → Prop} (N : News h₀ L s.heap news) (hc : cl.lookup x = some c) (hm : (c, o) ∈ news) (hd : o.data = .cell (some v)) (h : Q v s)
    (hk : cs.kind = .function := by rfl) (hx : (envX cn cs L a ccd cl).kindOf x = some .cell := by rfl) : wpAny M A (loadName (envX cn cs L a ccd cl) x) Q E s :=
  wpAny_loadName_cell hk hx hc ⟨o, N.get hm, hd⟩ h
theorem tuple_at {name qual : Str} {params : Arguments} {body : FuncBody} {scope : Scope} {pos : Pos} {firstLine : Nat} {dv : List Value} {env : Env} {Q : Value → Shared → Prop} (F : Fr h₀ L s.heap m) (N : News h₀ L s.heap news) (hne : dv.isEmpty = false)
    (h : ∀ t h', s.heap.objs.size ≤ t → Fr h₀ L h' m → News h₀ L h' ((t, kdv_tup dv) :: news) → (∀ q ∈ news, q.1 < t) → wpAny M A (makeTail name qual params body scope env (.ref t) .none none pos firstLine) Q E { s with heap := h' }) :
    wpAny M A (makeFunction name qual params body scope env dv [] [] pos firstLine) Q E s := by
  rw [makeFunction_eq]
  simp only [List.zip_nil_right, List.filterMap_nil, List.isEmpty_nil, if_true, pure_bind]
  rw [if_neg (show ¬ dv.isEmpty = true by rw [hne]; decide)]
  exact wpAny_bind (wpAny_newTextTuple (h s.heap.objs.size _ (Nat.le_refl _) (F.push _) (News.push F N _ rfl) fun q hq => Heap.lt_size (N q hq).1))
end
end
section
open PySem PySem.W PyProof.Rows
set_option Elab.async false
set_option maxRecDepth 100000
set_option maxHeartbeats 40000000

theorem ln_8 : True := by
  k_with_none
  k_with "mI" => (first | omega | (simp only [List.length_cons, List.length_nil, List.length_append, List.length_take, List.length_drop, List.length_replicate, List.length_map, List.length_range, S_len, sizeLine_eq]; omega) | (simp only [List.length_cons, List.length_nil, List.length_append, List.length_take, List.length_drop, List.length_replicate, List.length_map, List.length_range, S_len, sizeLine_eq] at *; omega))
  k_with "mItem" => (first
  | ((with_reducible show wpAny _ _ (subscriptTail _ _ (Value.str (S (_ :: _)) _) (Value.int 0 _)) _ _ _); refine r_it0 (by walk_at "mI") ?_)
  | ((with_reducible show wpAny _ _ (subscriptTail _ _ (Value.str (S (_ :: _ :: _)) _) (Value.int 1 _)) _ _ _); refine r_it1 (by walk_at "mI") ?_)
  | ((with_reducible show wpAny _ _ (subscriptTail _ _ (Value.str (S _) _) (Value.int _ _)) _ _ _); refine r_item (by walk_at "mI") (by walk_at "mI") (by walk_at "mI") ?_))
  k_with "mSlice" => (first
  | ((with_reducible show wpAny _ _ (subscriptTail _ (Expr.Slice (some _) none none _) (Value.str (S (_ :: _)) _) _) _ _ _); (with_reducible rename Fr _ _ _ _ => F'); (with_reducible rename News _ _ _ _ => N'); refine r_sl1 (s := ⟨_, _, _, _, _⟩) F' N' (by walk_at "mI") ?_; intro _ _ _ _ _)
  | ((with_reducible show wpAny _ _ (subscriptTail _ (Expr.Slice (some _) (some _) none _) (Value.str (S _) _) _) _ _ _); (with_reducible rename Fr _ _ _ _ => F'); (with_reducible rename News _ _ _ _ => N'); refine r_ss (s := ⟨_, _, _, _, _⟩) F' N' (by walk_at "mI") (by walk_at "mI") (by walk_at "mI") ?_; intro _ _ _ _ _)
  | ((with_reducible show wpAny _ _ (subscriptTail _ (Expr.Slice (some _) none none _) (Value.str (S _) _) _) _ _ _); (with_reducible rename Fr _ _ _ _ => F'); (with_reducible rename News _ _ _ _ => N'); refine r_sn (s := ⟨_, _, _, _, _⟩) F' N' (by walk_at "mI") (by walk_at "mI") ?_; intro _ _ _ _ _)
  | ((with_reducible show wpAny _ _ (subscriptTail _ (Expr.Slice none (some _) none _) (Value.str (S _) _) _) _ _ _); (with_reducible rename Fr _ _ _ _ => F'); (with_reducible rename News _ _ _ _ => N'); refine r_ns (s := ⟨_, _, _, _, _⟩) F' N' (by walk_at "mI") (by walk_at "mI") ?_; intro _ _ _ _ _))
  k_with "subscriptTail" => (first | walk_at "mItem" | walk_at "mSlice")
  k_with "subscriptTail Name Name str int" => (walk_at "mItem")
  k_with "subscriptTail Name Constant str int" => (walk_at "mItem")
  k_with "subscriptTail Name Slice str ref" => (walk_at "mSlice")
  k_with "eval Constant str" => ((first | with_reducible refine r_const lit_bang ?_ | with_reducible refine r_const lit_hat ?_ | with_reducible refine r_const lit_q ?_ | with_reducible refine r_const lit_thorn ?_ | with_reducible refine r_const lit_del ?_ | with_reducible refine r_const lit_ff ?_ | with_reducible refine r_const lit_A ?_ | with_reducible refine r_const lit_hq ?_ | with_reducible refine r_const lit_h9 ?_ | with_reducible refine r_const lit_sp ?_ | with_reducible refine r_const lit_tilde ?_ | with_reducible refine r_const lit_fe ?_ | with_reducible refine r_const lit_hT ?_ | with_reducible refine r_const lit_e ?_ | with_reducible refine r_const lit_marks ?_))
  k_with "call builtin:len" => (first
  | ((with_reducible show wpAny _ _ (call (Value.builtin "len") [Value.str (S [_]) _]) _ _ _); refine r_len1 ?_)
  | ((with_reducible show wpAny _ _ (call (Value.builtin "len") [Value.str (S [_, _]) _]) _ _ _); refine r_len2 ?_)
  | ((with_reducible show wpAny _ _ (call (Value.builtin "len") [Value.str (S [_, _, _]) _]) _ _ _); refine r_len3 ?_)
  | ((with_reducible show wpAny _ _ (call (Value.builtin "len") [Value.str (S _) _]) _ _ _); refine r_len (by walk_at "mI") ?_))
  k_with "compareOp Eq str str" => (((with_reducible show wpAny _ _ (compareOp _ (Value.str (S _) _) (Value.str (S _) _)) _ _ _); refine r_eq ?_))
  k_with "compareOp NotEq str str" => (((with_reducible show wpAny _ _ (compareOp _ (Value.str (S _) _) (Value.str (S _) _)) _ _ _); refine r_ne ?_))
  k_with "compareOp In str str" => (((with_reducible show wpAny _ _ (compareOp _ (Value.str (S _) _) (Value.str (S _) _)) _ _ _); refine r_in ?_))
  k_with "compareOp Gt str str" => (((with_reducible show wpAny _ _ (compareOp _ (Value.str (S _) _) (Value.str (S _) _)) _ _ _); refine r_gt ?_))
  k_with "compareOp LtE str str" => (((with_reducible show wpAny _ _ (compareOp _ (Value.str (S _) _) (Value.str (S _) _)) _ _ _); refine r_le ?_))
  k_with "binaryOp Add str str" => (((with_reducible show wpAny _ _ (binaryOp _ (Value.str (S _) _) (Value.str (S _) _)) _ _ _); refine r_add ?_ (by walk_at "mI"); intro _ _))
  k_with "inplaceOp Add str str" => (((with_reducible show wpAny _ _ (inplaceOp _ (Value.str (S _) _) (Value.str (S _) _)) _ _ _); refine r_iadd ?_ (by walk_at "mI"); intro _ _))
  k_with "call builtin:ord" => (((with_reducible show wpAny _ _ (call (Value.builtin "ord") [Value.str (S _) _]) _ _ _); refine r_ord ?_))
  k_with "call builtin:chr" => ((refine r_chr (by walk_at "mChr") (by walk_at "mChr") ?_))
  k_with "mChr" => (first | omega | (split <;> omega))
  k_with "mRoom" => (((try simp only [depth_mark, depth_under_make, depth_under_kw, depth_in1, depth_deeper, depth_caller, units_in1, units_deeper, Around.mark_units, units_caller]); (try dsimp only [arA]); omega))
  k_with "mClean" => (((try clear hret); (repeat (with_reducible rename Fr _ _ _ _ => x9; clear x9)); (repeat (with_reducible rename News _ _ _ _ => x9; clear x9)); (repeat (with_reducible rename Below _ _ _ _ => x9; clear x9)); (repeat (with_reducible rename Top _ _ _ _ _ _ => x9; clear x9)); (repeat (with_reducible rename Frag.In _ _ => x9; clear x9))))
  k_with "binaryOp Mod int int" => (refine r_mod (by decide) ?_)
  k_with "binaryOp FloorDiv int int" => (refine r_fdiv (by decide) (by decide) ?_)
  k_with "binaryOp Mult str int" => (((with_reducible show wpAny _ _ (binaryOp _ (Value.str (S [_]) _) (Value.int _ _)) _ _ _); refine r_mul (by walk_at "mI") (by walk_at "mI") ?_; intro _ _))
  k_with "exec For" => (refine hold ?_)
  k_with "exec For Name ListComp cons nil" => (refine hold ?_)
  k_with "exec For Name Call cons nil" => (refine hold ?_)
  k_with "eval Constant str" => ((first | with_reducible refine r_const lit_q9 ?_ | with_reducible refine r_const lit_marks2 ?_))
  k_with "call ref" => ((k_here; (with_reducible show wpAny _ _ (call (Value.ref 28) [Value.int _ _]) _ _ _); k_dflt (refine PCl.use (ctoi_i _ _ _ _ _ _ _ _ ) (by k_asm) (by k_asm) (by k_asm) (by k_asm) (by walk_at "mRoom") (by walk_at "mRoom") ?_; k_whole); (intro t9 h9 tk9 F9 N9); (try dsimp only); (try k_fold)))
  k_with "call ref" => ((k_here; (with_reducible show wpAny _ _ (call (Value.ref 35) [Value.int _ _]) _ _ _); k_dflt (refine PCl.use (isprint_i _ _ _ _ _ _ _ _ ) (by k_asm) (by k_asm) (by k_asm) (by k_asm) (by walk_at "mRoom") (by walk_at "mRoom") ?_; k_whole); (intro t9 h9 tk9 F9 N9); (try dsimp only); (try k_fold)))
  k_with "call ref" => ((k_here; (with_reducible show wpAny _ _ (call (Value.ref 42) [Value.int _ _]) _ _ _); k_dflt (refine PCl.use (ctrl_i _ _ _ _ _ _ _ _ ) (by k_asm) (by k_asm) (by k_asm) (by k_asm) (by walk_at "mRoom") (by walk_at "mRoom") ?_; k_whole); (intro t9 h9 tk9 F9 N9); (try dsimp only); (try k_fold)))
  k_with "call ref" => ((k_here; (with_reducible show wpAny _ _ (call (Value.ref 49) [Value.int _ _]) _ _ _); k_dflt (refine PCl.use (alt_i _ _ _ _ _ _ _ _ (by walk_at "mI")) (by k_asm) (by k_asm) (by k_asm) (by k_asm) (by walk_at "mRoom") (by walk_at "mRoom") ?_; k_whole); (intro t9 h9 tk9 F9 N9); (try dsimp only); (try k_fold)))
  k_with "call ref" => ((k_here; (with_reducible show wpAny _ _ (call (Value.ref 56) [Value.int _ _]) _ _ _); k_dflt (refine PCl.use (unctrl_i _ _ _ _ _ _ _ _ ) (by k_asm) (by k_asm) (by k_asm) (by k_asm) (by walk_at "mRoom") (by walk_at "mRoom") ?_; k_whole); (intro t9 h9 tk9 F9 N9); (try dsimp only); (try k_fold)))
  k_with "call ref" => ((k_here; (with_reducible show wpAny _ _ (call (Value.ref 70) [Value.str (S _) _, Value.int _ _]) _ _ _); k_dflt (refine PCl.use (size_ok _ _ _ _ _ _ _ _ _ _ (by walk_at "mI") (by walk_at "mI") (by walk_at "mI")) (by k_asm) (by k_asm) (by k_asm) (by k_asm) (by walk_at "mRoom") (by walk_at "mRoom") ?_; k_whole); (intro t9 h9 tk9 F9 N9); (try dsimp only); (try k_fold)))
  k_with "call ref" => ((k_here; (with_reducible show wpAny _ _ (call (Value.ref 84) [Value.str (S [94, _]) _]) _ _ _); k_dflt (refine PCl.use (read_2 _ _ _ _ _ _ _ _ ) (by k_asm) (by k_asm) (by k_asm) (by k_asm) (by walk_at "mRoom") (by walk_at "mRoom") ?_; k_whole); (intro t9 h9 tk9 F9 N9); (try dsimp only); (try k_fold)))
  k_with "call ref" => ((k_here; (with_reducible show wpAny _ _ (call (Value.ref 84) [Value.str (S [_]) _]) _ _ _); k_dflt (refine PCl.use (read_0 _ _ _ _ _ _ _ _ ) (by k_asm) (by k_asm) (by k_asm) (by k_asm) (by walk_at "mRoom") (by walk_at "mRoom") ?_; k_whole); (intro t9 h9 tk9 F9 N9); (try dsimp only); (try k_fold)))
  k_with "call ref" => ((k_here; (with_reducible show wpAny _ _ (call (Value.ref 84) [Value.str (S [33, _]) _]) _ _ _); k_dflt (refine PCl.use (read_1 _ _ _ _ _ _ _ _ ) (by k_asm) (by k_asm) (by k_asm) (by k_asm) (by walk_at "mRoom") (by walk_at "mRoom") ?_; k_whole); (intro t9 h9 tk9 F9 N9); (try dsimp only); (try k_fold)))
  k_with "call ref" => ((k_here; (with_reducible show wpAny _ _ (call (Value.ref 84) [Value.str (S [33, 94, _]) _]) _ _ _); k_dflt (refine PCl.use (read_3 _ _ _ _ _ _ _ _ ) (by k_asm) (by k_asm) (by k_asm) (by k_asm) (by walk_at "mRoom") (by walk_at "mRoom") ?_; k_whole); (intro t9 h9 tk9 F9 N9); (try dsimp only); (try k_fold)))
  trivial
def behL (l : List Nat) : Nat → Nat → Nat
  | 0, b => b
  | n + 1, b => if b < l.length then (if sizeL l b = 1 then b else behL l n (b + sizeL l b)) else b
def nx2 (l : List Nat) (st : Nat) : Option (Nat × Nat) := some (st, behL l (l.length - st) st)
theorem size_pos (l : List Nat) (k : Nat) : 1 ≤ sizeL l k ∧ sizeL l k ≤ 3 := by unfold sizeL; dsimp only; split <;> split <;> omega
theorem beh_stop {l : List Nat} {n b : Nat} (h : ¬ b < l.length) : behL l n b = b := by
  cases n with
  | zero => rfl
  | succ n => unfold behL; rw [if_neg h]
theorem beh_one {l : List Nat} {n b : Nat} (h : sizeL l b = 1) : behL l n b = b := by
  cases n with
  | zero => rfl
  | succ n => unfold behL; rw [if_pos h]; simp
theorem beh_more {l : List Nat} {n b : Nat} (h0 : b < l.length) (h : sizeL l b ≠ 1) : behL l (n + 1) b = behL l n (b + sizeL l b) := by
  conv => lhs; unfold behL
  rw [if_pos h0, if_neg h]
/-- the search's loop -/
def SbJ (l : List Nat) (t : Tok) (tail : Led) (L9 : Nat) (os : Obj) (R : Nat) (n : Nat) (m : Str → Option Value) (nx : Led) : Prop :=
  (∃ u : Str → Option Value, m = fun y => if y = Str.ofString "chars" then some (.str (S l) t) else u y) ∧
  ∃ ob b tb, nx = (L9 + 1 + 1, ob) :: (L9 + 1, os) :: tail ∧ ob.data = .cell (some (.int ((b : Nat) : Int) tb)) ∧ behL l n b = R ∧ l.length ≤ b + n ∧ b < 1400
theorem qH_eq (scope : Scope) (L a : Addr) (cd : Value) (cl : List (Str × Addr)) (h : scope.names.lookup (Str.ofString "search") = some .local) : (qualnameIn (envX (Str.ofString "_law_prog") scope L a cd cl) (Str.ofString "search") (Str.ofString "search") ++ Str.ofString ".<locals>.") ++ Str.ofString "<lambda>" = qH := by
  have e : qualnameIn (envX (Str.ofString "_law_prog") scope L a cd cl) (Str.ofString "search") (Str.ofString "search") = Str.ofString "_law_prog" ++ Str.ofString ".<locals>." ++ Str.ofString "search" := by
    unfold qualnameIn
    rw [show (envX (Str.ofString "_law_prog") scope L a cd cl).kindOf (Str.ofString "search") = some .local from h]
    rfl
  rw [e]
  decide +kernel

theorem ln_9 : True := by
  k_with "eval Name" => ((k_here; k_dflt (refine nameX_C (by k_asm) (by rfl) (by k_mem) (by k_asm) ?_ (by rfl) (by rfl); k_whole)))
  k_with "loadName" => ((k_here; k_dflt (refine loadX_C (by k_asm) (by rfl) (by k_mem) (by k_asm) ?_ (by rfl) (by rfl); k_whole)))
  k_with "makeFunction" => (refine hold ?_)
  k_with "eval Lambda" => (refine hold ?_)
  k_with "execs cons" => (((with_reducible show wpAny _ _ (execs (Stmt.Assign [_] (Expr.Lambda _ _ _ _) _ :: Stmt.Assign [Expr.Attribute _ _ _] (Expr.Lambda _ _ _ _) _ :: Stmt.Return _ _ :: []) _) _ _ _); refine hold ?_))
  k_with "exec FunctionDef" => (refine hold ?_)
  k_with "exec While" => (refine hold ?_)
  k_with "exec While Compare" => (refine hold ?_)
  k_with "exec While Compare cons" => (refine hold ?_)
  k_with "exec While Compare cons nil" => (refine hold ?_)
  trivial
local macro_rules | `(tactic| k_ne) => `(tactic| first | exact Nat.ne_of_lt (by assumption) | exact Nat.ne_of_gt (by assumption))
local macro_rules | `(tactic| k_all) => `(tactic| first | exact ne_lt (by assumption) (Nat.le_succ _) | exact ne_lt (by assumption) (Nat.le_trans (Nat.le_succ _) (Nat.le_succ _)) | exact List.forall_mem_nil _ | (refine' List.forall_mem_cons.mpr ⟨?a, ?b⟩; (case a => k_ne); (case b => k_all)))
theorem prog_ok (w : World) (p : Program) (loose : List Str) (mean : ExcName → Option Value) (mg mb : Str → Option Value)
    (dp un : Nat) (fr : Option (List Env)) (gd : Option (List Code)) (s : Shared) (Q E : Value → Shared → Prop) (Z : Led)
    (X : (hd.heap_39 w.params).In (hideAll s.heap (Z.map (·.1)))) (T : Top p loose mean mg mb (hideAll s.heap (Z.map (·.1)))) (hdp : dp + 70 < 1000) (hun : un + 700 < 9900) (hh : Has Z s.heap) (C : CodeHd (hideAll s.heap (Z.map (·.1))) 76 72) (tp : TP0 Z)
    (hret : ∀ pg PL P' h' tk Z', Kept s.heap Z h' Z' → TPP P' Z' → ProgL PySem.Challenge.rw_mr0049_02.prog w (hd.heap_39 w.params) p loose mean mg mb PL (TPP P') pg nx2 → Has PL h' → Adr (Z.map (·.1)) s.heap.objs.size PL → Q (.ref pg) { s with heap := h', toks := tk }) :
    wpAny (model PySem.Challenge.rw_mr0049_02.prog w) (arA dp un fr gd) (call (.ref 77) []) Q E s := by
  w_top off
  revert X T hret
  k_fill
  intro X T hret
  refine wpAny_call ?_
  k_dflt (refine' code_tab Z hh ?k3 ?k5 ?k6 ?k7 ?k8 ?k9 ?kB ?_ ?c2 ?c3 ?c4 ?c5; (case k3 => assumption); (case k5 => assumption); (case k6 => k_is); (case k7 => k_is); (case k8 => (show dp < 1000); omega); (case k9 => exact BindsTo.of_eq rfl); (case c5 => decide); (case kB => exact locs rfl); (case c2 => exact rfl); (case c3 => exact rfl); (case c4 => exact rfl); k_whole; intro L h' F' N')
  replace F' : Fr _ _ h' (fun _ => none) := F'
  have hzL : s.heap.objs.size ≤ L := by have := F'.above; rwa [hideAll_size] at this
  k_steps
  unfold Hold
  refine kdv_def rfl rfl rfl (kdv_all1 ?_)
  k_steps
  unfold Hold
  have hzh : s.heap.objs.size ≤ h'.objs.size := Nat.le_trans hzL (Nat.le_of_lt F'.ns.lt)
  refine tuple_at (by k_asm) (by k_asm) rfl ?_
  intro t1 h1 lt0 F1 N1 l1
  have ht1L : s.heap.objs.size ≤ t1 := Nat.le_trans hzh lt0
  clear lt0
  generalize htt : kdv_tup _ = ot at N1
  obtain ⟨tk', htt⟩ : ∃ tk', ot = kdv_tup [.int 0 tk'] := ⟨_, htt.symm⟩
  subst htt
  have tp0 := tp
  obtain ⟨ps, hP, ht, href⟩ := tp
  have hZ1 : Has Z h1 := fun q hq => (N1 q (by simp [hq])).1
  refine mk_fn (P := 72) (c := 76) (Z := Z) (ps := ps) (rest := [(t1, kdv_tup [.int 0 tk'])]) F1 (nSub N1 (fun q hq => by simp only [List.mem_append, List.mem_cons, List.mem_nil_iff, or_false] at hq ⊢; rcases hq with z | z <;> simp [z])) T (fun q hq => ?_) rfl rfl rfl (C.keeps F1.keep) hP ht (fun v e => ?_) ?_
  · simp only [List.mem_cons, List.mem_nil_iff, or_false] at hq
    subst hq
    rfl
  · obtain ⟨c', o, rfl, hm, _, hw⟩ := href _ v e
    obtain ⟨P', _, hco, _⟩ := hw.1 rfl
    exact ⟨c', o, P', rfl, hm, hco⟩
  intro sf c1 o1 P1 ctv doc h2 tk2 Z1 G1 lf lt1 F2 N2
  have hZ2 : Has Z1 h2 := News.has (nSub N2 (fun q hq => by simp [hq]))
  have hn1 : L < h1.objs.size := F1.ns.lt
  clear F1 N1
  obtain ⟨P2, CO1, tp1⟩ := grow_s G1 hZ1 hP (Heap.lt_size (hZ1 _ hP)) rfl tp0
  generalize hfo : kdv_obj _ _ _ _ _ _ _ _ _ _ _ = fo at N2
  have hfoT : isTab fo = false := by rw [← hfo]; rfl
  dsimp only
  k_steps
  unfold Hold
  (with_reducible rename Fr _ _ _ _ => Fq)
  have hn2 := Fq.ns.lt
  have tp2 := tp1
  obtain ⟨⟨ps2, hP2, ht2, href2⟩, hne, _⟩ := tp1
  refine mk_lam (P := 72) (c := 76) (Z := Z1) (ps := ps2) (qual := qP) (rest := [(sf, fo), (t1, kdv_tup [.int 0 tk'])]) Fq (by k_asm) (fun q hq => by simp only [List.mem_append, List.mem_cons, List.mem_nil_iff, or_false] at hq ⊢; rcases hq with z | z | z <;> simp [z]) T (fun q hq => ?_) rfl rfl rfl rfl rfl (C.keeps Fq.keep) hP2 ht2 (fun v e => ?_) ?_
  · simp only [List.mem_cons, List.mem_nil_iff, or_false] at hq
    rcases hq with rfl | rfl
    · exact hfoT
    · rfl
  · obtain ⟨c', o, rfl, hm, _, hw⟩ := href2 _ v e
    obtain ⟨P', hco⟩ := hw.2 rfl
    exact ⟨c', o, P', rfl, hm, hco⟩
  intro pg c2 o2 P3 ctv2 doc2 h3 tk3 Z2 G2 lg lt2 F3 N3
  clear Fq
  try dsimp only at hn2 lg G2
  k_steps
  refine set_fn (rest := Z2 ++ [(sf, fo), (t1, kdv_tup [.int 0 tk'])]) (by k_asm) (by k_asm) (.head _) (fun x hx => .tail _ hx) lt2 lk_fn_search ?_
  intro d h4 tk4 ld F4 N4
  generalize hpo : Obj.mk (Value.type "function") (some d) (Data.func _) _ = po at N4
  generalize hdo : dictOf _ _ = od at N4
  dsimp only
  k_steps
  have SO : ∀ PL : Led, (sf, fo) ∈ PL → (t1, kdv_tup [.int 0 tk']) ∈ PL → (c1, o1) ∈ PL → (∀ q ∈ PL, isTab q.2 = false) → SearchOk PySem.Challenge.rw_mr0049_02.prog w (hd.heap_39 w.params) p loose mean mg mb PL (TPP P2) sf nx2 := by
    subst hfo
    clear hret G1 G2 tp0 tp2 hP ht href hP2 ht2 href2 hh C hdp hun hZ1 hZ2 lt1 lt2 l1
    walk_at "mClean"
    intro PL m1 m2 m4 hPT l st args TL dp un fr gd s Q E ha hl hst X T hdp hun hPL tp hTL hfound
    have hTP : Has (TL ++ PL) s.heap := hTL.app hPL
    have X' := X.keeps (fun b o e => of_hideAll _ e)
    have T' := T.keeps (fun b o e => of_hideAll _ e)
    have hlt : ∀ q ∈ TL ++ PL, q.1 < s.heap.objs.size := fun q hq => Heap.lt_size (hTP q hq)
    refine wpAny_call ?_
    obtain ⟨t, u, ha⟩ : ∃ t u, (st = 0 ∧ u = tk' ∧ args = [.str (S l) t]) ∨ args = [.str (S l) t, .int (st : Int) u] := by
      rcases ha with ⟨rfl, t, rfl⟩ | ⟨t, u, rfl⟩
      · exact ⟨t, tk', .inl ⟨rfl, rfl, rfl⟩⟩
      · exact ⟨t, u, .inr rfl⟩
    k_dflt (refine' code_clo (binds := [(Str.ofString "chars", .str (S l) t), (Str.ofString "start", .int (st : Int) u)]) (TL ++ PL) hTP (hPL _ m1) rfl ?k5 ?k7 ?k8 ?k9 ?kB ?kC ?_ ?c2 ?c3 ?c4; (case k5 => exact T'.nolimit); (case k7 => exact (CO1.2 _ (hPL _ m4)).1); (case k8 => (show dp < 1000); omega); (case k9 => (rcases ha with ⟨rfl, rfl, rfl⟩ | rfl; (exact BindsTo.of_defaults rfl (hPL _ m2) rfl rfl rfl); (exact BindsTo.of_defaults rfl (hPL _ m2) rfl rfl rfl))); (case kC => decide); (case kB => exact rfl); (case c2 => exact rfl); (case c3 => exact rfl); (case c4 => exact rfl); k_whole; intro h' tk9 cells F' N' hC)
    obtain ⟨ob, os, hE, dk, dw⟩ := CellsAre.two hC
    subst hE
    clear hC
    replace F' : Fr _ _ h' (fun y => if y = Str.ofString "chars" then some (.str (S l) t) else none) := F'
    replace dk : ob.data = .cell none := dk
    replace dw : os.data = .cell (some (.int (st : Int) u)) := dw
    generalize hL9 : s.heap.objs.size = L9 at *
    have N9 : News _ _ _ ((L9 + 1 + 1, ob) :: (L9 + 1, os) :: (TL ++ PL)) := N'
    clear N'
    simp only [cellsFrom, beq_self_eq_true, ↓reduceIte, show (NameKind.local == NameKind.cell) = false from rfl, show (NameKind.free == NameKind.cell) = false from rfl, show (NameKind.globalImplicit == NameKind.cell) = false from rfl, List.cons_append, List.nil_append, List.append_nil, Bool.false_eq_true]
    have f3 : L9 + 1 < L9 + 1 + 1 := Nat.lt_succ_self (L9 + 1)
    k_steps
    unfold Hold
    (with_reducible rename Fr _ _ _ _ => FF)
    (with_reducible rename News _ _ _ _ => NN)
    refine While_inv2 (SbJ l t (TL ++ PL) L9 os (behL l (l.length - st) st)) (n₀ := l.length - st) FF NN ?_ ?_
    · exact ⟨ex_map rfl, _, st, _, rfl, by assumption, rfl, by omega, by omega⟩
    clear FF NN
    rintro n m₁ nx₁ h₁ tk₁ F₁ N₁ ⟨⟨u1, rfl⟩, ob', b, tb, rfl, db, hb, hbl, hb14⟩
    have hsz := size_pos l b
    have hbn : ((b : Nat) : Int).toNat = b := Int.toNat_natCast _
    dsimp only
    k_steps
    · dsimp only [WhileStep2]
      k_steps
      unfold Hold
      rw [hbn] at *
      have hR : behL l (l.length - st) st = b := by rw [← hb]; exact beh_one (by omega)
      (with_reducible rename Fr _ _ _ _ => Fh)
      (with_reducible rename News _ _ _ _ => Nh)
      refine hit_ok (TPP P2) (K := hd.heap_39 w.params) (P := P2) (Z := TL) (rest := (L9 + 1 + 1, ob') :: (L9 + 1, os) :: PL) (cells := [(L9 + 1, os), (L9 + 1 + 1, ob')]) (i := (st : Int)) (j := (b : Int)) (qual := qH) (clos := [(Str.ofString "start", L9 + 1), (Str.ofString "behind", L9 + 1 + 1)]) Fh Nh ?_ T ?_ ?_ ?_ rfl rfl rfl rfl (.inr ⟨o1, .tail _ (.tail _ m4), qS, CO1⟩) tp (fun _ t => t.2.2) (fun _ _ _ _ _ _ _ _ _ g x hP t => grow_h g x hP t) ?_ ?_
      · intro q hq
        simp only [List.mem_append, List.mem_cons] at hq ⊢
        rcases hq with z | z | z | z <;> simp [z]
      · intro q hq
        simp only [List.mem_cons] at hq
        rcases hq with rfl | rfl | z
        · exact isTab_cell db
        · exact isTab_cell dw
        · exact hPT q z
      · intro q hq
        simp only [List.mem_cons, List.mem_nil_iff, or_false] at hq ⊢
        rcases hq with z | z <;> simp [z]
      · exact qH_eq _ _ _ _ _ rfl
      · intro HL sp c' o' P' doc ctv pm e1 e2 e3 e4
        exact span_sb _ _ _ _ _ _ _ _ HL sp c' o' P' doc ctv pm qH (L9 + 1) (L9 + 1 + 1) os ob' st b u tb _ _ _ e1 e2 e3 (e4 _ (.head _)) (e4 _ (.tail _ (.head _))) dw db
      intro hit HL h' tk Z' m' tp' hL F' N' ad1 ad2 kR
      show Q (.ref hit) _
      have hsz2 := Nat.le_of_lt Fh.ns.lt
      have ew : nx2 l st = some (st, b) := by unfold nx2; rw [hR]
      refine hfound.2 st b ew hit HL h' tk Z' (kept_of hTP F' (nSub N' (fun q hq => ?_)) (by rw [hL9]; exact ad1.mono hsz2)) tp' hL (News.has (nSub N' (fun q hq => ?_))) (fun q hq => ?_)
      · simp only [List.mem_append, List.mem_cons] at hq ⊢
        rcases hq with z | z | z
        · simp [z]
        · simp [z]
        · simp [kR q (recs_sub q z) (recs_isTab q z)]
      · simp only [List.mem_append, List.mem_cons]; simp [hq]
      · rw [hL9]
        rcases ad2 q hq with z | z | z
        · refine .inr ?_
          simp only [List.mem_cons, List.mem_nil_iff, or_false] at z
          rcases z with rfl | rfl
          · exact Nat.le_succ _
          · exact Nat.le_trans (Nat.le_succ _) (Nat.le_succ _)
        · exact .inl z
        · exact .inr (Nat.le_trans hsz2 z)
    · obtain ⟨k, rfl⟩ : ∃ k, n = k + 1 := ⟨n - 1, by omega⟩
      rw [hbn] at *
      refine ⟨_, _, _, _, k, rfl, by k_asm, by k_asm, by omega, ex_map rfl, _, b + sizeL l b, _, rfl, by rw [Int.natCast_add]; assumption, ?_, by omega, by omega⟩
      rw [← hb, beh_more (by omega) (by omega)]
    · unfold Hold
      have hR : behL l (l.length - st) st = b := by rw [← hb]; exact beh_stop (by omega)
      (with_reducible rename Fr _ _ _ _ => Fh)
      (with_reducible rename News _ _ _ _ => Nh)
      refine hit_ok (TPP P2) (K := hd.heap_39 w.params) (P := P2) (Z := TL) (rest := (L9 + 1 + 1, ob') :: (L9 + 1, os) :: PL) (cells := [(L9 + 1, os), (L9 + 1 + 1, ob')]) (i := (st : Int)) (j := (b : Int)) (qual := qH) (clos := [(Str.ofString "start", L9 + 1), (Str.ofString "behind", L9 + 1 + 1)]) Fh Nh ?_ T ?_ ?_ ?_ rfl rfl rfl rfl (.inr ⟨o1, .tail _ (.tail _ m4), qS, CO1⟩) tp (fun _ t => t.2.2) (fun _ _ _ _ _ _ _ _ _ g x hP t => grow_h g x hP t) ?_ ?_
      · intro q hq
        simp only [List.mem_append, List.mem_cons] at hq ⊢
        rcases hq with z | z | z | z <;> simp [z]
      · intro q hq
        simp only [List.mem_cons] at hq
        rcases hq with rfl | rfl | z
        · exact isTab_cell db
        · exact isTab_cell dw
        · exact hPT q z
      · intro q hq
        simp only [List.mem_cons, List.mem_nil_iff, or_false] at hq ⊢
        rcases hq with z | z <;> simp [z]
      · exact qH_eq _ _ _ _ _ rfl
      · intro HL sp c' o' P' doc ctv pm e1 e2 e3 e4
        exact span_sb _ _ _ _ _ _ _ _ HL sp c' o' P' doc ctv pm qH (L9 + 1) (L9 + 1 + 1) os ob' st b u tb _ _ _ e1 e2 e3 (e4 _ (.head _)) (e4 _ (.tail _ (.head _))) dw db
      intro hit HL h' tk Z' m' tp' hL F' N' ad1 ad2 kR
      show Q (.ref hit) _
      have hsz2 := Nat.le_of_lt Fh.ns.lt
      have ew : nx2 l st = some (st, b) := by unfold nx2; rw [hR]
      refine hfound.2 st b ew hit HL h' tk Z' (kept_of hTP F' (nSub N' (fun q hq => ?_)) (by rw [hL9]; exact ad1.mono hsz2)) tp' hL (News.has (nSub N' (fun q hq => ?_))) (fun q hq => ?_)
      · simp only [List.mem_append, List.mem_cons] at hq ⊢
        rcases hq with z | z | z
        · simp [z]
        · simp [z]
        · simp [kR q (recs_sub q z) (recs_isTab q z)]
      · simp only [List.mem_append, List.mem_cons]; simp [hq]
      · rw [hL9]
        rcases ad2 q hq with z | z | z
        · refine .inr ?_
          simp only [List.mem_cons, List.mem_nil_iff, or_false] at z
          rcases z with rfl | rfl
          · exact Nat.le_succ _
          · exact Nat.le_trans (Nat.le_succ _) (Nat.le_succ _)
        · exact .inl z
        · exact .inr (Nat.le_trans hsz2 z)
  have tp3 := grow_p G2 hZ2 hP2 rfl tp2
  rename Fr _ _ _ _ => F5
  rename News _ _ _ _ => N5
  have hc1 : (c1, o1) ∈ Z2 := G2.keepRec hZ2 hP2 _ G1.mem CO1.1
  have N6 := nSub N5 (l' := (pg, po) :: (d, od) :: (sf, fo) :: (t1, kdv_tup [.int 0 tk']) :: [(c1, o1)]) (fun q hq => by
    simp only [List.mem_cons, List.mem_append, List.mem_nil_iff, or_false] at hq ⊢
    rcases hq with rfl | rfl | rfl | rfl | rfl
    · simp
    · simp
    · simp
    · simp
    · simp [hc1])
  have hT : ∀ q ∈ (pg, po) :: (d, od) :: (sf, fo) :: (t1, kdv_tup [.int 0 tk']) :: [(c1, o1)], isTab q.2 = false := fun q hq => by
    simp only [List.mem_cons, List.mem_nil_iff, or_false] at hq
    rcases hq with rfl | rfl | rfl | rfl | rfl
    · rw [← hpo]; rfl
    · rw [← hdo]; rfl
    · exact hfoT
    · rfl
    · exact CO1.1
  have hfn : FnIn sf ((pg, po) :: (d, od) :: (sf, fo) :: (t1, kdv_tup [.int 0 tk']) :: [(c1, o1)]) := by
    rw [← hfo]; exact ⟨_, _, _, _, .tail _ (.tail _ (.head _))⟩
  have hSO := SO _ (by simp) (by simp) (by simp) hT
  clear SO hfo
  subst hpo
  subst hdo
  refine hret pg _ P2 _ _ Z2 (kept_of0 hh F5 N5 (fun q hq => by simp [hq]) (fun q hq hf => ?_) ?_) tp3 ⟨d, _, _, _, _, _, sf, .head _, .tail _ (.head _), hT, hfn, hSO⟩ (News.has N6) ?_
  · have := G2.keepRec hZ2 hP2 _ (G1.keepRec hZ1 hP _ hq hf) hf
    simp [this]
  · exact Adr.trans (TL := Z1) (G1.adr.mono (Nat.le_trans hzL (Nat.le_of_lt hn1))) (Nat.le_trans hzL (Nat.le_of_lt hn2)) G2.adr
  · intro q hq
    simp only [List.mem_cons, List.mem_nil_iff, or_false] at hq
    have lpg : s.heap.objs.size ≤ pg := Nat.le_trans hzL (Nat.le_trans (Nat.le_of_lt hn2) lg)
    rcases hq with rfl | rfl | rfl | rfl | rfl
    · exact .inr lpg
    · exact .inr (Nat.le_trans lpg (Nat.le_of_lt ld))
    · exact .inr (Nat.le_trans hzL (Nat.le_trans (Nat.le_of_lt hn1) lf))
    · exact .inr ht1L
    · exact G1.adr.mono (Nat.le_trans hzL (Nat.le_of_lt hn1)) _ G1.mem
end
section
open PySem PySem.W PyProof.Rows
set_option Elab.async false
set_option maxRecDepth 100000
section
variable {w : World} {p : Program} {loose : List Str} {mean : ExcName → Option Value} {mg mb : Str → Option Value}
variable {dp un : Nat} {fr : Option (List Env)} {gd : Option (List Code)} {h₀ : Heap} {L : Addr} {m : Str → Option Value} {news : Led} {s : Shared} {E : Value → Shared → Prop} {Q : Value → Shared → Prop} {A0 : List Addr} {n0 : Nat}
theorem use_sr {PL : Led} {TP : Led → Prop} {pg : Addr} {nx : List Nat → Nat → Option (Nat × Nat)} (TL rest : Led) {l : List Nat} {t u : Tok} {col : Int}
    (hP : ProgL PySem.Challenge.rw_mr0049_02.prog w (hd.heap_39 w.params) p loose mean mg mb PL TP pg nx) (hl : l.length < 300) (hc1 : col < 400) (hc0 : -5 < col) (hb : ∀ st a b, st < 450 → nx l st = some (a, b) → st ≤ a ∧ a ≤ b ∧ b < 500)
    (F : Fr h₀ L s.heap m) (X : (hd.heap_39 w.params).In h₀) (N : News h₀ L s.heap news) (T : Top p loose mean mg mb h₀) (hd' : dp + 70 < 1000) (hu : un + 700 < 9900) (tp : TP TL) (hTL : ∀ q ∈ TL, q ∈ news) (hPL : ∀ q ∈ PL, q ∈ news) (hr : ∀ q ∈ rest, q ∈ news ∧ isTab q.2 = false)
    (hn : n0 ≤ s.heap.objs.size) (had : Adr A0 n0 TL)
    (h1 : srOf (nx l) col = none → ∀ (h' : Heap) (tk : Nat) (TL' : Led), TP TL' → Adr A0 n0 TL' → Fr h₀ L h' m → News h₀ L h' (TL' ++ (PL ++ rest)) → Q .none { s with heap := h', toks := tk })
    (h2 : ∀ i j, srOf (nx l) col = some (i, j) → ∀ (hit : Addr) (HL : Led) (h' : Heap) (tk : Nat) (TL' : Led), TP TL' → Adr A0 n0 TL' → Adr A0 n0 HL → HitL PySem.Challenge.rw_mr0049_02.prog w (hd.heap_39 w.params) p loose mean mg mb HL hit (i : Int) (j : Int) → Fr h₀ L h' m → News h₀ L h' (TL' ++ (PL ++ (HL ++ rest))) → Q (.ref hit) { s with heap := h', toks := tk }) :
    wpAny (model PySem.Challenge.rw_mr0049_02.prog w) (arA dp un fr gd) (call (.ref 21) [.ref pg, .str (S l) t, .int col u]) Q E s := by
  have NT := nSub N hTL
  have NP := nSub N hPL
  have NR := nSub N fun q hq => (hr q hq).1
  have hPT : ∀ q ∈ PL, isTab q.2 = false := by
    obtain ⟨_, _, _, _, _, _, _, _, _, z, _, _⟩ := hP; exact z
  have hz := hn
  refine sr_ok w p loose mean mg mb PL TP pg nx hP l hl t u col hc1 hc0 hb dp un fr gd s Q E TL (X.keeps (keeps_hide F (nApp NT NP))) (T.keeps (keeps_hide F (nApp NT NP))) hd' hu tp ((News.has NT).app (News.has NP)) ⟨fun e h' tk TL' k t' => ?_, fun i j e hit HL h' tk TL' k t' hH hh ad => ?_⟩
  · obtain ⟨a, b, c⟩ := k.news F NT (nApp NP NR) fun q hq => .inr ((List.mem_append.mp hq).elim (hPT q) fun z => (hr q z).2)
    exact h1 e h' tk TL' t' (had.trans hz k.adr) a (nApp b c)
  · obtain ⟨a, b, c⟩ := k.news F NT (nApp NP NR) fun q hq => .inr ((List.mem_append.mp hq).elim (hPT q) fun z => (hr q z).2)
    have d := fresh_news F NT hh ad
    exact h2 i j e hit HL h' tk TL' t' (had.trans hz k.adr) (had.trans hz ad) hH a (nApp b (nApp (nSub c fun q hq => List.mem_append.mpr (.inl hq)) (nApp d (nSub c fun q hq => List.mem_append.mpr (.inr hq)))))
theorem use_lawprog (Z rest : Led) 
    (F : Fr h₀ L s.heap m) (X : (hd.heap_39 w.params).In h₀) (N : News h₀ L s.heap news) (T : Top p loose mean mg mb h₀) (C : CodeHd h₀ 76 72) (hd' : dp + 70 < 1000) (hu : un + 700 < 9900) (tp : TP0 Z) (hTL : ∀ q ∈ Z, q ∈ news) (hr : ∀ q ∈ rest, q ∈ news ∧ isTab q.2 = false)
    (hn : n0 ≤ s.heap.objs.size) (had : Adr A0 n0 Z)
    (h : ∀ pg PL P' h' tk Z', TPP P' Z' → ProgL PySem.Challenge.rw_mr0049_02.prog w (hd.heap_39 w.params) p loose mean mg mb PL (TPP P') pg nx2 → Adr A0 n0 Z' → Adr A0 n0 PL → Fr h₀ L h' m → News h₀ L h' (Z' ++ (PL ++ rest)) → Q (.ref pg) { s with heap := h', toks := tk }) :
    wpAny (model PySem.Challenge.rw_mr0049_02.prog w) (arA dp un fr gd) (call (.ref 77) []) Q E s := by
  have NT := nSub N hTL
  have NR := nSub N fun q hq => (hr q hq).1
  have hz := hn
  refine prog_ok w p loose mean mg mb dp un fr gd s Q E Z (X.keeps (keeps_hide F NT)) (T.keeps (keeps_hide F NT)) hd' hu (News.has NT) (C.keeps (keeps_hide F NT)) tp fun pg PL P' h' tk Z' k tp' hP hh ad => ?_
  obtain ⟨a, b, c⟩ := k.news F NT NR fun q hq => .inr (hr q hq).2
  have d := fresh_news F NT hh ad
  exact h pg PL P' h' tk Z' tp' hP (had.trans hz k.adr) (had.trans hz ad) a (nApp b (nApp d c))
end
end
section
open PySem PySem.W PyProof.Rows
set_option Elab.async false
set_option maxRecDepth 100000
set_option maxHeartbeats 40000000

theorem ln_10 : True := by
  k_with_none
  k_with "mI" => (first | omega | (simp only [List.length_cons, List.length_nil, List.length_append, List.length_take, List.length_drop, List.length_replicate, List.length_map, List.length_range, S_len, sizeLine_eq]; omega) | (simp only [List.length_cons, List.length_nil, List.length_append, List.length_take, List.length_drop, List.length_replicate, List.length_map, List.length_range, S_len, sizeLine_eq] at *; omega))
  k_with "mItem" => (first
  | ((with_reducible show wpAny _ _ (subscriptTail _ _ (Value.str (S (_ :: _)) _) (Value.int 0 _)) _ _ _); refine r_it0 (by walk_at "mI") ?_)
  | ((with_reducible show wpAny _ _ (subscriptTail _ _ (Value.str (S (_ :: _ :: _)) _) (Value.int 1 _)) _ _ _); refine r_it1 (by walk_at "mI") ?_)
  | ((with_reducible show wpAny _ _ (subscriptTail _ _ (Value.str (S _) _) (Value.int _ _)) _ _ _); refine r_item (by walk_at "mI") (by walk_at "mI") (by walk_at "mI") ?_))
  k_with "mSlice" => (((with_reducible rename Fr _ _ _ _ => F'); (with_reducible rename News _ _ _ _ => N'); (first
  | ((with_reducible show wpAny _ _ (subscriptTail _ (Expr.Slice (some _) none none _) (Value.str (S (_ :: _)) _) _) _ _ _); refine r_sl1 (s := ⟨_, _, _, _, _⟩) F' N' (by walk_at "mI") ?_)
  | refine r_ss (s := ⟨_, _, _, _, _⟩) F' N' (by walk_at "mI") (by walk_at "mI") (by walk_at "mI") ?_
  | refine r_sn (s := ⟨_, _, _, _, _⟩) F' N' (by walk_at "mI") (by walk_at "mI") ?_
  | refine r_ns (s := ⟨_, _, _, _, _⟩) F' N' (by walk_at "mI") (by walk_at "mI") ?_); intro _ _ _ _ _))
  k_with "subscriptTail" => (first | walk_at "mItem" | walk_at "mSlice")
  k_with "subscriptTail Name Name str int" => (walk_at "mItem")
  k_with "subscriptTail Name Constant str int" => (walk_at "mItem")
  k_with "subscriptTail Name Slice str ref" => (walk_at "mSlice")
  k_with "eval Constant str" => ((with_reducible first | refine r_const lit_bang ?_ | refine r_const lit_hat ?_ | refine r_const lit_q ?_ | refine r_const lit_thorn ?_ | refine r_const lit_del ?_ | refine r_const lit_ff ?_ | refine r_const lit_A ?_ | refine r_const lit_hq ?_ | refine r_const lit_h9 ?_ | refine r_const lit_sp ?_ | refine r_const lit_tilde ?_ | refine r_const lit_fe ?_ | refine r_const lit_hT ?_ | refine r_const lit_e ?_ | refine r_const lit_marks ?_))
  k_with "call builtin:len" => (first
  | ((with_reducible show wpAny _ _ (call (Value.builtin "len") [Value.str (S [_]) _]) _ _ _); refine r_len1 ?_)
  | ((with_reducible show wpAny _ _ (call (Value.builtin "len") [Value.str (S [_, _]) _]) _ _ _); refine r_len2 ?_)
  | ((with_reducible show wpAny _ _ (call (Value.builtin "len") [Value.str (S [_, _, _]) _]) _ _ _); refine r_len3 ?_)
  | ((with_reducible show wpAny _ _ (call (Value.builtin "len") [Value.str (S _) _]) _ _ _); refine r_len (by walk_at "mI") ?_))
  k_with "compareOp Eq str str" => (((with_reducible show wpAny _ _ (compareOp _ (Value.str (S _) _) (Value.str (S _) _)) _ _ _); refine r_eq ?_))
  k_with "compareOp NotEq str str" => (((with_reducible show wpAny _ _ (compareOp _ (Value.str (S _) _) (Value.str (S _) _)) _ _ _); refine r_ne ?_))
  k_with "compareOp In str str" => (((with_reducible show wpAny _ _ (compareOp _ (Value.str (S _) _) (Value.str (S _) _)) _ _ _); refine r_in ?_))
  k_with "compareOp Gt str str" => (((with_reducible show wpAny _ _ (compareOp _ (Value.str (S _) _) (Value.str (S _) _)) _ _ _); refine r_gt ?_))
  k_with "compareOp LtE str str" => (((with_reducible show wpAny _ _ (compareOp _ (Value.str (S _) _) (Value.str (S _) _)) _ _ _); refine r_le ?_))
  k_with "binaryOp Add str str" => (((with_reducible show wpAny _ _ (binaryOp _ (Value.str (S _) _) (Value.str (S _) _)) _ _ _); refine r_add ?_ (by walk_at "mI"); intro _ _))
  k_with "inplaceOp Add str str" => (((with_reducible show wpAny _ _ (inplaceOp _ (Value.str (S _) _) (Value.str (S _) _)) _ _ _); refine r_iadd ?_ (by walk_at "mI"); intro _ _))
  k_with "call builtin:ord" => (((with_reducible show wpAny _ _ (call (Value.builtin "ord") [Value.str (S _) _]) _ _ _); refine r_ord ?_))
  k_with "call builtin:chr" => ((refine r_chr (by walk_at "mChr") (by walk_at "mChr") ?_))
  k_with "mChr" => (first | omega | (split <;> omega))
  k_with "mRoom" => (((try simp only [depth_mark, depth_under_make, depth_under_kw, depth_in1, depth_deeper, depth_caller, units_in1, units_deeper, Around.mark_units, units_caller]); (try dsimp only [arA]); omega))
  k_with "mClean" => (((try clear hret); (repeat (with_reducible rename Fr _ _ _ _ => x9; clear x9)); (repeat (with_reducible rename News _ _ _ _ => x9; clear x9)); (repeat (with_reducible rename Below _ _ _ _ => x9; clear x9)); (repeat (with_reducible rename Top _ _ _ _ _ _ => x9; clear x9)); (repeat (with_reducible rename Frag.In _ _ => x9; clear x9))))
  k_with "mUse2" => (((intro t9 h9 tk9 F9 N9); (try dsimp only); (try k_fold)))
  k_with "binaryOp BitAnd int int" => (first
  | ((with_reducible show wpAny _ _ (binaryOp _ (Value.int _ _) (Value.int 127 _)) _ _ _); refine r_and127 ?_)
  | ((with_reducible show wpAny _ _ (binaryOp _ (Value.int _ _) (Value.int 31 _)) _ _ _); refine r_and31 ?_)
  | ((with_reducible show wpAny _ _ (binaryOp _ (Value.int _ _) (Value.int 128 _)) _ _ _); refine r_and128 (by omega) ?_ ?_ <;> intro _))
  k_with "binaryOp BitOr int int" => (first
  | ((with_reducible show wpAny _ _ (binaryOp _ (Value.int _ _) (Value.int 32 _)) _ _ _); refine r_or32 (by omega) ?_ ?_ <;> intro _)
  | ((with_reducible show wpAny _ _ (binaryOp _ (Value.int _ _) (Value.int 128 _)) _ _ _); refine r_or128 (by omega) ?_ ?_ <;> intro _))
  k_with "inplaceOp Add ref ref" => ((k_here; k_dflt (refine iadd_K (by k_asm) (by k_asm) (by k_mem) (by k_upd) (by exact Nat.le_of_ble_eq_true rfl) (by exact Nat.le_of_ble_eq_true rfl) ?_; k_whole); intro h' F' N'; (try dsimp only [List.cons_append, List.nil_append] at N'); (try k_sweep)))
  trivial
/-- what _law_code gives -/
def codeZ (x : Int) : Int :=
  ([33, 94, 222, x / 16 % 32, 127, 128 + x / 16 % 32, 160 + x / 16 % 95, 255, 63 + x / 16 % 33, 32 + x / 16 % 95, 33, 94, 30, 161, 65, x / 16 % 256] : List Int).getD (x % 16).toNat 0
def codeN (x : Int) : Nat := (codeZ x).toNat
theorem codeZ_in (x : Int) : 0 ≤ codeZ x ∧ codeZ x < 256 := by
  have a := Int.emod_nonneg (x / 16) (b := 32) (by omega)
  have a' := Int.emod_lt_of_pos (x / 16) (b := 32) (by omega)
  have b := Int.emod_nonneg (x / 16) (b := 95) (by omega)
  have b' := Int.emod_lt_of_pos (x / 16) (b := 95) (by omega)
  have c := Int.emod_nonneg (x / 16) (b := 33) (by omega)
  have c' := Int.emod_lt_of_pos (x / 16) (b := 33) (by omega)
  have d := Int.emod_nonneg (x / 16) (b := 256) (by omega)
  have d' := Int.emod_lt_of_pos (x / 16) (b := 256) (by omega)
  unfold codeZ
  generalize x / 16 % 32 = a0 at *
  generalize x / 16 % 95 = b0 at *
  generalize x / 16 % 33 = c0 at *
  generalize x / 16 % 256 = d0 at *
  have hl : ∀ z ∈ ([33, 94, 222, a0, 127, 128 + a0, 160 + b0, 255, 63 + c0, 32 + b0, 33, 94, 30, 161, 65, d0] : List Int), 0 ≤ z ∧ z < 256 := by
    simp only [List.forall_mem_cons, List.not_mem_nil, false_implies, implies_true, and_true]
    omega
  rw [List.getD_eq_getElem?_getD]
  cases h : ([33, 94, 222, a0, 127, 128 + a0, 160 + b0, 255, 63 + c0, 32 + b0, 33, 94, 30, 161, 65, d0] : List Int)[(x % 16).toNat]? with
  | none => decide
  | some z => exact hl z (List.mem_of_getElem? h)
theorem codeN_eq (x : Int) : ((codeN x : Nat) : Int) = codeZ x := Int.toNat_of_nonneg (codeZ_in x).1
theorem codeN_lt (x : Int) : codeN x < 256 := by have := codeN_eq x; have := codeZ_in x; omega
theorem code_eq (x : Int) : ([33, 94, 222, (x.fdiv 16).fmod 32, 127, 128 + (x.fdiv 16).fmod 32, 160 + (x.fdiv 16).fmod 95, 255, 63 + (x.fdiv 16).fmod 33, 32 + (x.fdiv 16).fmod 95, 33, 94, 30, 161, 65, (x.fdiv 16).fmod 256] : List Int).getD (x.fmod 16).toNat 0 = (codeN x : Nat) := by
  have e1 : x.fdiv 16 = x / 16 := Int.fdiv_eq_ediv_of_nonneg x (by omega)
  have e2 : ∀ (y : Int) (k : Nat), y.fmod k = y % k := fun y k => Int.fmod_eq_emod_of_nonneg y (by omega)
  rw [codeN_eq, e1]
  simp only [show (16 : Int) = ((16 : Nat) : Int) from rfl, show (32 : Int) = ((32 : Nat) : Int) from rfl, show (95 : Int) = ((95 : Nat) : Int) from rfl, show (33 : Int) = ((33 : Nat) : Int) from rfl, show (256 : Int) = ((256 : Nat) : Int) from rfl, e2]
  rfl

theorem code_ok (w : World) (p : Program) (loose : List Str) (mean : ExcName → Option Value) (mg mb : Str → Option Value) (x : Int) (t : Tok) :
  PCl 10 PySem.Challenge.rw_mr0049_02.prog w (hd.heap_39 w.params) p loose mean mg mb 63 [.int x t] (fun t => .int (codeN x : Nat) t) := by
  w_top off
  dsimp only [PCl]
  k_fill
  intro dp un fr gd s Q E X T hdp hun hret
  refine wpAny_call ?_
  k_dflt (refine' code_pure ?k3 ?k5 ?k6 ?k7 ?k8 ?k9 ?kB ?_ ?c2 ?c3 ?c4 ?c5; (case k3 => assumption); (case k5 => assumption); (case k6 => k_is); (case k7 => k_is); (case k8 => (show dp < 1000); omega); (case k9 => exact BindsTo.of_eq rfl); (case c5 => decide); (case kB => exact locs rfl); (case c2 => exact rfl); (case c3 => exact rfl); (case c4 => exact rfl); k_whole; intro L' h' F' N')
  k_steps
  all_goals refine pc_retI (s := s) hret ?_ (by k_asm)
  all_goals walk_at "mClean"
  all_goals exact code_eq x
end
section
open PySem PySem.W PyProof.Rows
set_option Elab.async false
set_option maxRecDepth 100000
section
variable {prog : Program} {w : World} {A : Around} {E : Value → Shared → Prop} {Q : Flow → Shared → Prop} {s : Shared} {env : Env} {h₀ : Heap} {L : Addr}
/-- what a walk by an iterator at it leaves -/
theorem walk_loop {target : Expr} {it : Addr} {fp : List Addr} {n : Nat} {P : Nat → Value → Prop} {St : Nat → Heap → Prop} {body : List Stmt} {m₀ : Str → Option Value} {news₀ : List (Addr × Obj)} (J : Nat → (Str → Option Value) → List (Addr × Obj) → Prop)
    (W : Walks prog w A it fp [it] n P St) (hst : St 0 s.heap) (hito : ∀ i h, St i h → ∃ o, h.get? it = some o ∧ isTab o = false) (F : Fr h₀ L s.heap m₀) (N : News h₀ L s.heap news₀) (hL : L ≠ it) (itN : h₀.get? it = none) (hJ0 : J 0 m₀ news₀)
    (off : ∀ i m nx, J i m nx → ∀ p ∈ nx, p.1 ≠ it)
    (turn : ∀ i v m nx h tk o, isTab o = false → i < n → P i v → J i m nx → Fr h₀ L h m → News h₀ L h ((it, o) :: nx) →
      wpAny (model prog w) A (assign target env v) (fun _ s₂ => wpAny (model prog w) A (execs body env) (TurnEnd h₀ L s it o (J (i + 1)) Q) E s₂) E { s with heap := h, toks := tk })
    (done : ∀ m nx h tk, J n m nx → Fr h₀ L h m → News h₀ L h nx → Q .next { s with heap := h, toks := tk })
    (hE : PassesOwn (model prog w) A env E) (hSt : ∀ i h h' m nx, J (i + 1) m nx → St (i + 1) h → (∃ o, h.get? it = some o ∧ h'.get? it = some o) → Fr h₀ L h' m → News h₀ L h' nx → St (i + 1) h')
    (ht : ∀ v, letOwnedTupleGo target (.ref it) v = pure () := by intro _; rfl) :
    codeAny (model prog w) A (.forLoop target (.ref it) body [] env) (fun r s' => match r with | .ok f => Q f s' | .error e => cameBackBy (model prog w) A env E e s') s := by
  refine codeAny_forLoop (fun k s' => ∃ i h tk m nx, s' = { s with heap := h, toks := tk } ∧ i ≤ n ∧ k = n + 1 - i ∧ St i h ∧ Fr h₀ L h m ∧ News h₀ L h nx ∧ J i m nx) ?_ (n + 1)
    ⟨0, _, _, m₀, news₀, rfl, Nat.zero_le _, rfl, hst, F, N, hJ0⟩ ht
  rintro k s' ⟨i, h, tk, m, nx, rfl, hi, rfl, hst, F1, N1, hJ⟩
  have mv : ∀ h', (∀ b o, b ∉ [it] → h.get? b = some o → h'.get? b = some o) → Fr h₀ L h' m ∧ News h₀ L h' nx := fun h' hk => by
    obtain ⟨oL, a1, a2, hL', a3⟩ := F1.ns
    refine ⟨⟨⟨oL, a1, a2, hk _ _ (by simpa using hL) hL', a3⟩, fun b o e => hk b o (by simp only [List.mem_singleton]; rintro rfl; rw [itN] at e; cases e) (F1.keep b o e), F1.above⟩, fun p hp => ⟨hk _ _ (by simpa using off i m nx hJ p hp) (N1 p hp).1, (N1 p hp).2⟩⟩
  by_cases hlt : i < n
  · refine W.item i _ _ _ hlt hst fun v h' tk' hv hst' hk => ?_
    obtain ⟨F2, N2⟩ := mv h' hk
    obtain ⟨o, ho, hio⟩ := hito _ _ hst'
    have N3 : News h₀ L h' ((it, o) :: nx) := fun p hp => by
      rcases List.mem_cons.mp hp with rfl | hp
      · exact ⟨ho, hL.symm, itN⟩
      · exact N2 p hp
    refine wpAny_passesOwn hE (wpAny_mono (turn i v m nx h' tk' o hio hlt hv hJ F2 N3) (fun _ s₂ z => ?_) fun _ _ e => e)
    refine wpAny_passesOwn hE (wpAny_mono z (fun f s₃ z2 => ?_) fun _ _ e => e)
    have go : (∃ h'' tk'' m' nx', s₃ = { s with heap := h'', toks := tk'' } ∧ Fr h₀ L h'' m' ∧ News h₀ L h'' ((it, o) :: nx') ∧ J (i + 1) m' nx') →
        ∃ k', k' < n + 1 - i ∧ ∃ i h tk m nx, s₃ = { s with heap := h, toks := tk } ∧ i ≤ n ∧ k' = n + 1 - i ∧ St i h ∧ Fr h₀ L h m ∧ News h₀ L h nx ∧ J i m nx := by
      rintro ⟨h2, tk2, m2, nx2, rfl, F4, N4, J4⟩
      have N5 : News h₀ L h2 nx2 := fun p hp => N4 p (List.Mem.tail _ hp)
      exact ⟨n + 1 - (i + 1), by omega, i + 1, h2, tk2, m2, nx2, rfl, hlt, rfl, hSt i _ _ _ _ J4 hst' ⟨o, ho, (N4 _ (List.Mem.head _)).1⟩ F4 N5, F4, N5, J4⟩
    cases f with
    | next => exact go z2
    | cont => exact go z2
    | brk => exact z2
    | ret v => exact z2
  · obtain rfl : i = n := by omega
    refine W.done _ _ _ hst fun h' tk' hk => wpAny_execs_nil ?_
    obtain ⟨F2, N2⟩ := mv h' hk
    exact done m nx h' tk' hJ F2 N2
/-- for target in a list that stays as it is -/
theorem for_listG {target : Expr} {D0 : Addr} {ws : List Value} {body : List Stmt} {m₀ : Str → Option Value} {news₀ : List (Addr × Obj)} (J : Nat → (Str → Option Value) → List (Addr × Obj) → Prop)
    (hh : A.handled = none) (F : Fr h₀ L s.heap m₀) (N : News h₀ L s.heap news₀) (hls : s.heap.IsList D0 ws.toArray) (hJ0 : J 0 m₀ news₀)
    (hD : ∀ i m nx h, J i m nx → Fr h₀ L h m → News h₀ L h nx → h.IsList D0 ws.toArray)
    (off : ∀ i m nx, J i m nx → ∀ p ∈ nx, p.1 ≠ s.heap.objs.size)
    (turn : ∀ i v m nx h tk o, ws[i]? = some v → J i m nx → Fr h₀ L h m → News h₀ L h ((s.heap.objs.size, o) :: nx) →
      wpAny (model prog w) A (assign target env v) (fun _ s₂ => wpAny (model prog w) A (execs body env) (TurnEnd h₀ L s s.heap.objs.size o (J (i + 1)) Q) E s₂) E { s with heap := h, toks := tk })
    (done : ∀ m nx h tk, J ws.length m nx → Fr h₀ L h m → News h₀ L h nx → Q .next { s with heap := h, toks := tk })
    (hE : PassesOwn (model prog w) A env E) (ht : ∀ it v, letOwnedTupleGo target it v = pure () := by intro _ _; rfl) :
    wpAny (model prog w) A (pyIter (.ref D0)) (fun it s₂ => codeAny (model prog w) A (.forLoop target it body [] env) (fun r s' => match r with | .ok f => Q f s' | .error e => cameBackBy (model prog w) A env E e s') s₂) E s := by
  refine wpAny_pyIter_list hls ?_
  obtain ⟨oD, hoD, _⟩ := id hls
  have hlt := Heap.lt_size hoD
  have hLt : L < s.heap.objs.size := F.ns.lt
  have itN : h₀.get? s.heap.objs.size = none := by
    cases q : h₀.get? s.heap.objs.size with
    | none => rfl
    | some o => exact absurd (Heap.lt_size (F.keep _ _ q)) (Nat.lt_irrefl _)
  have st' : ∀ {h' : Heap} {i : Nat}, (∃ h : Heap, (h.IsListIter s.heap.objs.size D0 i ∧ h.IsList D0 ws.toArray) ∧ ∃ o, h.get? s.heap.objs.size = some o ∧ h'.get? s.heap.objs.size = some o) → h'.IsList D0 ws.toArray → h'.IsListIter s.heap.objs.size D0 i ∧ h'.IsList D0 ws.toArray := by
    rintro h' i ⟨h, ⟨⟨o, ho, r⟩, _⟩, o', e1, e2⟩ l
    rw [ho] at e1; cases e1
    exact ⟨⟨o, e2, r⟩, l⟩
  refine walk_loop (s := { s with heap := s.heap.push { cls := .type "list_iterator", data := .fields #[.ref D0, .int 0 0] } }) (m₀ := m₀) (news₀ := news₀) J (Walks.list hh s.heap.objs.size D0 (Nat.ne_of_lt hlt) ws.toArray) ⟨⟨_, Heap.get?_push_size _ rfl, rfl, rfl⟩, hls.at fun o e => Heap.get?_push_of_some _ e⟩
    (fun i h st => by obtain ⟨⟨o, ho, hc, _⟩, _⟩ := st; exact ⟨o, ho, by unfold isTab; rw [hc]⟩) (F.push _) (fun q hq => ⟨Heap.get?_push_of_some _ (N q hq).1, (N q hq).2⟩) (Nat.ne_of_lt hLt) itN hJ0 off
    (fun i v m nx h tk o _ hi hv hJ f n => turn i v m nx h tk o (by simpa using hv) hJ f n) (fun m nx h tk hJ f n => done m nx h tk (by simpa using hJ) f n) hE
    (fun i h h' m nx hJ hs ho f n => st' ⟨h, hs, ho⟩ (hD _ _ _ _ hJ f n)) (ht _)
/-- for target in range(a, b), the range made on the spot; the ledger may grow -/
theorem for_rangeG {target : Expr} {a b : Int} {t u : Tok} {n : Nat} {body : List Stmt} {m₀ : Str → Option Value} {news₀ : List (Addr × Obj)} (J : Nat → (Str → Option Value) → List (Addr × Obj) → Prop)
    (hh : A.handled = none) (F : Fr h₀ L s.heap m₀) (N : News h₀ L s.heap news₀) (hsmall : Builtin.Range.small a b 1 = true) (hn : Builtin.Range.rangeSize a b 1 = (n : Int)) (hJ0 : J 0 m₀ news₀)
    (off : ∀ i m nx, J i m nx → ∀ p ∈ nx, p.1 ≠ s.heap.objs.size + 1)
    (turn : ∀ i m nx h tk o tx, isTab o = false → i < n → J i m nx → Fr h₀ L h m → News h₀ L h ((s.heap.objs.size + 1, o) :: nx) →
      wpAny (model prog w) A (assign target env (.int (a + (i : Int)) tx)) (fun _ s₂ => wpAny (model prog w) A (execs body env) (TurnEnd h₀ L s (s.heap.objs.size + 1) o (J (i + 1)) Q) E s₂) E { s with heap := h, toks := tk })
    (done : ∀ m nx h tk, J n m nx → Fr h₀ L h m → News h₀ L h nx → Q .next { s with heap := h, toks := tk })
    (hE : PassesOwn (model prog w) A env E) (ht : ∀ it v, letOwnedTupleGo target it v = pure () := by intro _ _; rfl) :
    wpAny (model prog w) A (call (.type "range") [.int a t, .int b u]) (fun x s₁ => wpAny (model prog w) A (pyIter x) (fun it s₂ => codeAny (model prog w) A (.forLoop target it body [] env) (fun r s' => match r with | .ok f => Q f s' | .error e => cameBackBy (model prog w) A env E e s') s₂) E s₁) E s := by
  refine call_range_2 ?_
  refine wpAny_pyIter_range (IsRange.new _ _ _ _ _ _ _) hsmall ?_
  rw [hn]
  have hLt : L < s.heap.objs.size := F.ns.lt
  have hsz : ∀ o : Obj, (s.heap.push o).objs.size = s.heap.objs.size + 1 := fun o => Heap.size_push ..
  have itN : h₀.get? (s.heap.objs.size + 1) = none := by
    cases q : h₀.get? (s.heap.objs.size + 1) with
    | none => rfl
    | some o => exact absurd (Nat.lt_trans (Nat.lt_succ_self _) (Heap.lt_size (F.keep _ _ q))) (Nat.lt_irrefl _)
  simp only [hsz]
  refine walk_loop (n := n) (m₀ := m₀) (news₀ := news₀) J (Walks.range hh (s.heap.objs.size + 1) a 1 n) ?_ ?_ ((F.push _).push _) (fun q hq => ⟨Heap.get?_push_of_some _ (Heap.get?_push_of_some _ (N q hq).1), (N q hq).2⟩) (Nat.ne_of_lt (Nat.lt_succ_of_lt hLt)) itN hJ0 off ?_ ?_ hE ?_ (ht _)
  · have := Heap.get?_push_size (h := s.heap.push { cls := .type "range", data := .fields #[.int a t, .int b u, .int 1 s.toks] }) (o := { cls := .type "range_iterator", data := .fields #[rawInt a, rawInt n, rawInt 1] }) rfl
    rw [hsz] at this
    simpa using this
  · intro i h st; exact ⟨_, st, rfl⟩
  · rintro i v m nx h tk o hio hi ⟨tx, rfl⟩ hJ f n
    rw [show a + (i : Int) * 1 = a + (i : Int) by omega]
    exact turn i m nx h tk o tx hio hi hJ f n
  · exact done
  · rintro i h h' m nx hJ hs ⟨o, e1, e2⟩ f n
    rw [hs] at e1; rw [← e1] at e2; exact e2
end
end
section
open PySem PySem.W PyProof.Rows
set_option Elab.async false
set_option maxRecDepth 100000
/-- values that are the ints cs -/
def NatsAre (ws : List Value) (cs : List Nat) : Prop := IntsAre ws (cs.map fun c : Nat => (c : Int))
theorem NatsAre.length {ws : List Value} {cs : List Nat} (h : NatsAre ws cs) : ws.length = cs.length := by have := IntsAre.length h; simpa using this
theorem NatsAre.at' {ws : List Value} {cs : List Nat} (h : NatsAre ws cs) {i : Nat} {v : Value} (e : ws[i]? = some v) : ∃ c t, cs[i]? = some c ∧ v = .int (c : Int) t := by
  obtain ⟨n, t, e1, e2⟩ := IntsAre.at h i v e
  rw [List.getElem?_map] at e2
  cases hc : cs[i]? with
  | none => rw [hc] at e2; cases e2
  | some c => rw [hc] at e2; cases e2; exact ⟨c, t, rfl, e1⟩
theorem NatsAre.none : NatsAre [] [] := IntsAre.nil
theorem NatsAre.push {ws : List Value} {cs : List Nat} (h : NatsAre ws cs) (c : Nat) (t : Tok) : NatsAre (ws ++ [.int (c : Int) t]) (cs ++ [c]) := by
  unfold NatsAre at *
  rw [List.map_append]
  generalize (cs.map fun c : Nat => (c : Int)) = ns at *
  induction h with
  | nil => exact .cons _ _ .nil
  | cons n t h ih => exact .cons _ _ ih
theorem NatsAre.push' {ws : List Value} {cs : List Nat} (h : NatsAre ws cs) (c : Nat) (z : Int) (t : Tok) (e : z = (c : Int)) : NatsAre (ws ++ [.int z t]) (cs ++ [c]) := by subst e; exact h.push c t
section
variable {prog : Program} {w : World} {A : Around} {E : Value → Shared → Prop} {s : Shared} {h₀ : Heap} {L D : Addr} {m : Str → Option Value} {news news' : List (Addr × Obj)} {ws : List Value} {cs : List Nat} {k : Nat} {u : Tok} {value slice : Expr} {Q : Value → Shared → Prop}
theorem r_head (hl : s.heap.IsList D ws.toArray) (hI : NatsAre ws cs) (h0 : 0 < cs.length) (h : ∀ t, Q (.int (cs.getD 0 0 : Nat) t) s)
    (hs : subscripted slice false (.ref D) (.int 0 u) = operate [.ref D, .int 0 u] (getItem (.ref D) (.int 0 u)) := by with_unfolding_all rfl) :
    wpAny (model prog w) A (subscriptTail value slice (.ref D) (.int 0 u)) Q E s := by
  have hlen := hI.length
  have hw : 0 < ws.length := by omega
  obtain ⟨c, t, e1, e2⟩ := hI.at' (i := 0) (v := ws[0]) (by simp [hw])
  have : cs.getD 0 0 = c := by rw [List.getD_eq_getElem?_getD, e1]; rfl
  refine tail_any hl.typeIs F.slot_list_getitem.lookup (wpAny_getItem_list (x := ws[0]) hl (by omega) (by omega) (by simp [hw]) ?_) hs
  rw [e2, ← this]; exact h t
theorem r_append {x : Value} {Q : Value → Shared → Prop} (F : Fr h₀ L s.heap m) (N : News h₀ L s.heap news) (U : Upd D (listOf ws.toArray k) (listOf (ws ++ [x]).toArray (k + 1)) news news') (hsz : ws.length ≤ 1000)
    (h : ∀ h', Fr h₀ L h' m → News h₀ L h' news' → Q .none { s with heap := h' }) : wpAny (model prog w) A (call (.builtin "list.append") [.ref D, x]) Q E s :=
  append_K F N (by rw [List.push_toArray]; exact U) h (by rw [sizeLine_eq]; simp; omega)
theorem r_appendN {x : Value} {Q : Value → Shared → Prop} (F : Fr h₀ L s.heap m) (N : News h₀ L s.heap news) (U : Upd D (listOf ws.toArray k) (listOf (ws ++ [x]).toArray (k + 1)) news news') (hA : NatsAre ws cs) (hsz : cs.length ≤ 1000)
    (h : ∀ h', Fr h₀ L h' m → News h₀ L h' news' → Q .none { s with heap := h' }) : wpAny (model prog w) A (call (.builtin "list.append") [.ref D, x]) Q E s :=
  r_append F N U (by rw [hA.length]; exact hsz) h
end
theorem news1 {h₀ h : Heap} {L a : Addr} {o1 : Obj} {r : List (Addr × Obj)} (_ : News h₀ L h ((a, o1) :: r)) {G : Prop} (k : ∀ b', b' = a → G) : G := k a rfl
theorem news2 {h₀ h : Heap} {L a b : Addr} {o1 o2 : Obj} (_ : News h₀ L h [(a, o1), (b, o2)]) {G : Prop} (k : ∀ b', b' = b → G) : G := k b rfl
theorem newsh {h₀ h : Heap} {L : Addr} {r : List (Addr × Obj)} (_ : News h₀ L h r) {G : Prop} (k : ∀ h', h' = h → G) : G := k h rfl
end
section
open PySem PySem.W PyProof.Rows
set_option Elab.async false
set_option maxRecDepth 100000
set_option maxHeartbeats 40000000

theorem ln_11 : True := by
  k_with_none
  k_with "mI" => (first | omega | (simp only [List.length_cons, List.length_nil, List.length_append, List.length_take, List.length_drop, List.length_replicate, List.length_map, List.length_range, S_len, sizeLine_eq]; omega) | (simp only [List.length_cons, List.length_nil, List.length_append, List.length_take, List.length_drop, List.length_replicate, List.length_map, List.length_range, S_len, sizeLine_eq] at *; omega))
  k_with "mItem" => (first
  | ((with_reducible show wpAny _ _ (subscriptTail _ _ (Value.str (S (_ :: _)) _) (Value.int 0 _)) _ _ _); refine r_it0 (by walk_at "mI") ?_)
  | ((with_reducible show wpAny _ _ (subscriptTail _ _ (Value.str (S (_ :: _ :: _)) _) (Value.int 1 _)) _ _ _); refine r_it1 (by walk_at "mI") ?_)
  | ((with_reducible show wpAny _ _ (subscriptTail _ _ (Value.str (S _) _) (Value.int _ _)) _ _ _); refine r_item (by walk_at "mI") (by walk_at "mI") (by walk_at "mI") ?_))
  k_with "mSlice" => (((with_reducible rename Fr _ _ _ _ => F'); (with_reducible rename News _ _ _ _ => N'); (first
  | ((with_reducible show wpAny _ _ (subscriptTail _ (Expr.Slice (some _) none none _) (Value.str (S (_ :: _)) _) _) _ _ _); refine r_sl1 (s := ⟨_, _, _, _, _⟩) F' N' (by walk_at "mI") ?_)
  | refine r_ss (s := ⟨_, _, _, _, _⟩) F' N' (by walk_at "mI") (by walk_at "mI") (by walk_at "mI") ?_
  | refine r_sn (s := ⟨_, _, _, _, _⟩) F' N' (by walk_at "mI") (by walk_at "mI") ?_
  | refine r_ns (s := ⟨_, _, _, _, _⟩) F' N' (by walk_at "mI") (by walk_at "mI") ?_); intro _ _ _ _ _))
  k_with "subscriptTail" => (first | walk_at "mItem" | walk_at "mSlice")
  k_with "subscriptTail Name Name str int" => (walk_at "mItem")
  k_with "subscriptTail Name Constant str int" => (walk_at "mItem")
  k_with "subscriptTail Name Slice str ref" => (walk_at "mSlice")
  k_with "eval Constant str" => ((with_reducible first | refine r_const lit_bang ?_ | refine r_const lit_hat ?_ | refine r_const lit_q ?_ | refine r_const lit_thorn ?_ | refine r_const lit_del ?_ | refine r_const lit_ff ?_ | refine r_const lit_A ?_ | refine r_const lit_hq ?_ | refine r_const lit_h9 ?_ | refine r_const lit_sp ?_ | refine r_const lit_tilde ?_ | refine r_const lit_fe ?_ | refine r_const lit_hT ?_ | refine r_const lit_e ?_ | refine r_const lit_marks ?_))
  k_with "call builtin:len" => (first
  | ((with_reducible show wpAny _ _ (call (Value.builtin "len") [Value.str (S [_]) _]) _ _ _); refine r_len1 ?_)
  | ((with_reducible show wpAny _ _ (call (Value.builtin "len") [Value.str (S [_, _]) _]) _ _ _); refine r_len2 ?_)
  | ((with_reducible show wpAny _ _ (call (Value.builtin "len") [Value.str (S [_, _, _]) _]) _ _ _); refine r_len3 ?_)
  | ((with_reducible show wpAny _ _ (call (Value.builtin "len") [Value.str (S _) _]) _ _ _); refine r_len (by walk_at "mI") ?_))
  k_with "compareOp Eq str str" => (((with_reducible show wpAny _ _ (compareOp _ (Value.str (S _) _) (Value.str (S _) _)) _ _ _); refine r_eq ?_))
  k_with "compareOp NotEq str str" => (((with_reducible show wpAny _ _ (compareOp _ (Value.str (S _) _) (Value.str (S _) _)) _ _ _); refine r_ne ?_))
  k_with "compareOp In str str" => (((with_reducible show wpAny _ _ (compareOp _ (Value.str (S _) _) (Value.str (S _) _)) _ _ _); refine r_in ?_))
  k_with "compareOp Gt str str" => (((with_reducible show wpAny _ _ (compareOp _ (Value.str (S _) _) (Value.str (S _) _)) _ _ _); refine r_gt ?_))
  k_with "compareOp LtE str str" => (((with_reducible show wpAny _ _ (compareOp _ (Value.str (S _) _) (Value.str (S _) _)) _ _ _); refine r_le ?_))
  k_with "binaryOp Add str str" => (((with_reducible show wpAny _ _ (binaryOp _ (Value.str (S _) _) (Value.str (S _) _)) _ _ _); refine r_add ?_ (by walk_at "mI"); intro _ _))
  k_with "inplaceOp Add str str" => (((with_reducible show wpAny _ _ (inplaceOp _ (Value.str (S _) _) (Value.str (S _) _)) _ _ _); refine r_iadd ?_ (by walk_at "mI"); intro _ _))
  k_with "call builtin:ord" => (((with_reducible show wpAny _ _ (call (Value.builtin "ord") [Value.str (S _) _]) _ _ _); refine r_ord ?_))
  k_with "call builtin:chr" => ((refine r_chr (by walk_at "mChr") (by walk_at "mChr") ?_))
  k_with "mChr" => (first | omega | (split <;> omega))
  k_with "mRoom" => (((try simp only [depth_mark, depth_under_make, depth_under_kw, depth_in1, depth_deeper, depth_caller, units_in1, units_deeper, Around.mark_units, units_caller]); (try dsimp only [arA]); omega))
  k_with "mClean" => (((try clear hret); (repeat (with_reducible rename Fr _ _ _ _ => x9; clear x9)); (repeat (with_reducible rename News _ _ _ _ => x9; clear x9)); (repeat (with_reducible rename Below _ _ _ _ => x9; clear x9)); (repeat (with_reducible rename Top _ _ _ _ _ _ => x9; clear x9)); (repeat (with_reducible rename Frag.In _ _ => x9; clear x9))))
  k_with "mUse2" => (((intro t9 h9 tk9 F9 N9); (try dsimp only); (try k_fold)))
  k_with "binaryOp BitAnd int int" => (first
  | ((with_reducible show wpAny _ _ (binaryOp _ (Value.int _ _) (Value.int 127 _)) _ _ _); refine r_and127 ?_)
  | ((with_reducible show wpAny _ _ (binaryOp _ (Value.int _ _) (Value.int 31 _)) _ _ _); refine r_and31 ?_)
  | ((with_reducible show wpAny _ _ (binaryOp _ (Value.int _ _) (Value.int 128 _)) _ _ _); refine r_and128 (by omega) ?_ ?_ <;> intro _))
  k_with "binaryOp BitOr int int" => (first
  | ((with_reducible show wpAny _ _ (binaryOp _ (Value.int _ _) (Value.int 32 _)) _ _ _); refine r_or32 (by omega) ?_ ?_ <;> intro _)
  | ((with_reducible show wpAny _ _ (binaryOp _ (Value.int _ _) (Value.int 128 _)) _ _ _); refine r_or128 (by omega) ?_ ?_ <;> intro _))
  trivial
abbrev Tri := Nat × Nat × List Nat
def sgn (c : Nat) : Nat := 1 + c / 128 + (if c % 128 < 32 ∨ c % 128 = 127 then 1 else 0)
def mgo : Nat → Nat → List Nat → List Nat → List Tri
  | first, place, row, [] => if row = [] then [] else [(first, place, row)]
  | first, place, row, c :: r => if 1 < sgn c then mgo first (place + sgn c) (row ++ [c]) r else (if row = [] then [] else [(first, place, row)]) ++ (place, place, []) :: mgo (place + 1) (place + sgn c) [] r
abbrev tupO (vs : List Value) : Obj := { cls := .type "tuple", data := .seq vs.toArray }
def MatAt (Z : List (Addr × Obj)) (v : Value) (x : Tri) : Prop := ∃ T r ta tb ws k, v = .ref T ∧ (T, tupO [.int (x.1 : Nat) ta, .int (x.2.1 : Nat) tb, .ref r]) ∈ Z ∧ (r, listOf ws.toArray k) ∈ Z ∧ NatsAre ws x.2.2
inductive MatsAre (Z : List (Addr × Obj)) : List Value → List Tri → Prop
  | nil : MatsAre Z [] []
  | cons {v x vs xs} : MatAt Z v x → MatsAre Z vs xs → MatsAre Z (v :: vs) (x :: xs)
theorem MatAt.sub {Z Z' : List (Addr × Obj)} (h : ∀ q ∈ Z, q ∈ Z') {v : Value} {x : Tri} : MatAt Z v x → MatAt Z' v x := fun ⟨T, r, ta, tb, ws, k, e, a, b, c⟩ => ⟨T, r, ta, tb, ws, k, e, h _ a, h _ b, c⟩
theorem MatsAre.sub {Z Z' : List (Addr × Obj)} (h : ∀ q ∈ Z, q ∈ Z') {vs : List Value} {xs : List Tri} (m : MatsAre Z vs xs) : MatsAre Z' vs xs := by
  induction m with
  | nil => exact .nil
  | cons a _ ih => exact .cons (a.sub h) ih
theorem MatsAre.app {Z : List (Addr × Obj)} {vs vs' : List Value} {xs xs' : List Tri} (m : MatsAre Z vs xs) (m' : MatsAre Z vs' xs') : MatsAre Z (vs ++ vs') (xs ++ xs') := by
  induction m with
  | nil => exact m'
  | cons a _ ih => exact .cons a ih
theorem mat_one {Z : List (Addr × Obj)} {T r : Addr} {a b k : Nat} {ta tb : Tok} {ws : List Value} {row : List Nat} (h1 : (T, tupO [.int (a : Nat) ta, .int (b : Nat) tb, .ref r]) ∈ Z) (h2 : (r, listOf ws.toArray k) ∈ Z) (h3 : NatsAre ws row) : MatsAre Z [.ref T] [(a, b, row)] := .cons ⟨T, r, ta, tb, ws, k, rfl, h1, h2, h3⟩ .nil
theorem MatsAre.length {Z : List (Addr × Obj)} {vs : List Value} {xs : List Tri} (m : MatsAre Z vs xs) : vs.length = xs.length := by
  induction m with
  | nil => rfl
  | cons a _ ih => simp [ih]
theorem ne_gt {r : List (Addr × Obj)} {l it : Addr} (h : ∀ p ∈ r, @LT.lt Nat _ l p.1 ∧ p.1 ≠ it) : ∀ p ∈ r, p.1 ≠ l := fun p hp => Nat.ne_of_gt (h p hp).1
theorem ex_map4 {m : Str → Option Value} {x1 x2 x3 x4 : Str} {v1 v2 v3 v4 : Value} (h1 : m x1 = some v1) (h2 : m x2 = some v2) (h3 : m x3 = some v3) (h4 : m x4 = some v4) :
    ∃ u : Str → Option Value, m = fun y => if y = x1 then some v1 else if y = x2 then some v2 else if y = x3 then some v3 else if y = x4 then some v4 else u y := ⟨m, funext fun y => by
  by_cases e1 : y = x1
  · subst e1; simp [h1]
  by_cases e2 : y = x2
  · subst e2; simp [e1, h2]
  by_cases e3 : y = x3
  · subst e3; simp [e1, e2, h3]
  by_cases e4 : y = x4
  · subst e4; simp [e1, e2, e3, h4]
  simp [e1, e2, e3, e4]⟩
def MtJ (hs : List Nat) (lD it : Nat) (R : List Tri) (i : Nat) (m : Str → Option Value) (nx : List (Addr × Obj)) : Prop :=
  ∃ (rD : Nat) (ML : List (Addr × Obj)) (ms : List Value) (n : Nat) (ws : List Value) (k : Nat) (row : List Nat) (first place : Nat) (tri : List Tri),
    nx = (lD, listOf ms.toArray n) :: (rD, listOf ws.toArray k) :: ML ∧ (lD < rD ∧ rD ≠ it) ∧ (∀ p ∈ ML, @LT.lt Nat _ lD p.1 ∧ p.1 ≠ it) ∧ MatsAre ML ms tri ∧ NatsAre ws row ∧ tri ++ mgo first place row (hs.drop i) = R ∧ place ≤ 3 * i ∧ first ≤ place ∧ row.length ≤ i ∧ tri.length ≤ 2 * i ∧
    ∃ tf tp, ∃ u : Str → Option Value, m = fun y => if y = Str.ofString "matches" then some (.ref lD) else if y = Str.ofString "first" then some (.int (first : Nat) tf) else if y = Str.ofString "place" then some (.int (place : Nat) tp) else if y = Str.ofString "row" then some (.ref rD) else u y
theorem mt_end {h₀ h' : Heap} {L : Addr} {s : Shared} {o : Obj} {cs : List Nat} {lD it rD n k i tk : Nat} {ms ws : List Value} {R tri : List Tri} {row : List Nat} {Q : Flow → Shared → Prop} {m' : Str → Option Value} {nx : List (Addr × Obj)} {tf tp : Tok} {zf zp : Int}
    (ML : List (Addr × Obj)) (first place : Nat) (hM : MatsAre ML ms tri) (hA : NatsAre ws row) (hR : tri ++ mgo first place row (cs.drop (i + 1)) = R) (b1 : place ≤ 3 * (i + 1)) (b2 : first ≤ place) (b3 : row.length ≤ i + 1) (b4 : tri.length ≤ 2 * (i + 1))
    (F : Fr h₀ L h' m') (N : News h₀ L h' nx) (s1 : (it, o) ∈ nx) (s2 : (lD, listOf ms.toArray n) ∈ nx) (s3 : (rD, listOf ws.toArray k) ∈ nx) (s4 : ∀ q ∈ ML, q ∈ nx) (hr : lD < rD ∧ rD ≠ it) (hML : ∀ p ∈ ML, @LT.lt Nat _ lD p.1 ∧ p.1 ≠ it)
    (m1 : m' (Str.ofString "matches") = some (.ref lD)) (m2 : m' (Str.ofString "first") = some (.int zf tf)) (m3 : m' (Str.ofString "place") = some (.int zp tp)) (m4 : m' (Str.ofString "row") = some (.ref rD)) (e1 : zf = (first : Int)) (e2 : zp = (place : Int)) :
    TurnEnd h₀ L s it o (MtJ cs lD it R (i + 1)) Q .next { s with heap := h', toks := tk } := by
  subst e1 e2
  refine ⟨h', tk, m', (lD, listOf ms.toArray n) :: (rD, listOf ws.toArray k) :: ML, rfl, F, fun q hq => ?_, rD, ML, ms, n, ws, k, row, first, place, tri, rfl, hr, hML, hM, hA, hR, b1, b2, b3, b4, tf, tp, ex_map4 m1 m2 m3 m4⟩
  simp only [List.mem_cons] at hq
  rcases hq with rfl | rfl | rfl | hq
  · exact N _ s1
  · exact N _ s2
  · exact N _ s3
  · exact N _ (s4 q hq)
theorem sgn_lo {c : Nat} (h : c % 128 < 32 ∨ c % 128 = 127) : sgn c = 1 + c / 128 + 1 := by unfold sgn; rw [if_pos h]
theorem sgn_hi {c : Nat} (h : ¬ (c % 128 < 32 ∨ c % 128 = 127)) : sgn c = 1 + c / 128 := by unfold sgn; rw [if_neg h]; rfl
theorem mgo_more {first place c : Nat} {row r : List Nat} (h : 1 < sgn c) : mgo first place row (c :: r) = mgo first (place + sgn c) (row ++ [c]) r := by
  conv => lhs; unfold mgo
  rw [if_pos h]
theorem mgo_one {first place c : Nat} {row r : List Nat} (h : ¬ 1 < sgn c) : mgo first place row (c :: r) = (if row = [] then [] else [(first, place, row)]) ++ (place, place, []) :: mgo (place + 1) (place + sgn c) [] r := by
  conv => lhs; unfold mgo
  rw [if_neg h]
theorem map_nil {row : List Nat} {b : Bool} (h : decide (row.map (fun c : Nat => (c : Int)) = []) = b) : decide (row = []) = b := by
  rw [← h]; congr 1; simp
theorem nats_more {ws : List Value} {row : List Nat} {c : Nat} (h : IntsAre ws (row.map (fun c : Nat => (c : Int)) ++ [(c : Int)])) : NatsAre ws (row ++ [c]) := by
  unfold NatsAre; rw [List.map_append]; exact h

theorem ln_12 : True := by
  k_with "binaryOp Mod int int" => (refine r_mod (by decide) ?_)
  k_with "binaryOp FloorDiv int int" => (refine r_fdiv (by decide) (by decide) ?_)
  k_with "exec For" => (refine hold ?_)
  k_with "exec For Name Name cons nil" => (refine hold ?_)
  k_with "pyIter ref" => (refine hold ?_)
  k_with "TurnEnd" => (refine hold ?_)
  k_with "call builtin:list.append" => ((k_here; (with_reducible show wpAny _ _ (call (Value.builtin _) [Value.ref _, _]) _ _ _); k_dflt (refine r_append (by k_asm) (by k_asm) (by k_upd) (by first | omega | (simp only [List.length_append, List.length_cons, List.length_nil]; omega)) ?_; k_whole); intro _ _ _; (try k_sweep)))
  trivial
local macro_rules | `(tactic| k_all) => `(tactic| exact ne_gt (by assumption))
theorem matches_ok (w : World) (p : Program) (loose : List Str) (mean : ExcName → Option Value) (mg mb : Str → Option Value) (D : Addr) (ws : List Value) (cs : List Nat) (hI : NatsAre ws cs) (hlen : cs.length ≤ 20) (hc : ∀ c ∈ cs, c < 256)
    (dp un : Nat) (fr : Option (List Env)) (gd : Option (List Code)) (s : Shared) (Q E : Value → Shared → Prop)
    (X : (hd.heap_39 w.params).In s.heap) (T : Top p loose mean mg mb s.heap) (hdp : dp + 30 < 1000) (hun : un + 300 < 9900) (hl : s.heap.IsList D ws.toArray)
    (hret : ∀ D' ms' k' ML h' tk, s.heap.StaysIn h' → (∀ q ∈ (D', listOf ms'.toArray k') :: ML, s.heap.get? q.1 = none ∧ h'.get? q.1 = some q.2) → MatsAre ML ms' (mgo 0 0 [] cs) → Q (.ref D') { s with heap := h', toks := tk }) :
    wpAny (model PySem.Challenge.rw_mr0049_02.prog w) (arA dp un fr gd) (call (.ref 105) [.ref D]) Q E s := by
  w_top off
  revert X T hret
  k_fill
  intro X T hret
  refine wpAny_call ?_
  k_dflt (refine' code_pure ?k3 ?k5 ?k6 ?k7 ?k8 ?k9 ?kB ?_ ?c2 ?c3 ?c4 ?c5; (case k3 => assumption); (case k5 => assumption); (case k6 => k_is); (case k7 => k_is); (case k8 => (show dp < 1000); omega); (case k9 => exact BindsTo.of_eq rfl); (case c5 => decide); (case kB => exact locs rfl); (case c2 => exact rfl); (case c3 => exact rfl); (case c4 => exact rfl); k_whole; intro L' h' F' N')
  k_steps
  unfold Hold
  refine wpAny_For ?_
  k_steps
  unfold Hold
  (with_reducible rename Fr _ _ _ _ => Fq)
  (with_reducible rename News _ _ _ _ => N9)
  refine news2 N9 fun lD elD => ?_
  subst elD
  refine news1 N9 fun rD erD => ?_
  subst erD
  refine newsh N9 fun h9 eh => ?_
  subst eh
  have hlr : @LT.lt Nat _ lD rD := by assumption
  have z1 : @LT.lt Nat _ rD _ := Heap.lt_size (N9 _ (.head _)).1
  have z2 : @LT.lt Nat _ lD _ := Heap.lt_size (N9 _ (.tail _ (.head _))).1
  refine for_listG (MtJ cs lD h9.objs.size (mgo 0 0 [] cs)) rfl Fq (nSub (l' := (lD, listOf #[] 0) :: (rD, listOf #[] 0) :: []) N9 (fun q hq => by simp only [List.mem_cons, List.mem_nil_iff, or_false] at hq ⊢; rcases hq with z | z <;> simp [z])) (hl.at fun o e => Fq.keep _ o e) ?_ ?_ ?_ ?_ ?_ (by passes_own)
  · exact ⟨rD, [], [], 0, [], 0, [], 0, 0, [], rfl, ⟨hlr, Nat.ne_of_lt z1⟩, (fun _ h => nomatch h), .nil, .none, rfl, by omega, by omega, Nat.zero_le _, Nat.zero_le _, _, _, ex_map4 rfl rfl rfl rfl⟩
  · rintro i m nx h _ F N
    exact hl.at fun o e => F.keep _ o e
  · rintro i m nx ⟨rD, ML, ms, n, ws1, k, row, first, place, tri, rfl, ⟨h1, h2⟩, h3, _⟩ p hp
    simp only [List.mem_cons] at hp
    rcases hp with rfl | rfl | hp
    · exact Nat.ne_of_lt z2
    · exact h2
    · exact (h3 p hp).2
  · clear Fq N9 z1 hlr
    rintro i v m nx h tk o hv ⟨rD, ML, ms, n, ws1, k, row, first, place, tri, rfl, ⟨h1, h2⟩, h3, hM, hA, hR, hpl, hfp, hrow, htri, tf, tp, u, rfl⟩ F3 N3
    obtain ⟨c, tc, e1, rfl⟩ := NatsAre.at' hI hv
    have hc1 : c < 256 := hc c (List.mem_of_getElem? e1)
    have hi : i < cs.length := (List.getElem?_eq_some_iff.mp e1).1
    have hi2 : i < 20 := by omega
    have hd : cs.drop i = c :: cs.drop (i + 1) := by
      rw [List.drop_eq_getElem_cons hi]; congr 1
      rw [List.getElem?_eq_getElem hi] at e1; exact Option.some.inj e1
    rw [hd] at hR
    have hms : ms.length ≤ 40 := by rw [hM.length]; omega
    clear hv hI hl
    k_steps
    all_goals (try unfold Hold)
    · have hs : sgn c = 1 + c / 128 + 1 := sgn_lo (by omega)
      rename IntsAre _ (_ ++ _) => hIE
      exact mt_end ML first (place + sgn c) hM (nats_more hIE) (by rw [← hR, mgo_more (by omega)]) (by omega) (by omega) (by simp; omega) (by omega) (by k_asm) (by k_asm) (by k_mem) (by k_mem) (by k_mem) (fun q hq => by simp [hq]) (by omega) h3 (by rfl) (by rfl) (by rfl) (by rfl) (by first | rfl | omega) (by omega)
    · have hs : sgn c = 1 + c / 128 + 1 := sgn_lo (by omega)
      rename IntsAre _ (_ ++ _) => hIE
      exact mt_end ML first (place + sgn c) hM (nats_more hIE) (by rw [← hR, mgo_more (by omega)]) (by omega) (by omega) (by simp; omega) (by omega) (by k_asm) (by k_asm) (by k_mem) (by k_mem) (by k_mem) (fun q hq => by simp [hq]) (by omega) h3 (by rfl) (by rfl) (by rfl) (by rfl) (by first | rfl | omega) (by omega)
    · have hs : sgn c = 1 + c / 128 := sgn_hi (by omega)
      rename IntsAre _ (_ ++ _) => hIE
      exact mt_end ML first (place + sgn c) hM (nats_more hIE) (by rw [← hR, mgo_more (by omega)]) (by omega) (by omega) (by simp; omega) (by omega) (by k_asm) (by k_asm) (by k_mem) (by k_mem) (by k_mem) (fun q hq => by simp [hq]) (by omega) h3 (by rfl) (by rfl) (by rfl) (by rfl) (by first | rfl | omega) (by omega)
    · rename_i hrw lB h6 q2 D2 h5 q1 h4 t0 h3' lC h2' q0 h1' h0 FE NE
      have hs : sgn c = 1 + c / 128 := sgn_hi (by omega)
      have hrn : row = [] := of_decide_eq_true (map_nil hrw)
      exact mt_end (tri := tri ++ [(place, place, [])]) ((D2, tupO [.int (place : Nat) tp, .int (place : Nat) tp, .ref lB]) :: (lB, listOf #[] 0) :: ML) (place + 1) (place + sgn c) ((hM.sub (fun q hq => .tail _ (.tail _ hq))).app (mat_one (.head _) (.tail _ (.head _)) .none)) .none (by rw [← hR, mgo_one (by omega), if_pos hrn, List.append_assoc]; rfl) (by omega) (by omega) (Nat.zero_le _) (by simp; omega) (by k_asm) (by k_asm) (by k_mem) (by k_mem) (by k_mem) (fun q hq => by simp only [List.mem_cons] at hq ⊢; rcases hq with z | z | z <;> simp [z]) (by omega) (fun q hq => by simp only [List.mem_cons] at hq; rcases hq with rfl | rfl | z; exact ⟨by dsimp only; omega, Nat.ne_of_gt (by omega)⟩; exact ⟨by dsimp only; omega, Nat.ne_of_gt (by omega)⟩; exact h3 q z) (by rfl) (by rfl) (by rfl) (by rfl) (by first | rfl | omega) (by omega)
    · rename_i hrw D1 h8 q3 h7 t1 lB h6 q2 D2 h5 q1 h4 t0 h3' lC h2' q0 h1' h0 FE NE
      have hs : sgn c = 1 + c / 128 := sgn_hi (by omega)
      have hrn : ¬ row = [] := of_decide_eq_false (map_nil hrw)
      exact mt_end (tri := tri ++ [(first, place, row)] ++ [(place, place, [])]) ((D2, tupO [.int (place : Nat) tp, .int (place : Nat) tp, .ref lB]) :: (lB, listOf #[] 0) :: (D1, tupO [.int (first : Nat) tf, .int (place : Nat) tp, .ref rD]) :: (rD, listOf ws1.toArray k) :: ML) (place + 1) (place + sgn c) (((hM.sub (fun q hq => .tail _ (.tail _ (.tail _ (.tail _ hq))))).app (mat_one (.tail _ (.tail _ (.head _))) (.tail _ (.tail _ (.tail _ (.head _)))) hA)).app (mat_one (.head _) (.tail _ (.head _)) .none)) .none (by rw [← hR, mgo_one (by omega), if_neg hrn, List.append_assoc, List.append_assoc]; rfl) (by omega) (by omega) (Nat.zero_le _) (by simp; omega) (by k_asm) (by k_asm) (by k_mem) (by k_mem) (by k_mem) (fun q hq => by simp only [List.mem_cons] at hq ⊢; rcases hq with z | z | z | z | z <;> simp [z]) (by omega) (fun q hq => by simp only [List.mem_cons] at hq; rcases hq with rfl | rfl | rfl | rfl | z; exact ⟨by dsimp only; omega, Nat.ne_of_gt (by omega)⟩; exact ⟨by dsimp only; omega, Nat.ne_of_gt (by omega)⟩; exact ⟨by dsimp only; omega, Nat.ne_of_gt (by omega)⟩; exact ⟨h1, h2⟩; exact h3 q z) (by rfl) (by rfl) (by rfl) (by rfl) (by first | rfl | omega) (by omega)
  · rintro m nx h tk ⟨rD, ML, ms, n, ws1, k, row, first, place, tri, rfl, ⟨h1, h2⟩, h3, hM, hA, hR, hpl, hfp, hrow, htri, tf, tp, u, rfl⟩ F3 N3
    have hlen9 := hI.length
    rw [hlen9, List.drop_length] at hR
    replace hR : tri ++ (if row = [] then [] else [(first, place, row)]) = mgo 0 0 [] cs := hR
    have hms : ms.length ≤ 40 := by rw [hM.length]; omega
    clear hI hl Fq N9
    dsimp only
    k_steps
    · rename_i hrw lE g3 FO NO g4 g5 FE NE
      have hrn : row = [] := of_decide_eq_true (map_nil hrw)
      exact hret _ (ms ++ []) _ ML _ _ FE.keep (fun q hq => (fun z => ⟨(NE q z).2.2, (NE q z).1⟩) (by
        rcases List.mem_cons.mp hq with z | z
        · rw [z]; exact List.Mem.head _
        · exact .tail _ (.tail _ (.tail _ (.tail _ (.tail _ (z))))))) (by rw [← hR, if_pos hrn]; exact hM.app .nil)
    · rename_i hrw D1 g1 g2 lE g3 FO NO g4 g5 FE NE
      have hrn : ¬ row = [] := of_decide_eq_false (map_nil hrw)
      exact hret _ (ms ++ [.ref D1]) _ ((D1, tupO [.int (first : Nat) tf, .int (place : Nat) tp, .ref rD]) :: (rD, listOf ws1.toArray k) :: ML) _ _ FE.keep (fun q hq => (fun z => ⟨(NE q z).2.2, (NE q z).1⟩) (by
        rcases List.mem_cons.mp hq with z | z
        · rw [z]; exact List.Mem.head _
        rcases List.mem_cons.mp z with z | z
        · rw [z]; exact .tail _ (.tail _ (.head _))
        rcases List.mem_cons.mp z with z | z
        · rw [z]; exact .tail _ (.tail _ (.tail _ (.tail _ (.tail _ (.head _)))))
        · exact .tail _ (.tail _ (.tail _ (.tail _ (.tail _ (.tail _ (z)))))))) (by rw [← hR, if_neg hrn]; exact (hM.sub (fun q hq => .tail _ (.tail _ hq))).app (mat_one (.head _) (.tail _ (.head _)) hA))
end
section
open PySem PySem.W PyProof.Rows
set_option Elab.async false
set_option maxRecDepth 100000
set_option maxHeartbeats 40000000

theorem ln_13 : True := by
  k_with_none
  k_with "mI" => (first | omega | (simp only [List.length_cons, List.length_nil, List.length_append, List.length_take, List.length_drop, List.length_replicate, List.length_map, List.length_range, S_len, sizeLine_eq]; omega) | (simp only [List.length_cons, List.length_nil, List.length_append, List.length_take, List.length_drop, List.length_replicate, List.length_map, List.length_range, S_len, sizeLine_eq] at *; omega))
  k_with "mItem" => (first
  | ((with_reducible show wpAny _ _ (subscriptTail _ _ (Value.str (S (_ :: _)) _) (Value.int 0 _)) _ _ _); refine r_it0 (by walk_at "mI") ?_)
  | ((with_reducible show wpAny _ _ (subscriptTail _ _ (Value.str (S (_ :: _ :: _)) _) (Value.int 1 _)) _ _ _); refine r_it1 (by walk_at "mI") ?_)
  | ((with_reducible show wpAny _ _ (subscriptTail _ _ (Value.str (S _) _) (Value.int _ _)) _ _ _); refine r_item (by walk_at "mI") (by walk_at "mI") (by walk_at "mI") ?_))
  k_with "mSlice" => (((with_reducible rename Fr _ _ _ _ => F'); (with_reducible rename News _ _ _ _ => N'); (first
  | ((with_reducible show wpAny _ _ (subscriptTail _ (Expr.Slice (some _) none none _) (Value.str (S (_ :: _)) _) _) _ _ _); refine r_sl1 (s := ⟨_, _, _, _, _⟩) F' N' (by walk_at "mI") ?_)
  | refine r_ss (s := ⟨_, _, _, _, _⟩) F' N' (by walk_at "mI") (by walk_at "mI") (by walk_at "mI") ?_
  | refine r_sn (s := ⟨_, _, _, _, _⟩) F' N' (by walk_at "mI") (by walk_at "mI") ?_
  | refine r_ns (s := ⟨_, _, _, _, _⟩) F' N' (by walk_at "mI") (by walk_at "mI") ?_); intro _ _ _ _ _))
  k_with "subscriptTail" => (first | walk_at "mItem" | walk_at "mSlice")
  k_with "subscriptTail Name Name str int" => (walk_at "mItem")
  k_with "subscriptTail Name Constant str int" => (walk_at "mItem")
  k_with "subscriptTail Name Slice str ref" => (walk_at "mSlice")
  k_with "eval Constant str" => ((with_reducible first | refine r_const lit_bang ?_ | refine r_const lit_hat ?_ | refine r_const lit_q ?_ | refine r_const lit_thorn ?_ | refine r_const lit_del ?_ | refine r_const lit_ff ?_ | refine r_const lit_A ?_ | refine r_const lit_hq ?_ | refine r_const lit_h9 ?_ | refine r_const lit_sp ?_ | refine r_const lit_tilde ?_ | refine r_const lit_fe ?_ | refine r_const lit_hT ?_ | refine r_const lit_e ?_ | refine r_const lit_marks ?_))
  k_with "call builtin:len" => (first
  | ((with_reducible show wpAny _ _ (call (Value.builtin "len") [Value.str (S [_]) _]) _ _ _); refine r_len1 ?_)
  | ((with_reducible show wpAny _ _ (call (Value.builtin "len") [Value.str (S [_, _]) _]) _ _ _); refine r_len2 ?_)
  | ((with_reducible show wpAny _ _ (call (Value.builtin "len") [Value.str (S [_, _, _]) _]) _ _ _); refine r_len3 ?_)
  | ((with_reducible show wpAny _ _ (call (Value.builtin "len") [Value.str (S _) _]) _ _ _); refine r_len (by walk_at "mI") ?_))
  k_with "compareOp Eq str str" => (((with_reducible show wpAny _ _ (compareOp _ (Value.str (S _) _) (Value.str (S _) _)) _ _ _); refine r_eq ?_))
  k_with "compareOp NotEq str str" => (((with_reducible show wpAny _ _ (compareOp _ (Value.str (S _) _) (Value.str (S _) _)) _ _ _); refine r_ne ?_))
  k_with "compareOp In str str" => (((with_reducible show wpAny _ _ (compareOp _ (Value.str (S _) _) (Value.str (S _) _)) _ _ _); refine r_in ?_))
  k_with "compareOp Gt str str" => (((with_reducible show wpAny _ _ (compareOp _ (Value.str (S _) _) (Value.str (S _) _)) _ _ _); refine r_gt ?_))
  k_with "compareOp LtE str str" => (((with_reducible show wpAny _ _ (compareOp _ (Value.str (S _) _) (Value.str (S _) _)) _ _ _); refine r_le ?_))
  k_with "binaryOp Add str str" => (((with_reducible show wpAny _ _ (binaryOp _ (Value.str (S _) _) (Value.str (S _) _)) _ _ _); refine r_add ?_ (by walk_at "mI"); intro _ _))
  k_with "inplaceOp Add str str" => (((with_reducible show wpAny _ _ (inplaceOp _ (Value.str (S _) _) (Value.str (S _) _)) _ _ _); refine r_iadd ?_ (by walk_at "mI"); intro _ _))
  k_with "call builtin:ord" => (((with_reducible show wpAny _ _ (call (Value.builtin "ord") [Value.str (S _) _]) _ _ _); refine r_ord ?_))
  k_with "call builtin:chr" => ((refine r_chr (by walk_at "mChr") (by walk_at "mChr") ?_))
  k_with "mChr" => (first | omega | (split <;> omega))
  k_with "mRoom" => (((try simp only [depth_mark, depth_under_make, depth_under_kw, depth_in1, depth_deeper, depth_caller, units_in1, units_deeper, Around.mark_units, units_caller]); (try dsimp only [arA]); omega))
  k_with "mClean" => (((try clear hret); (repeat (with_reducible rename Fr _ _ _ _ => x9; clear x9)); (repeat (with_reducible rename News _ _ _ _ => x9; clear x9)); (repeat (with_reducible rename Below _ _ _ _ => x9; clear x9)); (repeat (with_reducible rename Top _ _ _ _ _ _ => x9; clear x9)); (repeat (with_reducible rename Frag.In _ _ => x9; clear x9))))
  k_with "mUse2" => (((intro t9 h9 tk9 F9 N9); (try dsimp only); (try k_fold)))
  k_with "binaryOp BitAnd int int" => (first
  | ((with_reducible show wpAny _ _ (binaryOp _ (Value.int _ _) (Value.int 127 _)) _ _ _); refine r_and127 ?_)
  | ((with_reducible show wpAny _ _ (binaryOp _ (Value.int _ _) (Value.int 31 _)) _ _ _); refine r_and31 ?_)
  | ((with_reducible show wpAny _ _ (binaryOp _ (Value.int _ _) (Value.int 128 _)) _ _ _); refine r_and128 (by omega) ?_ ?_ <;> intro _))
  k_with "binaryOp BitOr int int" => (first
  | ((with_reducible show wpAny _ _ (binaryOp _ (Value.int _ _) (Value.int 32 _)) _ _ _); refine r_or32 (by omega) ?_ ?_ <;> intro _)
  | ((with_reducible show wpAny _ _ (binaryOp _ (Value.int _ _) (Value.int 128 _)) _ _ _); refine r_or128 (by omega) ?_ ?_ <;> intro _))
  k_with "call ref" => ((k_here; (with_reducible show wpAny _ _ (call (Value.ref 70) [Value.str (S _) _, Value.int _ _]) _ _ _); k_dflt (refine PCl.use (size_ok _ _ _ _ _ _ _ _ _ _ (by walk_at "mI") (by walk_at "mI") (by walk_at "mI")) (by k_asm) (by k_asm) (by k_asm) (by k_asm) (by walk_at "mRoom") (by walk_at "mRoom") ?_; k_whole); (intro t9 h9 tk9 F9 N9); (try dsimp only); (try k_fold)))
  k_with "call ref" => ((k_here; (with_reducible show wpAny _ _ (call (Value.ref 84) [Value.str (S [94, _]) _]) _ _ _); k_dflt (refine PCl.use (read_2 _ _ _ _ _ _ _ _ ) (by k_asm) (by k_asm) (by k_asm) (by k_asm) (by walk_at "mRoom") (by walk_at "mRoom") ?_; k_whole); (intro t9 h9 tk9 F9 N9); (try dsimp only); (try k_fold)))
  k_with "call ref" => ((k_here; (with_reducible show wpAny _ _ (call (Value.ref 84) [Value.str (S [_]) _]) _ _ _); k_dflt (refine PCl.use (read_0 _ _ _ _ _ _ _ _ ) (by k_asm) (by k_asm) (by k_asm) (by k_asm) (by walk_at "mRoom") (by walk_at "mRoom") ?_; k_whole); (intro t9 h9 tk9 F9 N9); (try dsimp only); (try k_fold)))
  trivial
def altM (c : Nat) : Nat := if c / 128 % 2 = 1 then c else c + 128
theorem altZ_eq (c : Nat) : altZ (c : Int) = (altM c : Nat) := by
  unfold altZ altM
  by_cases h : c / 128 % 2 = 1
  · rw [if_pos h, if_pos (by omega)]
  · rw [if_neg h, if_neg (by omega)]; rfl
/-- what a word reads -/
def rdW : List Nat → Nat
  | [c] => c
  | [33, 94, m] => altM (rdZ m)
  | [94, m] => rdZ m
  | [33, c] => altM c
  | _ => 0
def WordL (x : List Nat) : Prop := (∃ c, x = [c]) ∨ (∃ m, x = [94, m]) ∨ (∃ c, x = [33, c]) ∨ ∃ m, x = [33, 94, m]
theorem word_at {l : List Nat} {k : Nat} (h : k < l.length) : WordL ((l.drop k).take (sizeL l k)) ∧ k + sizeL l k ≤ l.length := by
  have hd : l.drop k = l[k] :: l.drop (k + 1) := List.drop_eq_getElem_cons h
  have hg : l.getD k 0 = l[k] := by simp [h]
  have hlen : (l.drop (k + 1)).length = l.length - (k + 1) := List.length_drop
  unfold sizeL
  rw [hg]
  dsimp only
  by_cases hb : l[k] = 33 ∧ k + 1 < l.length
  · rw [if_pos hb]
    obtain ⟨c, r, hr⟩ : ∃ c r, l.drop (k + 1) = c :: r := ⟨_, _, List.drop_eq_getElem_cons hb.2⟩
    rw [hr] at hlen
    simp only [List.length_cons] at hlen
    split
    · rename_i q
      obtain ⟨q1, q2, q3⟩ := q
      rw [hr] at q1 q2
      cases r with
      | nil => simp at q1
      | cons m r =>
        simp at q2
        refine ⟨.inr (.inr (.inr ⟨m, ?_⟩)), by simp at hlen; omega⟩
        rw [hd, hr, hb.1, q2]; rfl
    · refine ⟨.inr (.inr (.inl ⟨c, ?_⟩)), by omega⟩
      rw [hd, hr, hb.1]; rfl
  · rw [if_neg hb]
    split
    · rename_i q
      obtain ⟨q1, q2, q3⟩ := q
      rw [Nat.add_zero, hd] at q1 q2
      cases r : l.drop (k + 1) with
      | nil => rw [r] at q1; simp at q1
      | cons m r' =>
        have q2 : l[k] = 94 := q2
        rw [r] at hlen
        simp at hlen
        refine ⟨.inr (.inl ⟨m, ?_⟩), by omega⟩
        rw [hd, r, q2]; rfl
    · refine ⟨.inl ⟨l[k], ?_⟩, by omega⟩
      rw [hd]; rfl
def rdsL (l : List Nat) (j : Nat) : Nat → Nat → List Nat
  | 0, _ => []
  | n + 1, k => if k < j then rdW ((l.drop k).take (sizeL l k)) :: rdsL l j n (k + sizeL l k) else []
theorem rds_stop {l : List Nat} {j n k : Nat} (h : ¬ k < j) : rdsL l j n k = [] := by
  cases n with
  | zero => rfl
  | succ n => unfold rdsL; rw [if_neg h]
def toldR (l : List Nat) (col : Int) : Option Tri := match srOf (nx2 l) col with
  | none => none
  | some (i, j) => some (i, j, rdsL l j (j - i) i)
theorem told_none {l : List Nat} {col : Int} (h : srOf (nx2 l) col = none) : toldR l col = none := by unfold toldR; rw [h]
theorem told_some {l : List Nat} {col : Int} {i j : Nat} (h : srOf (nx2 l) col = some (i, j)) : toldR l col = some (i, j, rdsL l j (j - i) i) := by unfold toldR; rw [h]
theorem beh_in {l : List Nat} : ∀ (n b : Nat), b ≤ behL l n b ∧ (behL l n b ≤ b ∨ behL l n b ≤ l.length)
  | 0, b => ⟨Nat.le_refl _, .inl (Nat.le_refl _)⟩
  | n + 1, b => by
    unfold behL
    split
    · rename_i hb
      have hs := (word_at hb).2
      split
      · exact ⟨Nat.le_refl _, .inl (Nat.le_refl _)⟩
      · have := beh_in (l := l) n (b + sizeL l b)
        omega
    · exact ⟨Nat.le_refl _, .inl (Nat.le_refl _)⟩
theorem nx2_b {l : List Nat} (hl : l.length < 300) : ∀ st a b, st < 450 → nx2 l st = some (a, b) → st ≤ a ∧ a ≤ b ∧ b < 500 := fun st a b hs h => by
  have := beh_in (l := l) (l.length - st) st
  unfold nx2 at h
  cases h
  omega
theorem srGo_mem {nx : Nat → Option (Nat × Nat)} {col : Int} : ∀ {k : Nat} {f : Option (Nat × Nat)} {i j : Nat} {r : Nat × Nat}, srGo nx col k f i j = some r → f = some r ∨ (r.1 : Int) < col ∧ (r.2 : Int) ≤ col ∧ ((i, j) = r ∨ ∃ st, nx st = some r)
  | 0, f, _, _, r, h => .inl h
  | k + 1, f, i, j, r, h => by
    unfold srGo at h
    split at h
    · rename_i hc
      cases hn : nx (if i = j then j + 1 else j) with
      | none => rw [hn] at h; cases h; exact .inr ⟨hc.1, hc.2, .inl rfl⟩
      | some q =>
        obtain ⟨a, b⟩ := q
        rw [hn] at h
        dsimp only at h
        rcases srGo_mem h with z | ⟨z1, z2, z⟩
        · cases z; exact .inr ⟨hc.1, hc.2, .inl rfl⟩
        · rcases z with z | z
          · exact .inr ⟨z1, z2, .inr ⟨_, z ▸ hn⟩⟩
          · exact .inr ⟨z1, z2, .inr z⟩
    · exact .inl h
theorem srOf_mem {nx : Nat → Option (Nat × Nat)} {col : Int} {i j : Nat} (h : srOf nx col = some (i, j)) : (i : Int) < col ∧ (j : Int) ≤ col ∧ ∃ st, nx st = some (i, j) := by
  unfold srOf at h
  cases hn : nx 0 with
  | none => rw [hn] at h; cases h
  | some q =>
    obtain ⟨a, b⟩ := q
    rw [hn] at h
    dsimp only at h
    rcases srGo_mem h with z | ⟨z1, z2, z⟩
    · cases z
    · rcases z with z | z
      · exact ⟨z1, z2, 0, z ▸ hn⟩
      · exact ⟨z1, z2, z⟩
theorem nx2_le {l : List Nat} {st i j : Nat} (h : nx2 l st = some (i, j)) : i ≤ j := by
  have := beh_in (l := l) (l.length - st) st
  unfold nx2 at h
  cases h
  omega
theorem ex_map5 {m : Str → Option Value} {x1 x2 x3 x4 x5 : Str} {v1 v2 v3 v4 v5 : Value} (h1 : m x1 = some v1) (h2 : m x2 = some v2) (h3 : m x3 = some v3) (h4 : m x4 = some v4) (h5 : m x5 = some v5) :
    ∃ u : Str → Option Value, m = fun y => if y = x1 then some v1 else if y = x2 then some v2 else if y = x3 then some v3 else if y = x4 then some v4 else if y = x5 then some v5 else u y := ⟨m, funext fun y => by
  by_cases e1 : y = x1
  · subst e1; simp [h1]
  by_cases e2 : y = x2
  · subst e2; simp [e1, h2]
  by_cases e3 : y = x3
  · subst e3; simp [e1, e2, h3]
  by_cases e4 : y = x4
  · subst e4; simp [e1, e2, e3, h4]
  by_cases e5 : y = x5
  · subst e5; simp [e1, e2, e3, e4, h5]
  simp [e1, e2, e3, e4, e5]⟩
theorem news1t {h₀ h : Heap} {L a : Addr} {o1 : Obj} {r : List (Addr × Obj)} (_ : News h₀ L h ((a, o1) :: r)) {G : Prop} (k : ∀ r', r' = r → G) : G := k r rfl
theorem allLt_ne {d : Addr} : ∀ {l : List (Addr × Obj)}, AllLt d l → ∀ p ∈ l, p.1 ≠ d
  | [], _, _, h => nomatch h
  | _ :: _, h, p, hp => (List.mem_cons.mp hp).elim (fun e => e ▸ Nat.ne_of_lt h.1) fun z => allLt_ne h.2 p z
theorem news12 {h₀ h : Heap} {L : Addr} {a b : Addr × Obj} {r : List (Addr × Obj)} (N : News h₀ L h (a :: b :: r)) : News h₀ L h [a, b] := fun q hq => N q (by
  simp only [List.mem_cons, List.mem_nil_iff, or_false] at hq ⊢; rcases hq with z | z <;> simp [z])
/-- told's loop: what is read so far -/
def TlJ (l : List Nat) (t : Tok) (i j : Nat) (cD : Nat) (rest : List (Addr × Obj)) (R : List Nat) (fuel : Nat) (m : Str → Option Value) (nx : List (Addr × Obj)) : Prop :=
  ∃ (k n : Nat) (ws : List Value) (acc : List Nat), nx = (cD, listOf ws.toArray n) :: rest ∧ NatsAre ws acc ∧ acc ++ rdsL l j fuel k = R ∧ j ≤ k + fuel ∧ acc.length + fuel ≤ 100 ∧
    ∃ ti tj tk, ∃ u : Str → Option Value, m = fun y => if y = Str.ofString "line" then some (.str (S l) t) else if y = Str.ofString "first" then some (.int (i : Nat) ti) else if y = Str.ofString "behind" then some (.int (j : Nat) tj) else if y = Str.ofString "codes" then some (.ref cD) else if y = Str.ofString "k" then some (.int (k : Nat) tk) else u y

theorem read_tok (w : World) (p : Program) (loose : List Str) (mean : ExcName → Option Value) (mg mb : Str → Option Value) (x : List Nat) (t : Tok) (hx : WordL x) :
  PCl 40 PySem.Challenge.rw_mr0049_02.prog w (hd.heap_39 w.params) p loose mean mg mb 84 [.str (S x) t] (fun t => .int (rdW x : Nat) t) := by
  rcases hx with ⟨c, rfl⟩ | ⟨m, rfl⟩ | ⟨c, rfl⟩ | ⟨m, rfl⟩
  · intro dp un fr gd s Q E X T h1 h2 h3
    exact read_0 w p loose mean mg mb c t dp un fr gd s Q E X T (by omega) (by omega) h3
  · intro dp un fr gd s Q E X T h1 h2 h3
    have e : rdW [94, m] = rdZ m := by simp [rdW]
    rw [e] at h3
    exact read_2 w p loose mean mg mb m t dp un fr gd s Q E X T (by omega) (by omega) h3
  · intro dp un fr gd s Q E X T h1 h2 h3
    by_cases hc : c = 94
    · subst hc
      exact read_1 w p loose mean mg mb 94 t dp un fr gd s Q E X T (by omega) (by omega) h3
    have e : rdW [33, c] = altM c := by unfold rdW; split <;> simp_all
    rw [e] at h3
    have h := read_1 w p loose mean mg mb c t dp un fr gd s Q E X T (by omega) (by omega)
    rw [altZ_eq] at h
    exact h h3
  · intro dp un fr gd s Q E X T h1 h2 h3
    have h := read_3 w p loose mean mg mb m t dp un fr gd s Q E X T (by omega) (by omega)
    rw [altZ_eq] at h
    exact h h3


theorem ln_14 : True := by
  k_with "mDrop" => (((with_reducible rename Fr _ _ _ _ => y1); (with_reducible rename News _ _ _ _ => y2); revert y1 y2; (repeat (with_reducible rename Fr _ _ _ _ => x9; clear x9)); (repeat (with_reducible rename News _ _ _ _ => x9; clear x9)); intro y1 y2))
  k_with "mSub" => ((intro q hq; simp only [List.mem_append, List.mem_cons, hq, true_or, or_true]))
  k_with "getMethod ref" => ((refine use_hit (by assumption) (by k_asm) (by walk_at "mSub") ?_; intro _ _ _; (try dsimp only)))
  k_with "FnAt" => ((refine FnIn.at (by assumption) (by k_asm) (by walk_at "mSub")))
  k_with "callWith ref" => ((k_here; k_dflt (first
  | (refine callWith_F (by walk_at "FnAt") ?_; k_whole)
  | (refine callWith_F0 (by walk_at "FnAt") ?_; k_whole; try dsimp only [List.nil_append, List.cons_append]))))
  k_with "call ref" => (((first | (with_reducible show wpAny _ _ (call (Value.ref 21) _) _ _ _) | (with_reducible show wpAny _ _ (call (Value.ref 84) _) _ _ _)); refine hold ?_))
  k_with "call ref" => ((k_here; (with_reducible show wpAny _ _ (call (Value.ref _) []) _ _ _); k_dflt (refine use_span (by assumption) (by k_asm) (by k_asm) (by k_asm) (by k_asm) (by walk_at "mRoom") (by walk_at "mRoom") (by walk_at "mSub") ?_; k_whole); (intro _ _ _ _ _ _ _); (try dsimp only)))
  k_with "exec While" => (refine hold ?_)
  k_with "exec While Compare" => (refine hold ?_)
  k_with "exec While Compare cons" => (refine hold ?_)
  k_with "exec While Compare cons nil" => (refine hold ?_)
  k_with "call builtin:list.append" => ((k_here; (with_reducible show wpAny _ _ (call (Value.builtin _) [Value.ref _, _]) _ _ _); k_dflt (refine r_appendN (by k_asm) (by k_asm) (by k_upd) (by assumption) (by omega) ?_; k_whole); intro _ _ _; (try k_sweep)))
  trivial
local macro_rules | `(tactic| k_all) => `(tactic| assumption)
theorem told_ok (w : World) (p : Program) (loose : List Str) (mean : ExcName → Option Value) (mg mb : Str → Option Value) (PL : Led) (TP : Led → Prop) (pg : Addr) (hP : ProgL PySem.Challenge.rw_mr0049_02.prog w (hd.heap_39 w.params) p loose mean mg mb PL TP pg nx2) (l : List Nat) (hl : l.length < 60) (t u : Tok) (col : Int) (hcol : col ≤ l.length) (hcol0 : -5 < col)
    (dp un : Nat) (fr : Option (List Env)) (gd : Option (List Code)) (s : Shared) (Q E : Value → Shared → Prop) (TL : Led)
    (X : (hd.heap_39 w.params).In (hideAll s.heap ((TL ++ PL).map (·.1)))) (T : Top p loose mean mg mb (hideAll s.heap ((TL ++ PL).map (·.1)))) (hdp : dp + 90 < 1000) (hun : un + 900 < 9900) (tp : TP TL) (hh : Has (TL ++ PL) s.heap)
    (hr1 : toldR l col = none → ∀ (h' : Heap) (tk : Nat) (TL' : Led), Kept s.heap TL h' TL' → TP TL' → Q .none { s with heap := h', toks := tk })
    (hr2 : ∀ i j row, toldR l col = some (i, j, row) → ∀ (T r : Addr) (ta tb : Tok) (ws : List Value) (k : Nat) (h' : Heap) (tk : Nat) (TL' : Led), Kept s.heap TL h' TL' → TP TL' → NatsAre ws row →
      Has [(T, tupO [.int (i : Nat) ta, .int (j : Nat) tb, .ref r]), (r, listOf ws.toArray k)] h' → (∀ q ∈ [(T, tupO [.int (i : Nat) ta, .int (j : Nat) tb, .ref r]), (r, listOf ws.toArray k)], (hideAll s.heap ((TL ++ PL).map (·.1))).get? q.1 = none) → Q (.ref T) { s with heap := h', toks := tk }) :
    wpAny (model PySem.Challenge.rw_mr0049_02.prog w) (arA dp un fr gd) (call (.ref 91) [.ref pg, .str (S l) t, .int col u]) Q E s := by
  w_top off
  revert X T hr1 hr2 hP
  k_fill
  intro hP X T hr1 hr2
  have hPT : ∀ q ∈ PL, isTab q.2 = false := by
    obtain ⟨_, _, _, _, _, _, _, _, _, z, _, _⟩ := hP; exact z
  refine wpAny_call ?_
  k_dflt (refine' code_tab (TL ++ PL) hh ?k3 ?k5 ?k6 ?k7 ?k8 ?k9 ?kB ?_ ?c2 ?c3 ?c4 ?c5; (case k3 => assumption); (case k5 => assumption); (case k6 => k_is); (case k7 => k_is); (case k8 => (show dp < 1000); omega); (case k9 => exact BindsTo.of_eq rfl); (case c5 => decide); (case kB => exact locs rfl); (case c2 => exact rfl); (case c3 => exact rfl); (case c4 => exact rfl); k_whole; intro L' h' F' N')
  have hsz0 : s.heap.objs.size ≤ h'.objs.size := by have := F'.above; rw [hideAll_size] at this; exact Nat.le_trans this (Nat.le_of_lt F'.ns.lt)
  k_steps
  unfold Hold
  (with_reducible rename Fr _ _ _ _ => Fq)
  (with_reducible rename News _ _ _ _ => Nq)
  refine use_sr (A0 := TL.map (·.1)) (n0 := s.heap.objs.size) TL (recs TL) hP (by omega) (by omega) (by omega) (nx2_b (by omega)) Fq X Nq T (by walk_at "mRoom") (by walk_at "mRoom") tp (by walk_at "mSub") (by walk_at "mSub") (fun q hq => ⟨by simp only [List.mem_append, recs_sub q hq, true_or, or_true], recs_isTab q hq⟩) (by exact hsz0) Adr.self ?_ ?_
  · intro e h3 tk3 TL3 tp3 ad3 F3 N3
    clear Fq Nq
    dsimp only
    k_steps
    exact hr1 (told_none e) _ _ TL3 (kept_of hh (by k_asm) (by k_asm) ad3) tp3
  · intro i j e hit HL h3 tk3 TL3 tp3 ad3 adH hH F3 N3
    clear Fq Nq
    obtain ⟨ei, ej, st, est⟩ := srOf_mem e
    have hij := nx2_le est
    dsimp only
    k_steps
    unfold Hold
    (with_reducible rename Fr _ _ _ _ => Fq)
    (with_reducible rename News _ _ _ _ => Nq)
    rename _ ∧ AllLt _ _ => hlt9
    refine news1 Nq fun cD ecD => ?_
    subst ecD
    have hsub : ∀ q ∈ TL3 ++ (PL ++ recs TL), ∀ x : Addr × Obj, q ∈ x :: (TL3 ++ (PL ++ (HL ++ recs TL))) := fun q hq x => by
      simp only [List.mem_append, List.mem_cons] at hq ⊢; rcases hq with z | z | z <;> simp [z]
    refine news1t Nq fun rest erest => ?_
    replace hsub : ∀ q ∈ TL3 ++ (PL ++ recs TL), q ∈ rest := fun q hq => by rw [erest]; exact hsub q hq _
    have hne : ∀ p ∈ rest, p.1 ≠ cD := fun p hp => by
      rw [erest] at hp
      rcases List.mem_cons.mp hp with z | z
      · rw [z]; exact Nat.ne_of_lt hlt9.1
      · exact allLt_ne hlt9.2 p z
    rw [← erest] at Nq
    clear hlt9 erest
    refine While_inv2 (TlJ l t i j cD rest (rdsL l j (j - i) i)) (n₀ := j - i) Fq Nq ?_ ?_
    · exact ⟨i, 0, [], [], rfl, .none, rfl, by omega, by simp; omega, _, _, _, ex_map5 rfl rfl rfl rfl rfl⟩
    clear Fq Nq hr1
    rintro n m₁ nx₁ h₁ tk₁ F₁ N₁ ⟨k, n', ws, acc, rfl, hA, hR, hfu, hac, ti, tj, tk', u', rfl⟩
    dsimp only
    k_steps
    · unfold Hold
      obtain ⟨n, rfl⟩ : ∃ z, n = z + 1 := ⟨n - 1, by omega⟩
      have hkl : k < l.length := by omega
      obtain ⟨hw, hwl⟩ := word_at hkl
      have e9 : List.take (((k : Int) + ((sizeL l (k : Int).toNat : Nat) : Int)).toNat - (k : Int).toNat) (List.drop (k : Int).toNat l) = (l.drop k).take (sizeL l k) := by
        rw [Int.toNat_natCast, show ((k : Int) + (sizeL l k : Nat)).toNat - k = sizeL l k by omega]
      rw [e9]
      clear e9
      have hR2 : acc ++ rdW ((l.drop k).take (sizeL l k)) :: rdsL l j n (k + sizeL l k) = rdsL l j (j - i) i := by
        rw [← hR]
        conv => rhs; unfold rdsL
        rw [if_pos (by omega)]
      have hsz := size_pos l k
      clear hR
      generalize hx9 : (l.drop k).take (sizeL l k) = x at *
      refine PCl.use (read_tok _ _ _ _ _ _ x _ hw) (by k_asm) (by k_asm) (by k_asm) (by k_asm) (by walk_at "mRoom") (by walk_at "mRoom") ?_
      intro t9 h9 tk9 F9 N9
      dsimp only
      k_steps
      refine ⟨_, _, _, (cD, listOf (ws ++ [Value.int (rdW x : Nat) t9]).toArray (n' + 1)) :: rest, n, rfl, by k_asm, by k_asm, by omega, k + sizeL l k, n' + 1, _, acc ++ [rdW x], rfl, hA.push' _ _ _ rfl, by rw [List.append_assoc]; exact hR2, by omega, by simp; omega, _, _, _, ex_map5 rfl rfl rfl rfl (by rw [Int.natCast_add]; rfl)⟩
    · have hR2 : acc = rdsL l j (j - i) i := by rw [← hR, rds_stop (by omega), List.append_nil]
      (with_reducible rename Fr _ _ _ _ => FE)
      (with_reducible rename News _ _ _ _ => NE)
      have NE2 := news12 NE
      exact hr2 i j _ (told_some e) _ cD _ _ ws n' _ _ TL3 (kept_of hh FE (nSub NE (fun q hq => .tail _ (.tail _ (hsub q hq)))) ad3) tp3 (by rw [← hR2]; exact hA) (fun q hq => (NE2 q hq).1) (fun q hq => (NE2 q hq).2.2)
end
section
open PySem PySem.W PyProof.Rows
set_option Elab.async false
set_option maxRecDepth 100000
set_option maxHeartbeats 40000000

theorem ln_15 : True := by
  k_with_none
  k_with "mI" => (first | omega | (simp only [List.length_cons, List.length_nil, List.length_append, List.length_take, List.length_drop, List.length_replicate, List.length_map, List.length_range, S_len, sizeLine_eq]; omega) | (simp only [List.length_cons, List.length_nil, List.length_append, List.length_take, List.length_drop, List.length_replicate, List.length_map, List.length_range, S_len, sizeLine_eq] at *; omega))
  k_with "mItem" => (first
  | ((with_reducible show wpAny _ _ (subscriptTail _ _ (Value.str (S (_ :: _)) _) (Value.int 0 _)) _ _ _); refine r_it0 (by walk_at "mI") ?_)
  | ((with_reducible show wpAny _ _ (subscriptTail _ _ (Value.str (S (_ :: _ :: _)) _) (Value.int 1 _)) _ _ _); refine r_it1 (by walk_at "mI") ?_)
  | ((with_reducible show wpAny _ _ (subscriptTail _ _ (Value.str (S _) _) (Value.int _ _)) _ _ _); refine r_item (by walk_at "mI") (by walk_at "mI") (by walk_at "mI") ?_))
  k_with "mSlice" => (((with_reducible rename Fr _ _ _ _ => F'); (with_reducible rename News _ _ _ _ => N'); (first
  | ((with_reducible show wpAny _ _ (subscriptTail _ (Expr.Slice (some _) none none _) (Value.str (S (_ :: _)) _) _) _ _ _); refine r_sl1 (s := ⟨_, _, _, _, _⟩) F' N' (by walk_at "mI") ?_)
  | refine r_ss (s := ⟨_, _, _, _, _⟩) F' N' (by walk_at "mI") (by walk_at "mI") (by walk_at "mI") ?_
  | refine r_sn (s := ⟨_, _, _, _, _⟩) F' N' (by walk_at "mI") (by walk_at "mI") ?_
  | refine r_ns (s := ⟨_, _, _, _, _⟩) F' N' (by walk_at "mI") (by walk_at "mI") ?_); intro _ _ _ _ _))
  k_with "subscriptTail" => (first | walk_at "mItem" | walk_at "mSlice")
  k_with "subscriptTail Name Name str int" => (walk_at "mItem")
  k_with "subscriptTail Name Constant str int" => (walk_at "mItem")
  k_with "subscriptTail Name Slice str ref" => (walk_at "mSlice")
  k_with "eval Constant str" => ((with_reducible first | refine r_const lit_bang ?_ | refine r_const lit_hat ?_ | refine r_const lit_q ?_ | refine r_const lit_thorn ?_ | refine r_const lit_del ?_ | refine r_const lit_ff ?_ | refine r_const lit_A ?_ | refine r_const lit_hq ?_ | refine r_const lit_h9 ?_ | refine r_const lit_sp ?_ | refine r_const lit_tilde ?_ | refine r_const lit_fe ?_ | refine r_const lit_hT ?_ | refine r_const lit_e ?_ | refine r_const lit_marks ?_))
  k_with "call builtin:len" => (first
  | ((with_reducible show wpAny _ _ (call (Value.builtin "len") [Value.str (S [_]) _]) _ _ _); refine r_len1 ?_)
  | ((with_reducible show wpAny _ _ (call (Value.builtin "len") [Value.str (S [_, _]) _]) _ _ _); refine r_len2 ?_)
  | ((with_reducible show wpAny _ _ (call (Value.builtin "len") [Value.str (S [_, _, _]) _]) _ _ _); refine r_len3 ?_)
  | ((with_reducible show wpAny _ _ (call (Value.builtin "len") [Value.str (S _) _]) _ _ _); refine r_len (by walk_at "mI") ?_))
  k_with "compareOp Eq str str" => (((with_reducible show wpAny _ _ (compareOp _ (Value.str (S _) _) (Value.str (S _) _)) _ _ _); refine r_eq ?_))
  k_with "compareOp NotEq str str" => (((with_reducible show wpAny _ _ (compareOp _ (Value.str (S _) _) (Value.str (S _) _)) _ _ _); refine r_ne ?_))
  k_with "compareOp In str str" => (((with_reducible show wpAny _ _ (compareOp _ (Value.str (S _) _) (Value.str (S _) _)) _ _ _); refine r_in ?_))
  k_with "compareOp Gt str str" => (((with_reducible show wpAny _ _ (compareOp _ (Value.str (S _) _) (Value.str (S _) _)) _ _ _); refine r_gt ?_))
  k_with "compareOp LtE str str" => (((with_reducible show wpAny _ _ (compareOp _ (Value.str (S _) _) (Value.str (S _) _)) _ _ _); refine r_le ?_))
  k_with "binaryOp Add str str" => (((with_reducible show wpAny _ _ (binaryOp _ (Value.str (S _) _) (Value.str (S _) _)) _ _ _); refine r_add ?_ (by walk_at "mI"); intro _ _))
  k_with "inplaceOp Add str str" => (((with_reducible show wpAny _ _ (inplaceOp _ (Value.str (S _) _) (Value.str (S _) _)) _ _ _); refine r_iadd ?_ (by walk_at "mI"); intro _ _))
  k_with "call builtin:ord" => (((with_reducible show wpAny _ _ (call (Value.builtin "ord") [Value.str (S _) _]) _ _ _); refine r_ord ?_))
  k_with "call builtin:chr" => ((refine r_chr (by walk_at "mChr") (by walk_at "mChr") ?_))
  k_with "mChr" => (first | omega | (split <;> omega))
  k_with "mRoom" => (((try simp only [depth_mark, depth_under_make, depth_under_kw, depth_in1, depth_deeper, depth_caller, units_in1, units_deeper, Around.mark_units, units_caller]); (try dsimp only [arA]); omega))
  k_with "mClean" => (((try clear hret); (repeat (with_reducible rename Fr _ _ _ _ => x9; clear x9)); (repeat (with_reducible rename News _ _ _ _ => x9; clear x9)); (repeat (with_reducible rename Below _ _ _ _ => x9; clear x9)); (repeat (with_reducible rename Top _ _ _ _ _ _ => x9; clear x9)); (repeat (with_reducible rename Frag.In _ _ => x9; clear x9))))
  k_with "mUse2" => (((intro t9 h9 tk9 F9 N9); (try dsimp only); (try k_fold)))
  k_with "binaryOp BitAnd int int" => (first
  | ((with_reducible show wpAny _ _ (binaryOp _ (Value.int _ _) (Value.int 127 _)) _ _ _); refine r_and127 ?_)
  | ((with_reducible show wpAny _ _ (binaryOp _ (Value.int _ _) (Value.int 31 _)) _ _ _); refine r_and31 ?_)
  | ((with_reducible show wpAny _ _ (binaryOp _ (Value.int _ _) (Value.int 128 _)) _ _ _); refine r_and128 (by omega) ?_ ?_ <;> intro _))
  k_with "binaryOp BitOr int int" => (first
  | ((with_reducible show wpAny _ _ (binaryOp _ (Value.int _ _) (Value.int 32 _)) _ _ _); refine r_or32 (by omega) ?_ ?_ <;> intro _)
  | ((with_reducible show wpAny _ _ (binaryOp _ (Value.int _ _) (Value.int 128 _)) _ _ _); refine r_or128 (by omega) ?_ ?_ <;> intro _))
  k_with "inplaceOp Add ref ref" => ((k_here; k_dflt (refine iadd_K (by k_asm) (by k_asm) (by k_mem) (by k_upd) (by exact Nat.le_of_ble_eq_true rfl) (by exact Nat.le_of_ble_eq_true rfl) ?_; k_whole); intro h' F' N'; (try dsimp only [List.cons_append, List.nil_append] at N'); (try k_sweep)))
  trivial
def heardGo : Nat → List Nat → List Nat
  | c, [] => [c]
  | c, f :: r => if c = 33 then (if f < 128 then heardGo (f + 128) r else 161 :: heardGo (f - 128) r)
    else if c = 94 ∨ c = 222 then (if 63 ≤ f ∧ f ≤ 95 then heardGo ((f + 64) % 128 + c - 94) r else if f < 32 ∨ f = 127 then (c - 64) :: heardGo ((f + 64) % 128) r else c :: heardGo f r)
    else c :: heardGo f r
def heardL (cs : List Nat) : List Nat := heardGo (cs.getD 0 0) (cs.drop 1)
theorem ex_map2 {m : Str → Option Value} {x1 x2 : Str} {v1 v2 : Value} (h1 : m x1 = some v1) (h2 : m x2 = some v2) :
    ∃ u : Str → Option Value, m = fun y => if y = x1 then some v1 else if y = x2 then some v2 else u y := ⟨m, funext fun y => by
  by_cases e1 : y = x1
  · subst e1; simp [h1]
  by_cases e2 : y = x2
  · subst e2; simp [e1, h2]
  simp [e1, e2]⟩
theorem getD_cast (cs : List Nat) (k : Nat) : (cs.map fun c : Nat => (c : Int)).getD k 0 = ((cs.getD k 0 : Nat) : Int) := by
  rw [List.getD_eq_getElem?_getD, List.getD_eq_getElem?_getD, List.getElem?_map]
  cases cs[k]? <;> rfl
theorem any_t {c : Nat} (h : ([94, 222].any fun x : Int => x == (c : Int)) = true) : c = 94 ∨ c = 222 := by simp at h; omega
theorem any_f {c : Nat} (h : ([94, 222].any fun x : Int => x == (c : Int)) = false) : ¬ (c = 94 ∨ c = 222) := by simp at h; omega
def HrJ (cs : List Nat) (D9 : Addr) (w9 : List Value) (hD : Addr) (R : List Nat) (i : Nat) (m : Str → Option Value) (nx : List (Addr × Obj)) : Prop :=
  ∃ c ws n acc, nx = [(D9, listOf w9.toArray 0), (hD, listOf ws.toArray n)] ∧ NatsAre ws acc ∧ acc ++ heardGo c (cs.drop i) = R ∧ c < 256 ∧ acc.length ≤ i ∧
    ∃ tc, ∃ u : Str → Option Value, m = fun y => if y = Str.ofString "heard" then some (.ref hD) else if y = Str.ofString "code" then some (.int (c : Nat) tc) else u y
theorem hr_end {h₀ h' : Heap} {L it : Addr} {s : Shared} {o : Obj} {cs : List Nat} {D9 lD : Addr} {w9 ws : List Value} {R acc : List Nat} {i n tk : Nat} {Q : Flow → Shared → Prop} {m' : Str → Option Value} {nx : List (Addr × Obj)} {tc : Tok}
    (c : Nat) (z : Int) (hA : NatsAre ws acc) (hR : acc ++ heardGo c (cs.drop (i + 1)) = R) (hc : c < 256) (hl : acc.length ≤ i + 1)
    (F : Fr h₀ L h' m') (N : News h₀ L h' nx) (h1 : (it, o) ∈ nx) (h2 : (D9, listOf w9.toArray 0) ∈ nx) (h3 : (lD, listOf ws.toArray n) ∈ nx) (hm1 : m' (Str.ofString "heard") = some (.ref lD)) (hm2 : m' (Str.ofString "code") = some (.int z tc)) (hz : z = (c : Int)) :
    TurnEnd h₀ L s it o (HrJ cs D9 w9 lD R (i + 1)) Q .next { s with heap := h', toks := tk } := by
  subst hz
  refine ⟨h', tk, m', [(D9, listOf w9.toArray 0), (lD, listOf ws.toArray n)], rfl, F, fun q hq => ?_, c, ws, n, acc, rfl, hA, hR, hc, hl, tc, ex_map2 hm1 hm2⟩
  simp only [List.mem_cons, List.mem_nil_iff, or_false] at hq
  rcases hq with rfl | rfl | rfl
  · exact N _ h1
  · exact N _ h2
  · exact N _ h3
theorem hr_1 {f : Nat} {r : List Nat} (c d : Nat) (hc : c = 33) (hf : f < 128) (hd : d = f + 128) : heardGo c (f :: r) = heardGo d r := by
  subst hc hd; conv => lhs; unfold heardGo
  rw [if_pos rfl, if_pos hf]
theorem hr_2 {f : Nat} {r : List Nat} (c d : Nat) (hc : c = 33) (hf : ¬ f < 128) (hd : d = f - 128) : heardGo c (f :: r) = 161 :: heardGo d r := by
  subst hc hd; conv => lhs; unfold heardGo
  rw [if_pos rfl, if_neg hf]
theorem hr_3 {f : Nat} {r : List Nat} (c d : Nat) (hc : c = 94 ∨ c = 222) (hf : 63 ≤ f ∧ f ≤ 95) (hd : d = (f + 64) % 128 + c - 94) : heardGo c (f :: r) = heardGo d r := by
  subst hd; conv => lhs; unfold heardGo
  rw [if_neg (by omega), if_pos hc, if_pos hf]
theorem hr_4 {f : Nat} {r : List Nat} (c d e : Nat) (hc : c = 94 ∨ c = 222) (hf : f < 32 ∨ f = 127) (hd : d = (f + 64) % 128) (he : e = c - 64) : heardGo c (f :: r) = e :: heardGo d r := by
  subst hd he; conv => lhs; unfold heardGo
  rw [if_neg (by omega), if_pos hc, if_neg (by omega), if_pos hf]
theorem hr_5 {f : Nat} {r : List Nat} (c : Nat) (hc : c ≠ 33) (hf : (c = 94 ∨ c = 222) → ¬ (63 ≤ f ∧ f ≤ 95) ∧ ¬ (f < 32 ∨ f = 127)) : heardGo c (f :: r) = c :: heardGo f r := by
  conv => lhs; unfold heardGo
  rw [if_neg hc]
  split
  · rename_i h; rw [if_neg (hf h).1, if_neg (hf h).2]
  · rfl

theorem ln_16 : True := by
  k_with "binaryOp Mod int int" => (refine r_mod (by decide) ?_)
  k_with "exec For" => (refine hold ?_)
  k_with "exec For Name Subscript cons nil" => (refine hold ?_)
  k_with "pyIter ref" => (refine hold ?_)
  k_with "TurnEnd" => (refine hold ?_)
  k_with "subscriptTail" => (((with_reducible show wpAny _ _ (subscriptTail _ _ (Value.ref _) (Value.int 0 _)) _ _ _); refine r_head (by is_list) (by assumption) (by assumption) ?_; intro _))
  k_with "call builtin:list.append" => ((k_here; (with_reducible show wpAny _ _ (call (Value.builtin _) [Value.ref _, _]) _ _ _); k_dflt (refine r_appendN (by k_asm) (by k_asm) (by k_upd) (by assumption) (by omega) ?_; k_whole); intro h' F' N'; (try k_sweep)))
  trivial
theorem heard_ok (w : World) (p : Program) (loose : List Str) (mean : ExcName → Option Value) (mg mb : Str → Option Value) (D : Addr) (ws : List Value) (cs : List Nat) (hI : NatsAre ws cs) (hne : 0 < cs.length) (hlen : cs.length ≤ 20) (hc : ∀ c ∈ cs, c < 256)
    (dp un : Nat) (fr : Option (List Env)) (gd : Option (List Code)) (s : Shared) (Q E : Value → Shared → Prop)
    (X : (hd.heap_39 w.params).In s.heap) (T : Top p loose mean mg mb s.heap) (hdp : dp + 30 < 1000) (hun : un + 300 < 9900) (hl : s.heap.IsList D ws.toArray)
    (hret : ∀ D' ws' k' h' tk, s.heap.StaysIn h' → s.heap.get? D' = none → h'.get? D' = some (listOf ws'.toArray k') → NatsAre ws' (heardL cs) → Q (.ref D') { s with heap := h', toks := tk }) :
    wpAny (model PySem.Challenge.rw_mr0049_02.prog w) (arA dp un fr gd) (call (.ref 98) [.ref D]) Q E s := by
  w_top off
  revert X T hret
  k_fill
  intro X T hret
  refine wpAny_call ?_
  k_dflt (refine' code_pure ?k3 ?k5 ?k6 ?k7 ?k8 ?k9 ?kB ?_ ?c2 ?c3 ?c4 ?c5; (case k3 => assumption); (case k5 => assumption); (case k6 => k_is); (case k7 => k_is); (case k8 => (show dp < 1000); omega); (case k9 => exact BindsTo.of_eq rfl); (case c5 => decide); (case kB => exact locs rfl); (case c2 => exact rfl); (case c3 => exact rfl); (case c4 => exact rfl); k_whole; intro L' h' F' N')
  k_steps
  unfold Hold
  refine wpAny_For ?_
  k_steps
  unfold Hold
  rename_i D9 w9 h9 F9 N9 hI9 hC9 hL9 hlt9
  rw [← List.map_drop] at hI9
  (with_reducible rename Fr _ _ _ _ => Fq)
  refine news2 N9 fun lD elD => ?_
  subst elD
  refine for_listG (HrJ (cs.drop 1) D9 w9 lD (heardL cs)) rfl Fq N9 ⟨_, (N9 _ (.head _)).1, rfl, _, rfl⟩ ?_ ?_ ?_ ?_ ?_ (by passes_own)
  · refine ⟨cs.getD 0 0, [], 0, [], rfl, .none, rfl, ?_, Nat.zero_le _, _, ex_map2 rfl (congrArg (fun z => some (Value.int z _)) (getD_cast cs 0))⟩
    rw [List.getD_eq_getElem?_getD, List.getElem?_eq_getElem hne]; exact hc _ (List.getElem_mem _)
  · rintro i m nx h ⟨c, ws, n, acc, rfl, _⟩ F N
    exact ⟨_, (N _ (.head _)).1, rfl, _, rfl⟩
  · have z1 := Heap.lt_size (N9 _ (.head _)).1
    have z2 := Heap.lt_size (N9 _ (.tail _ (.head _))).1
    rintro i m nx ⟨c, ws, n, acc, rfl, _⟩ p hp
    simp only [List.mem_cons, List.mem_nil_iff, or_false] at hp
    rcases hp with rfl | rfl
    · exact Nat.ne_of_lt z1
    · exact Nat.ne_of_lt z2
  · have z1 : @LT.lt Nat _ D9 _ := Heap.lt_size (N9 _ (.head _)).1
    have z2 : @LT.lt Nat _ lD _ := Heap.lt_size (N9 _ (.tail _ (.head _))).1
    clear Fq N9 hI
    rintro i v m nx h tk o hv ⟨c, ws1, n, acc, rfl, hA, hR, hc1, hacc, tc, u, rfl⟩ F3 N3
    obtain ⟨f, tf, e1, rfl⟩ := NatsAre.at' hI9 hv
    have hf : f < 256 := hc f (List.mem_of_mem_drop (List.mem_of_getElem? e1))
    have hi : i < (cs.drop 1).length := (List.getElem?_eq_some_iff.mp e1).1
    have hi2 : i < 20 := by simp at hi; omega
    have hd : (cs.drop 1).drop i = f :: (cs.drop 1).drop (i + 1) := by
      rw [List.drop_eq_getElem_cons hi]; congr 1
      rw [List.getElem?_eq_getElem hi] at e1; exact Option.some.inj e1
    rw [hd] at hR
    clear hv hI9
    k_steps
    all_goals (try unfold Hold)
    all_goals try (exfalso; omega)
    · exact hr_end (f + 128) _ hA (by rw [← hR, hr_1 c (f + 128) (by omega) (by omega) rfl]) (by omega) (by first | omega | (simp; omega)) (by k_asm) (by k_asm) (by k_mem) (by k_mem) (by k_mem) rfl rfl (by omega)
    · exact hr_end (f - 128) _ (hA.push' 161 _ _ rfl) (by rw [← hR, hr_2 c (f - 128) (by omega) (by omega) rfl]; simp) (by omega) (by first | omega | (simp; omega)) (by k_asm) (by k_asm) (by k_mem) (by k_mem) (by k_mem) rfl rfl (by omega)
    all_goals try have ha := any_t (c := c) (by assumption)
    · exact hr_end ((f + 64) % 128 + c - 94) _ hA (by rw [← hR, hr_3 c ((f + 64) % 128 + c - 94) ha (by omega) rfl]) (by omega) (by first | omega | (simp; omega)) (by k_asm) (by k_asm) (by k_mem) (by k_mem) (by k_mem) rfl rfl (by omega)
    · exact hr_end ((f + 64) % 128) _ (hA.push' (c - 64) ((c : Int) - 64) _ (by omega)) (by rw [← hR, hr_4 c ((f + 64) % 128) (c - 64) ha (by omega) rfl rfl]; simp) (by omega) (by first | omega | (simp; omega)) (by k_asm) (by k_asm) (by k_mem) (by k_mem) (by k_mem) rfl rfl (by omega)
    · exact hr_end f _ (hA.push' c _ _ rfl) (by rw [← hR, hr_5 c (by omega) (by omega)]; simp) (by omega) (by first | omega | (simp; omega)) (by k_asm) (by k_asm) (by k_mem) (by k_mem) (by k_mem) rfl rfl (by omega)
    · exact hr_end ((f + 64) % 128) _ (hA.push' (c - 64) ((c : Int) - 64) _ (by omega)) (by rw [← hR, hr_4 c ((f + 64) % 128) (c - 64) ha (by omega) rfl rfl]; simp) (by omega) (by first | omega | (simp; omega)) (by k_asm) (by k_asm) (by k_mem) (by k_mem) (by k_mem) rfl rfl (by omega)
    · exact hr_end f _ (hA.push' c _ _ rfl) (by rw [← hR, hr_5 c (by omega) (by omega)]; simp) (by omega) (by first | omega | (simp; omega)) (by k_asm) (by k_asm) (by k_mem) (by k_mem) (by k_mem) rfl rfl (by omega)
    have ha := any_f (c := c) (by assumption)
    exact hr_end f _ (hA.push' c _ _ rfl) (by rw [← hR, hr_5 c (by omega) (fun z => absurd z ha)]; simp) (by omega) (by first | omega | (simp; omega)) (by k_asm) (by k_asm) (by k_mem) (by k_mem) (by k_mem) rfl rfl (by omega)
  · clear Fq N9 hI
    have hlen9 := NatsAre.length (cs := cs.drop 1) hI9
    rintro m nx h tk ⟨c, ws1, n, acc, rfl, hA, hR, hc1, hacc, tc, u, rfl⟩ F3 N3
    rw [hlen9, List.drop_length] at hR
    replace hR : acc ++ [c] = heardL cs := hR
    dsimp only
    k_steps
    (with_reducible rename News _ _ _ _ => NE)
    (with_reducible rename Fr _ _ _ _ => FE)
    rename IntsAre _ (_ ++ _) => hIE
    exact hret _ _ _ _ _ FE.keep (NE _ (.head _)).2.2 (NE _ (.head _)).1 (by rw [← hR]; unfold NatsAre; rw [List.map_append]; exact hIE)
end
section
open PySem PySem.W PyProof.Rows
set_option Elab.async false
set_option maxRecDepth 100000
section
variable {prog : Program} {w : World} {A : Around} {E : Value → Shared → Prop} {s : Shared} {env : Env} {h₀ : Heap} {L : Addr} {m : Str → Option Value} {news : List (Addr × Obj)} {elt iter : Expr} {x : Str} {px : Pos} {scope : Scope} {pos : Pos} {Q : Value → Shared → Prop}
/-- a list comprehension over a list of the ledger, without a test -/
theorem comp_list {ws : List Value} {D0 : Addr} {k0 : Nat} (R : Value → Value → Prop) (F : Fr h₀ L s.heap m) (N : News h₀ L s.heap news) (hD0 : (D0, listOf ws.toArray k0) ∈ news) (hh : A.handled = none)
    (hfree : ∀ y ∈ scope.names, y.2 ≠ .free) (hcell : ∀ y ∈ scope.names, y.2 ≠ .cell) (hkind : scope.kind = .function)
    (hnames : ∀ y ∈ scope.names, y.2 = .local → scope.names.lookup y.1 = some .local) (hx : scope.names.lookup x = some .local)
    (hit : ∀ Q' : Value → Shared → Prop, Q' (.ref D0) s → wpAny (model prog w) A (eval iter env) Q' E s) (hl : ws.length ≤ sizeLine)
    (helt : ∀ C v s₃ m₃ E', v ∈ ws → s₃.heap.Ns C m₃ → m₃ x = some v → (∀ b o, s.heap.get? b = some o → s₃.heap.get? b = some o) →
      wpAny (model prog w) A (eval elt (compEnv scope C env)) (fun y s₄ => R v y ∧ Keeps s₃ s₄) E' s₃)
    (h : ∀ (D : Addr) (ys : List Value) (k : Nat) (h' : Heap) (tk : Nat), Fr h₀ L h' m → News h₀ L h' ((D, listOf ys.toArray k) :: news) → ys.length = ws.length → (∀ (i : Nat) (v : Value) (y : Value), ws[i]? = some v → ys[i]? = some y → R v y) → Q (.ref D) { s with heap := h', toks := tk })
    (hs : ∀ x, foldedSetIterable iter env x = pure x := by intro _; rfl) :
    wpAny (model prog w) A (eval (.ListComp elt [⟨.Name x px, iter, [], 0⟩] scope pos) env) Q E s := by
  have hls : s.heap.IsList D0 ws.toArray := ⟨_, (N _ hD0).1, rfl, _, rfl⟩
  have hlt := Heap.lt_size (N _ hD0).1
  refine wpAny_ListComp_walk (fun _ => true) (fun v y => v ∈ ws ∧ R v y) hfree hcell hkind hnames hx (hit _ ?_) hs
  refine wpAny_pyIter_list hls ?_
  refine ⟨_, _, _, _, _, _, rfl, Walks.list hh s.heap.objs.size D0 (Nat.ne_of_lt hlt) ws.toArray, by simpa using hl, ⟨⟨_, Heap.get?_push_size _ rfl, rfl, rfl⟩, hls.at fun o e => Heap.get?_push_of_some _ e⟩, fun b hb => ?_, ⟨?_, ?_⟩, ?_⟩
  · rw [Heap.size_push]
    rcases List.mem_cons.mp hb with rfl | hb
    · exact Nat.lt_succ_self _
    · rw [List.mem_singleton.mp hb]; exact Nat.lt_succ_of_lt hlt
  · intro C i v s₃ m₃ E' _ _ _ _ _
    exact wpAny_pure ⟨rfl, s₃.heap, s₃.toks, rfl, fun _ _ e => e⟩
  · intro C i v s₃ m₃ E' hc _ hn hx' hk _
    have hm : v ∈ ws := by
      have : ws[i]? = some v := by simpa using hc
      exact List.mem_of_getElem? this
    refine wpAny_mono (helt C v s₃ m₃ E' hm hn hx' fun b o e => hk b o (fun q => ?_) (Heap.get?_push_of_some _ e)) (fun y s₄ z => ⟨⟨hm, z.1⟩, z.2⟩) fun _ _ e => e
    rw [List.mem_singleton.mp q] at e
    exact absurd (Heap.lt_size e) (Nat.lt_irrefl _)
  · intro D h' tk ys vs hD _ hp hlen hP hF hk
    obtain ⟨k, hD'⟩ := hp
    rw [List.filter_eq_self.mpr (by simp)] at hF
    obtain ⟨e1, e2⟩ := paired_all hF
    have st' : ∀ b o, s.heap.get? b = some o → h'.get? b = some o := fun b o e => hk b o (fun q => by
      rw [List.mem_singleton.mp q] at e; exact absurd (Heap.lt_size e) (Nat.lt_irrefl _)) (Heap.get?_push_of_some _ e)
    have nD : ∀ b o, s.heap.get? b = some o → b ≠ D := fun b o e q => by
      rw [q] at e; rw [Heap.get?_push_of_some _ e] at hD; cases hD
    refine h D ys.toList k h' tk ⟨F.ns.keeps st', fun b o e => st' b o (F.keep b o e), F.above⟩ (fun q hq => ?_) ?_ ?_
    · rcases List.mem_cons.mp hq with rfl | hq
      · refine ⟨by simpa using hD', fun e => ?_, ?_⟩
        · obtain ⟨oL, _, _, hL, _⟩ := F.ns
          exact nD _ _ hL (by simpa using e.symm)
        · cases q : h₀.get? D with
          | none => rfl
          | some o => exact absurd rfl (nD D o (F.keep D o q))
      · exact ⟨st' _ _ (N q hq).1, (N q hq).2⟩
    · rw [← e1, hlen]; simp
    · intro i v y hv hy
      have hv' : i < vs.length := by
        rw [e1]; exact (List.getElem?_eq_some_iff.mp hy).1
      have hc' := hP i vs[i] (by simp [hv'])
      have hc'' : ws[i]? = some vs[i] := by simpa using hc'
      rw [hv] at hc''
      obtain ⟨_, hr⟩ := e2 i vs[i] y (by simp [hv']) hy
      rw [Option.some.inj hc'']; exact hr
end
end
section
open PySem PySem.W PyProof.Rows PySem.SeqAt
set_option Elab.async false
set_option maxRecDepth 100000
def dTri (x : Tri) : PyData := .tuple [.int (x.1 : Nat), .int (x.2.1 : Nat), .list ((x.2.2.map fun c : Nat => (c : Int)).map PyData.int)]
theorem read_tri {h : Heap} {T r : Addr} {ta tb : Tok} {ws : List Value} {k : Nat} {x : Tri} (h1 : h.get? T = some (tupO [.int (x.1 : Nat) ta, .int (x.2.1 : Nat) tb, .ref r])) (h2 : h.get? r = some (listOf ws.toArray k)) (hA : NatsAre ws x.2.2) : ∃ as, Reads h (.ref T) (dTri x) as :=
  ⟨_, reads_tuple_at h1 rfl rfl (by
    show ReadsAll h [.int (x.1 : Nat) ta, .int (x.2.1 : Nat) tb, .ref r] _ _
    exact .cons (.int _ _) (.cons (.int _ _) (.cons (reads_list_at h2 rfl rfl (readsAll_of_ints hA)) .nil)))⟩
theorem lay_tri (x : Tri) : (dTri x).canLay0 = true ∧ (dTri x).depth ≤ 3 := by
  have h1 := PySem.W.depthAll_ints (x.2.2.map fun c : Nat => (c : Int))
  have h2 := PySem.W.canLayAll0_ints (x.2.2.map fun c : Nat => (c : Int))
  unfold dTri
  constructor
  · simp only [PyData.canLay0, PyData.canLayAll0, h2, Bool.and_self, Bool.and_true]
  · simp only [PyData.depth, PyData.depthAll]; omega
theorem shaped_tri (x : Tri) : shaped (dTri x) = true := by
  have := lay_tri x
  show ((dTri x).canLay0 && decide ((dTri x).depth ≤ 64)) = true
  rw [this.1, decide_eq_true (by omega)]; rfl
theorem lay_tris : ∀ xs : List Tri, PyData.canLayAll0 (xs.map dTri) = true ∧ PyData.depthAll (xs.map dTri) ≤ 3
  | [] => by simp [PyData.canLayAll0, PyData.depthAll]
  | x :: xs => by
    have h1 := lay_tri x
    have h2 := lay_tris xs
    simp only [List.map_cons, PyData.canLayAll0, PyData.depthAll, Bool.and_eq_true]
    exact ⟨⟨h1.1, h2.1⟩, by omega⟩
theorem shaped_tris (xs : List Tri) : shaped (.list (xs.map dTri)) = true := by
  have := lay_tris xs
  have h1 : PyData.canLay0 (.list (xs.map dTri)) = true := by simp only [PyData.canLay0]; exact this.1
  have h2 : PyData.depth (.list (xs.map dTri)) ≤ 64 := by simp only [PyData.depth]; omega
  show (PyData.canLay0 (.list (xs.map dTri)) && decide (PyData.depth (.list (xs.map dTri)) ≤ 64)) = true
  rw [h1, decide_eq_true h2]; rfl
theorem read_mats {h : Heap} {Z : List (Addr × Obj)} (hZ : Has Z h) : ∀ {vs : List Value} {xs : List Tri}, MatsAre Z vs xs → ∃ as, ReadsAll h vs (xs.map dTri) as
  | _, _, .nil => ⟨_, .nil⟩
  | _, _, .cons ⟨T, r, ta, tb, ws, k, e, a, b, c⟩ m => by
    obtain ⟨as, ra⟩ := read_tri (hZ _ a) (hZ _ b) c
    obtain ⟨bs, rb⟩ := read_mats hZ m
    subst e
    exact ⟨_, .cons ra rb⟩
section
variable {prog : Program} {w : World} {A : Around} {E : Value → Shared → Prop} {s : Shared} {Q : Value → Shared → Prop}
/-- two triples that tell the same -/
theorem r_ne_same {a b : Value} {x : Tri} (ra : ∃ as, Reads s.heap a (dTri x) as) (rb : ∃ bs, Reads s.heap b (dTri x) bs) (hu : A.units + 64 < cLine) (h : Q (.bool false) s) : wpAny (model prog w) A (compareOp .NotEq a b) Q E s := by
  obtain ⟨as, ra⟩ := ra
  obtain ⟨bs, rb⟩ := rb
  refine ne_dataH ra rb (shaped_tri x) (shaped_tri x) hu ?_
  rw [PySem.SeqAt.eqv_refl _ (lay_tri x).1]
  exact h
theorem r_ne_nil {D D2 : Addr} {Z : List (Addr × Obj)} {vs : List Value} {xs : List Tri} {k k2 : Nat} (h1 : s.heap.get? D = some (listOf vs.toArray k)) (h2 : s.heap.get? D2 = some (listOf #[] k2)) (hZ : Has Z s.heap) (hM : MatsAre Z vs xs) (hu : A.units + 64 < cLine) (h : Q (.bool (decide (xs ≠ []))) s) :
    wpAny (model prog w) A (compareOp .NotEq (.ref D) (.ref D2)) Q E s := by
  obtain ⟨as, ra⟩ := read_mats hZ hM
  refine ne_dataH (reads_list_at h1 rfl rfl ra) (reads_list_at h2 rfl rfl .nil) (shaped_tris xs) (shaped_tris []) hu ?_
  have e : (!PyData.eqv (.list (xs.map dTri)) (.list [])) = decide (xs ≠ []) := by
    cases xs <;> simp [PyData.eqv, PyData.eqvAll]
  rw [e]; exact h
end
def fitsB (col : Int) (x : Tri) : Bool := decide ((x.1 : Int) < col ∧ (x.2.1 : Int) ≤ col)
theorem mat_uniq {h : Heap} {Z : List (Addr × Obj)} (hZ : Has Z h) {v : Value} {x y : Tri} (a : MatAt Z v x) (b : MatAt Z v y) : x.1 = y.1 ∧ x.2.1 = y.2.1 := by
  obtain ⟨T, r, ta, tb, ws, k, e, a1, _⟩ := a
  obtain ⟨T', r', ta', tb', ws', k', e', b1, _⟩ := b
  rw [e] at e'
  cases e'
  have h1 := hZ _ a1
  have h2 := hZ _ b1
  simp only at h1 h2
  rw [h1] at h2
  have h3 := Option.some.inj h2
  simp at h3
  omega
open Classical in
theorem mats_filter {h : Heap} {Z : List (Addr × Obj)} (hZ : Has Z h) (col : Int) : ∀ {vs : List Value} {xs : List Tri}, MatsAre Z vs xs → MatsAre Z (vs.filter fun v => decide (∃ x, MatAt Z v x ∧ fitsB col x = true)) (xs.filter (fitsB col))
  | _, _, .nil => .nil
  | _, _, .cons (v := v) (x := x) a m => by
    have e : (∃ x, MatAt Z v x ∧ fitsB col x = true) ↔ fitsB col x = true := by
      constructor
      · rintro ⟨y, b, f⟩
        have := mat_uniq hZ a b
        unfold fitsB at *
        rw [this.1, this.2]; exact f
      · exact fun f => ⟨x, a, f⟩
    have ih := mats_filter hZ col m
    rw [List.filter_cons, List.filter_cons]
    by_cases f : fitsB col x = true
    · rw [if_pos (decide_eq_true (e.mpr f)), if_pos f]; exact .cons a ih
    · rw [if_neg (by rw [decide_eq_true_eq]; exact fun z => f (e.mp z)), if_neg f]; exact ih
section
variable {prog : Program} {w : World} {A : Around} {E : Value → Shared → Prop} {s : Shared} {env : Env} {h₀ : Heap} {L : Addr} {m : Str → Option Value} {news : List (Addr × Obj)} {iter : Expr} {scope : Scope} {pos : Pos} {Q : Flow → Shared → Prop}
theorem assign_end {h h' : Heap} {D : Addr} {ys : Array Value} {k : Nat} {y : Str} {o : Obj} (F : Fr h₀ L h m) (N : News h₀ L h news) (hD : (h.push o).get? D = none) (hD' : h'.get? D = some { cls := .type "list", data := .seq ys k }) (hns : h'.Ns L (fun z => if z = y then some (.ref D) else m z))
    (hk : ∀ b o', b ≠ L → b ∉ [h.objs.size] → (h.push o).get? b = some o' → h'.get? b = some o') : Fr h₀ L h' (fun z => if z = y then some (.ref D) else m z) ∧ News h₀ L h' ((D, listOf ys.toList.toArray k) :: news) := by
  have st' : ∀ b o', b ≠ L → h.get? b = some o' → h'.get? b = some o' := fun b o' hb e => hk b o' hb (fun q => by
    rw [List.mem_singleton.mp q] at e; exact absurd (Heap.lt_size e) (Nat.lt_irrefl _)) (Heap.get?_push_of_some _ e)
  have nD : ∀ b o', h.get? b = some o' → b ≠ D := fun b o' e q => by
    rw [q] at e; rw [Heap.get?_push_of_some _ e] at hD; cases hD
  have hL₀ : h₀.get? L = none := Heap.get?_none_of_le F.above
  refine ⟨⟨hns, fun b o' e => st' b o' (fun q => by rw [q, hL₀] at e; cases e) (F.keep b o' e), F.above⟩, fun q hq => ?_⟩
  rcases List.mem_cons.mp hq with rfl | hq
  · refine ⟨by simpa using hD', fun e => ?_, ?_⟩
    · obtain ⟨oL, _, _, hL, _⟩ := F.ns
      exact nD _ _ hL (by simpa using e.symm)
    · cases q : h₀.get? D with
      | none => rfl
      | some o' => exact absurd rfl (nD D o' (F.keep D o' q))
  · exact ⟨st' _ _ (N q hq).2.1 (N q hq).1, (N q hq).2⟩
/-- y = [a list comprehension over a list of the ledger], without a test -/
theorem comp_listA {ws : List Value} {D0 : Addr} {k0 : Nat} {elt : Expr} {x y : Str} {px py spos : Pos} (R : Value → Value → Prop) (F : Fr h₀ L s.heap m) (N : News h₀ L s.heap news) (hD0 : (D0, listOf ws.toArray k0) ∈ news) (hh : A.handled = none) (hLe : env.locals = L)
    (hy : env.kindOf y = some .local) (hp : (env.scope.kind == .class || (env.scope.kind == .module && env.locals != env.globals)) = false)
    (hfree : ∀ y ∈ scope.names, y.2 ≠ .free) (hcell : ∀ y ∈ scope.names, y.2 ≠ .cell) (hkind : scope.kind = .function)
    (hnames : ∀ y ∈ scope.names, y.2 = .local → scope.names.lookup y.1 = some .local) (hx : scope.names.lookup x = some .local)
    (hit : ∀ Q' : Value → Shared → Prop, Q' (.ref D0) s → wpAny (model prog w) A (eval iter env) Q' E s) (hl : ws.length ≤ sizeLine)
    (helt : ∀ C v s₃ m₃ E', v ∈ ws → s₃.heap.Ns C m₃ → m₃ x = some v → (∀ b o, s.heap.get? b = some o → s₃.heap.get? b = some o) →
      wpAny (model prog w) A (eval elt (compEnv scope C env)) (fun y s₄ => R v y ∧ Keeps s₃ s₄) E' s₃)
    (h : ∀ (D : Addr) (ys : List Value) (k : Nat) (h' : Heap) (tk : Nat), Fr h₀ L h' (fun z => if z = y then some (.ref D) else m z) → News h₀ L h' ((D, listOf ys.toArray k) :: news) → ys.length = ws.length → (∀ (i : Nat) (v : Value) (y : Value), ws[i]? = some v → ys[i]? = some y → R v y) → Q .next { s with heap := h', toks := tk })
    (hs : ∀ x, foldedSetIterable iter env x = pure x := by intro _; rfl) (hsw : swapsWith (.ListComp elt [⟨.Name x px, iter, [], 0⟩] scope pos) (some (.Name y py)) spos.line env = pure true := by rfl) :
    wpAny (model prog w) A (exec (.Assign [.Name y py] (.ListComp elt [⟨.Name x px, iter, [], 0⟩] scope pos) spos) env) Q E s := by
  have hls : s.heap.IsList D0 ws.toArray := ⟨_, (N _ hD0).1, rfl, _, rfl⟩
  have hlt := Heap.lt_size (N _ hD0).1
  subst hLe
  refine wpAny_Assign_ListComp_walk (fun _ => true) (fun v y => v ∈ ws ∧ R v y) hsw hfree hcell hkind hnames hx hy hp (hit _ ?_) hs
  refine wpAny_pyIter_list hls ?_
  refine ⟨_, _, _, _, _, _, m, rfl, Walks.list hh s.heap.objs.size D0 (Nat.ne_of_lt hlt) ws.toArray, by simpa using hl, ⟨⟨_, Heap.get?_push_size _ rfl, rfl, rfl⟩, hls.at fun o e => Heap.get?_push_of_some _ e⟩, fun b hb => ?_, fun hm => Nat.lt_irrefl _ (List.mem_singleton.mp hm ▸ F.ns.lt), (F.push _).ns, ⟨?_, ?_⟩, ?_⟩
  · rw [Heap.size_push]
    rcases List.mem_cons.mp hb with rfl | hb
    · exact Nat.lt_succ_self _
    · rw [List.mem_singleton.mp hb]; exact Nat.lt_succ_of_lt hlt
  · intro C i v s₃ m₃ E' _ _ _ _ _
    exact wpAny_pure ⟨rfl, s₃.heap, s₃.toks, rfl, fun _ _ e => e⟩
  · intro C i v s₃ m₃ E' hc _ hn hx' hk _
    have hm : v ∈ ws := by
      have : ws[i]? = some v := by simpa using hc
      exact List.mem_of_getElem? this
    refine wpAny_mono (helt C v s₃ m₃ E' hm hn hx' fun b o e => hk b o (fun q => ?_) (Heap.get?_push_of_some _ e)) (fun y s₄ z => ⟨⟨hm, z.1⟩, z.2⟩) fun _ _ e => e
    rw [List.mem_singleton.mp q] at e
    exact absurd (Heap.lt_size e) (Nat.lt_irrefl _)
  · intro D h' tk ys vs hD _ hpl hlen hP hF hns hk
    obtain ⟨k, hD'⟩ := hpl
    rw [List.filter_eq_self.mpr (by simp)] at hF
    obtain ⟨e1, e2⟩ := paired_all hF
    obtain ⟨FE, NE⟩ := assign_end F N hD hD' hns hk
    refine h D ys.toList k h' tk FE NE (by rw [← e1, hlen]; simp) ?_
    intro i v y hv hy
    have hv' : i < vs.length := by
      rw [e1]; exact (List.getElem?_eq_some_iff.mp hy).1
    have hc' := hP i vs[i] (by simp [hv'])
    have hc'' : ws[i]? = some vs[i] := by simpa using hc'
    rw [hv] at hc''
    obtain ⟨_, hr⟩ := e2 i vs[i] y (by simp [hv']) hy
    rw [Option.some.inj hc'']; exact hr
/-- what stands of the matches for a col -/
theorem comp_filtA {ms : List Value} {xs : List Tri} {Z : List (Addr × Obj)} {D0 cc : Addr} {k0 : Nat} {col : Int} {tc : Tok} {y : Str} {py spos : Pos} {cl : List (Str × Addr)} {p1 px p2 p3 p4 p5 p6 p7 p8 p9 p10 p11 p12 : Pos}
    (F : Fr h₀ L s.heap m) (N : News h₀ L s.heap news) (hD0 : (D0, listOf ms.toArray k0) ∈ news) (hZ : Has Z s.heap) (hM : MatsAre Z ms xs) (hh : A.handled = none) (hLe : env.locals = L)
    (hy : env.kindOf y = some .local) (hp : (env.scope.kind == .class || (env.scope.kind == .module && env.locals != env.globals)) = false)
    (hclos : closureFor scope env = pure cl) (hcl : cl.lookup (Str.ofString "col") = some cc) (hcc : s.heap.IsCell cc (some (.int col tc)))
    (hcell : ∀ y ∈ scope.names, y.2 ≠ .cell) (hkind : scope.kind = .function)
    (hnames : ∀ y ∈ scope.names, y.2 = .local → scope.names.lookup y.1 = some .local) (hx : scope.names.lookup (Str.ofString "one") = some .local)
    (hk1 : ∀ C, (compEnvC scope cl C env).kindOf (Str.ofString "one") = some .local) (hk2 : ∀ C, (compEnvC scope cl C env).kindOf (Str.ofString "col") = some .cell)
    (hit : ∀ Q' : Value → Shared → Prop, Q' (.ref D0) s → wpAny (model prog w) A (eval iter env) Q' E s) (hl : ms.length ≤ sizeLine)
    (h : ∀ (D : Addr) (ys : List Value) (k : Nat) (h' : Heap) (tk : Nat), Fr h₀ L h' (fun z => if z = y then some (.ref D) else m z) → News h₀ L h' ((D, listOf ys.toArray k) :: news) → MatsAre Z ys (xs.filter (fitsB col)) → Q .next { s with heap := h', toks := tk })
    (hs : ∀ x, foldedSetIterable iter env x = pure x := by intro _; rfl) (hsw : ∀ e, swapsWith (.ListComp (.Name (Str.ofString "one") p1) e scope pos) (some (.Name y py)) spos.line env = pure true := by intro _; rfl) :
    wpAny (model prog w) A (exec (.Assign [.Name y py] (.ListComp (.Name (Str.ofString "one") p1) [⟨.Name (Str.ofString "one") px, iter, [.BoolOp .And [.Compare (.Subscript (.Name (Str.ofString "one") p2) (.Constant (.int 0) 0 p3) p4) [.Lt] [.Name (Str.ofString "col") p5] p6, .Compare (.Subscript (.Name (Str.ofString "one") p7) (.Constant (.int 1) 0 p8) p9) [.LtE] [.Name (Str.ofString "col") p10] p11] p12], 0⟩] scope pos) spos) env) Q E s := by
  classical
  have hls : s.heap.IsList D0 ms.toArray := ⟨_, (N _ hD0).1, rfl, _, rfl⟩
  have hlt := Heap.lt_size (N _ hD0).1
  have hP : ∀ v ∈ ms, ∃ x, MatAt Z v x := by
    clear hl hls hD0 h hlt
    induction hM with
    | nil => intro v hv; cases hv
    | cons a _ ih =>
      intro v hv
      rcases List.mem_cons.mp hv with rfl | hv
      · exact ⟨_, a⟩
      · exact ih v hv
  subst hLe
  refine wpAny_Assign_ListComp_free (fun v => decide (∃ x, MatAt Z v x ∧ fitsB col x = true)) (fun v y => y = v) (hsw _) hclos hcell hkind hnames hx hy hp (hit _ ?_) hs
  refine wpAny_pyIter_list hls ?_
  refine ⟨_, _, _, _, _, _, m, rfl, Walks.list hh s.heap.objs.size D0 (Nat.ne_of_lt hlt) ms.toArray, by simpa using hl, ⟨⟨_, Heap.get?_push_size _ rfl, rfl, rfl⟩, hls.at fun o e => Heap.get?_push_of_some _ e⟩, fun b hb => ?_, fun hm => Nat.lt_irrefl _ (List.mem_singleton.mp hm ▸ F.ns.lt), (F.push _).ns, ⟨?_, ?_⟩, ?_⟩
  · rw [Heap.size_push]
    rcases List.mem_cons.mp hb with rfl | hb
    · exact Nat.lt_succ_self _
    · rw [List.mem_singleton.mp hb]; exact Nat.lt_succ_of_lt hlt
  · intro C i v s₃ m₃ E' _ hc hn hx' hk _
    have hm : v ∈ ms := by
      have : ms[i]? = some v := by simpa using hc
      exact List.mem_of_getElem? this
    have up : ∀ b o, s.heap.get? b = some o → s₃.heap.get? b = some o := fun b o e => hk b o (fun q => by
      rw [List.mem_singleton.mp q] at e; exact absurd (Heap.lt_size e) (Nat.lt_irrefl _)) (Heap.get?_push_of_some _ e)
    obtain ⟨x, hx⟩ := hP v hm
    have hx9 := hx
    obtain ⟨T, r, ta, tb, ws, k, rfl, a, _, _⟩ := hx
    have hT : IsTup s₃.heap T [.int (x.1 : Nat) ta, .int (x.2.1 : Nat) tb, .ref r].toArray := ⟨_, up _ _ (hZ _ a), rfl, _, rfl⟩
    have hc3 : s₃.heap.IsCell cc (some (.int col tc)) := hcc.keeps up
    have hfit : decide (∃ y, MatAt Z (.ref T) y ∧ fitsB col y = true) = fitsB col x := by
      by_cases f : fitsB col x = true
      · rw [f]; exact decide_eq_true ⟨x, hx9, f⟩
      · have f' : fitsB col x = false := by simpa using f
        rw [f']
        refine decide_eq_false ?_
        rintro ⟨y, b, g⟩
        have := mat_uniq hZ hx9 b
        apply f
        unfold fitsB at *
        rw [this.1, this.2]; exact g
    refine wpAny_tests_one ?_
    refine isTrue_and (wpAny_isTrue_Compare1 ?_)
    refine Subscript_ (wpAny_Name (wpAny_loadName_local hkind (hk1 C) hn hx' ?_))
    refine wpAny_Constant_int ?_
    refine item_tupleT hT (by decide) (by decide) (j := 0) rfl rfl ?_
    refine wpAny_Name (wpAny_loadName_cell hkind (hk2 C) hcl hc3 ?_)
    refine lt_int ?_
    refine wpAny_truthy_bool ?_
    by_cases g1 : ((x.1 : Nat) : Int) < col
    · rw [if_pos (decide_eq_true g1)]
      refine isTrue_and (wpAny_isTrue_Compare1 ?_)
      refine Subscript_ (wpAny_Name (wpAny_loadName_local hkind (hk1 C) hn hx' ?_))
      refine wpAny_Constant_int ?_
      refine item_tupleT hT (by decide) (by decide) (j := 1) rfl rfl ?_
      refine wpAny_Name (wpAny_loadName_cell hkind (hk2 C) hcl hc3 ?_)
      refine le_int ?_
      refine wpAny_truthy_bool ?_
      by_cases g2 : ((x.2.1 : Nat) : Int) ≤ col
      · rw [if_pos (decide_eq_true g2)]
        refine isTrue_and_nil ⟨?_, s₃.heap, _, rfl, fun _ _ e => e⟩
        rw [hfit]; exact (decide_eq_true ⟨g1, g2⟩).symm
      · rw [if_neg (by rw [decide_eq_true_eq]; exact g2)]
        refine ⟨?_, s₃.heap, _, rfl, fun _ _ e => e⟩
        rw [hfit]; exact (decide_eq_false (fun z => g2 z.2)).symm
    · rw [if_neg (by rw [decide_eq_true_eq]; exact g1)]
      refine ⟨?_, s₃.heap, _, rfl, fun _ _ e => e⟩
      rw [hfit]; exact (decide_eq_false (fun z => g1 z.1)).symm
  · intro C i v s₃ m₃ E' _ hc _ hn hx' hk _
    exact wpAny_Name (wpAny_loadName_local hkind (hk1 C) hn hx' ⟨rfl, s₃.heap, _, rfl, fun _ _ e => e⟩)
  · intro D h' tk ys vs hD _ hpl hlen hP' hF hns hk
    obtain ⟨k, hD'⟩ := hpl
    have evs : vs = ms := by
      have hl2 : vs.length = ms.length := by rw [hlen]; simp
      refine List.ext_getElem hl2 fun i h1 h2 => ?_
      have := hP' i vs[i] (by simp [h1])
      simp [h2] at this
      exact this.symm
    subst evs
    have eys : ys.toList = vs.filter (fun v => decide (∃ x, MatAt Z v x ∧ fitsB col x = true)) := by
      generalize vs.filter (fun v => decide (∃ x, MatAt Z v x ∧ fitsB col x = true)) = fs at hF
      generalize ys.toList = zs at hF
      induction hF with
      | nil => rfl
      | cons e _ ih => rw [e, ih]
    obtain ⟨FE, NE⟩ := assign_end F N hD hD' hns hk
    exact h D ys.toList k h' tk FE NE (by rw [eys]; exact mats_filter hZ col hM)
end
end
section
open PySem PySem.W PyProof.Rows
set_option Elab.async false
set_option maxRecDepth 100000
theorem fresh1 {h₀ h h' : Heap} {L a : Addr} {o : Obj} {m : Str → Option Value} (F : Fr h₀ L h m) (hn : h.get? a = none) (hg : h'.get? a = some o) : h'.get? a = some o ∧ a ≠ L ∧ h₀.get? a = none := by
  refine ⟨hg, fun e => ?_, ?_⟩
  · obtain ⟨oL, _, _, hL, _⟩ := F.ns
    rw [e, hL] at hn; cases hn
  · cases q : h₀.get? a with
    | none => rfl
    | some o => rw [F.keep _ _ q] at hn; cases hn
theorem fr_stays {h₀ h h' : Heap} {L : Addr} {m : Str → Option Value} (F : Fr h₀ L h m) (st : h.StaysIn h') : Fr h₀ L h' m := ⟨F.ns.keeps st, fun b o e => st b o (F.keep b o e), F.above⟩
theorem news_stays {h₀ h h' : Heap} {L : Addr} {l : Led} (N : News h₀ L h l) (st : h.StaysIn h') : News h₀ L h' l := fun q hq => ⟨st _ _ (N q hq).1, (N q hq).2⟩
theorem MatsAre.recs {Z : Led} {vs : List Value} {xs : List Tri} (m : MatsAre Z vs xs) : MatsAre (recs Z) vs xs := by
  induction m with
  | nil => exact .nil
  | cons a _ ih =>
    obtain ⟨T, r, ta, tb, ws, k, e, a, b, c⟩ := a
    exact .cons ⟨T, r, ta, tb, ws, k, e, List.mem_filter.mpr ⟨a, rfl⟩, List.mem_filter.mpr ⟨b, rfl⟩, c⟩ ih
section
variable {w : World} {p : Program} {loose : List Str} {mean : ExcName → Option Value} {mg mb : Str → Option Value}
variable {dp un : Nat} {fr : Option (List Env)} {gd : Option (List Code)} {h₀ : Heap} {L : Addr} {m : Str → Option Value} {news : Led} {s : Shared} {E : Value → Shared → Prop} {Q : Value → Shared → Prop} {A0 : List Addr} {n0 : Nat}
theorem use_heard {D : Addr} {ws : List Value} {cs : List Nat} {k0 : Nat} (hI : NatsAre ws cs) (hne : 0 < cs.length) (hlen : cs.length ≤ 20) (hc : ∀ c ∈ cs, c < 256)
    (F : Fr h₀ L s.heap m) (X : (hd.heap_39 w.params).In h₀) (N : News h₀ L s.heap news) (T : Top p loose mean mg mb h₀) (hd' : dp + 30 < 1000) (hu : un + 300 < 9900) (hD : (D, listOf ws.toArray k0) ∈ news)
    (h : ∀ D' ws' k' h' tk, NatsAre ws' (heardL cs) → Fr h₀ L h' m → News h₀ L h' ((D', listOf ws'.toArray k') :: news) → Q (.ref D') { s with heap := h', toks := tk }) :
    wpAny (model PySem.Challenge.rw_mr0049_02.prog w) (arA dp un fr gd) (call (.ref 98) [.ref D]) Q E s :=
  heard_ok w p loose mean mg mb D ws cs hI hne hlen hc dp un fr gd s Q E (X.keeps F.keep) (T.keeps F.keep) hd' hu ⟨_, (N _ hD).1, rfl, _, rfl⟩ fun D' ws' k' h' tk st hn hg hA => h D' ws' k' h' tk hA (fr_stays F st) fun q hq => by
    rcases List.mem_cons.mp hq with rfl | hq
    · exact fresh1 F hn hg
    · exact news_stays N st q hq
theorem use_matches {D : Addr} {ws : List Value} {cs : List Nat} {k0 : Nat} (hI : NatsAre ws cs) (hlen : cs.length ≤ 20) (hc : ∀ c ∈ cs, c < 256)
    (F : Fr h₀ L s.heap m) (X : (hd.heap_39 w.params).In h₀) (N : News h₀ L s.heap news) (T : Top p loose mean mg mb h₀) (hd' : dp + 30 < 1000) (hu : un + 300 < 9900) (hD : (D, listOf ws.toArray k0) ∈ news)
    (h : ∀ D' ms k' ML h' tk, MatsAre ML ms (mgo 0 0 [] cs) → (∀ q ∈ ML, isTab q.2 = false) → (∀ q ∈ (D', listOf ms.toArray k') :: ML, s.heap.get? q.1 = none) → Fr h₀ L h' m → News h₀ L h' ((D', listOf ms.toArray k') :: (ML ++ news)) → Q (.ref D') { s with heap := h', toks := tk }) :
    wpAny (model PySem.Challenge.rw_mr0049_02.prog w) (arA dp un fr gd) (call (.ref 105) [.ref D]) Q E s :=
  matches_ok w p loose mean mg mb D ws cs hI hlen hc dp un fr gd s Q E (X.keeps F.keep) (T.keeps F.keep) hd' hu ⟨_, (N _ hD).1, rfl, _, rfl⟩ fun D' ms k' ML h' tk st hn hM => h D' ms k' (recs ML) h' tk hM.recs recs_isTab (fun q hq => (List.mem_cons.mp hq).elim (fun z => (hn _ (z ▸ .head _)).1) fun z => (hn _ (.tail _ (recs_sub q z))).1) (fr_stays F st) fun q hq => by
    rcases List.mem_cons.mp hq with rfl | hq
    · exact fresh1 F (hn _ (.head _)).1 (hn _ (.head _)).2
    rcases List.mem_append.mp hq with hq | hq
    · exact fresh1 F (hn _ (.tail _ (recs_sub q hq))).1 (hn _ (.tail _ (recs_sub q hq))).2
    · exact news_stays N st q hq
theorem use_told {PL : Led} {TP : Led → Prop} {pg : Addr} (TL rest : Led) {l : List Nat} {t u : Tok} {col : Int}
    (hP : ProgL PySem.Challenge.rw_mr0049_02.prog w (hd.heap_39 w.params) p loose mean mg mb PL TP pg nx2) (hl : l.length < 60) (hcol : col ≤ l.length) (hc0 : -5 < col)
    (F : Fr h₀ L s.heap m) (X : (hd.heap_39 w.params).In h₀) (N : News h₀ L s.heap news) (T : Top p loose mean mg mb h₀) (hd' : dp + 90 < 1000) (hu : un + 900 < 9900) (tp : TP TL) (hTL : ∀ q ∈ TL, q ∈ news) (hPL : ∀ q ∈ PL, q ∈ news) (hr : ∀ q ∈ rest, q ∈ news ∧ isTab q.2 = false)
    (hn : n0 ≤ s.heap.objs.size) (had : Adr A0 n0 TL)
    (h1 : toldR l col = none → ∀ (h' : Heap) (tk : Nat) (TL' : Led), TP TL' → Adr A0 n0 TL' → Fr h₀ L h' m → News h₀ L h' (TL' ++ (PL ++ rest)) → Q .none { s with heap := h', toks := tk })
    (h2 : ∀ i j row, toldR l col = some (i, j, row) → ∀ (T r : Addr) (ta tb : Tok) (ws : List Value) (k : Nat) (h' : Heap) (tk : Nat) (TL' : Led), TP TL' → Adr A0 n0 TL' → NatsAre ws row → Fr h₀ L h' m →
      News h₀ L h' ((T, tupO [.int (i : Nat) ta, .int (j : Nat) tb, .ref r]) :: (r, listOf ws.toArray k) :: (TL' ++ (PL ++ rest))) → Q (.ref T) { s with heap := h', toks := tk }) :
    wpAny (model PySem.Challenge.rw_mr0049_02.prog w) (arA dp un fr gd) (call (.ref 91) [.ref pg, .str (S l) t, .int col u]) Q E s := by
  have NT := nSub N hTL
  have NP := nSub N hPL
  have NR := nSub N fun q hq => (hr q hq).1
  have hPT : ∀ q ∈ PL, isTab q.2 = false := by
    obtain ⟨_, _, _, _, _, _, _, _, _, z, _, _⟩ := hP; exact z
  refine told_ok w p loose mean mg mb PL TP pg hP l hl t u col hcol hc0 dp un fr gd s Q E TL (X.keeps (keeps_hide F (nApp NT NP))) (T.keeps (keeps_hide F (nApp NT NP))) hd' hu tp ((News.has NT).app (News.has NP)) (fun e h' tk TL' k t' => ?_) (fun i j row e T r ta tb ws k9 h' tk TL' k t' hA hh hno => ?_)
  · obtain ⟨a, b, c⟩ := k.news F NT (nApp NP NR) fun q hq => .inr ((List.mem_append.mp hq).elim (hPT q) fun z => (hr q z).2)
    exact h1 e h' tk TL' t' (had.trans hn k.adr) a (nApp b c)
  · obtain ⟨a, b, c⟩ := k.news F NT (nApp NP NR) fun q hq => .inr ((List.mem_append.mp hq).elim (hPT q) fun z => (hr q z).2)
    have d : News h₀ L h' [(T, tupO [.int (i : Nat) ta, .int (j : Nat) tb, .ref r]), (r, listOf ws.toArray k9)] := fun q hq => by
      have z := hno q hq
      refine ⟨hh q hq, fun e => ?_, ?_⟩
      · obtain ⟨oL, _, _, hL, _⟩ := F.ns
        rw [e, hideAll_get _ hL (fun hm => by
          obtain ⟨r, hr, e2⟩ := List.mem_map.mp hm
          exact ((nApp NT NP) r hr).2.1 e2)] at z
        cases z
      · cases q1 : h₀.get? q.1 with
        | none => rfl
        | some o => rw [keeps_hide F (nApp NT NP) _ _ q1] at z; cases z
    exact h2 i j row e T r ta tb ws k9 h' tk TL' t' (had.trans hn k.adr) hA a (nApp d (nApp b c))
end
theorem tp0_nil : TP0 [(72, tabObj #[])] := ⟨#[], .head _, trivial, fun q v e => by simp [codeAmong] at e⟩
theorem tp0_grown {Z : Led} {h₀ h : Heap} {L : Addr} (tp : TP0 Z) (N : News h₀ L h Z) : GrownAll [(76, 72)] h := by
  obtain ⟨ps, hP, _⟩ := tp
  exact ⟨GrownAt.of N hP, trivial⟩
end
section
open PySem PySem.W PyProof.Rows PySem.Builtin PySem.Builtin.ObjectAttr
set_option Elab.async false
set_option maxRecDepth 100000
theorem strs_of : ∀ (ls : List (List Nat)) (ys : List Value), ys.length = ls.length → (∀ (i : Nat) (l : List Nat) (y : Value), ls[i]? = some l → ys[i]? = some y → ∃ t, y = .str (S l) t) → ∃ q : List (Str × Tok), ys = strValues q ∧ q.map (·.1) = ls.map S
  | [], [], _, _ => ⟨[], rfl, rfl⟩
  | [], _ :: _, h, _ => by cases h
  | _ :: _, [], h, _ => by cases h
  | l :: ls, y :: ys, h, h2 => by
    obtain ⟨t, rfl⟩ := h2 0 l y rfl rfl
    obtain ⟨q, rfl, e⟩ := strs_of ls ys (by simpa using h) fun i l' y' a b => h2 (i + 1) l' y' (by simpa using a) (by simpa using b)
    exact ⟨(S l, t) :: q, rfl, by simp [e]⟩
theorem join_S : ∀ (ls : List (List Nat)), Txt.join (S []) (ls.map S) = S ls.flatten := fun ls => by
  rw [eq_of_beq (join_plain_closes (S []) (ls.map S))]
  induction ls with
  | nil => rfl
  | cons l ls ih =>
    show Str.join ⟨#[]⟩ (S l :: ls.map S) = _
    rw [join_nil_cons, show Str.join ⟨#[]⟩ (ls.map S) = S ls.flatten from ih, S_app, List.flatten_cons]
section
variable {prog : Program} {w : World} {A : Around} {E : Value → Shared → Prop} {s : Shared} {h₀ : Heap} {L D : Addr} {news : List (Addr × Obj)} {Q : Value → Shared → Prop} {t : Tok}
theorem r_join {k : Nat} {ys : List Value} (ls : List (List Nat)) (N : News h₀ L s.heap news) (hm : (D, listOf ys.toArray k) ∈ news) (hlen : ys.length = ls.length) (hys : ∀ (i : Nat) (l : List Nat) (y : Value), ls[i]? = some l → ys[i]? = some y → ∃ t, y = .str (S l) t)
    (hsz : ls.flatten.length + ls.length ≤ 1000) (h : ∀ t' k, Q (.str (S ls.flatten) t') { s with toks := k }) : wpAny (model prog w) A (call (.builtin "str.join") [.str (S []) t, .ref D]) Q E s := by
  obtain ⟨q, rfl, e⟩ := strs_of ls ys hlen hys
  refine SC.join (l := q) (texts := ls.map S) ⟨_, (N _ hm).1, rfl, _, rfl⟩ e (joinOk_of_weight ?_ (by decide)) (fun t' k => by rw [join_S]; exact h t' k)
  have : ((ls.map S).map (·.length)).sum = ls.flatten.length := by
    rw [List.length_flatten, List.map_map]
    congr 1
  rw [this, List.length_map]
  omega
theorem r_modP {a b : Int} {u : Tok} (hb : 0 < b) (h : ∀ r : Nat, (r : Int) < b → a % b = (r : Int) → Q (.int (r : Int) s.toks) { s with toks := s.toks + 1 }) : wpAny (model prog w) A (binaryOp .Mod (.int a t) (.int b u)) Q E s := by
  have h0 := Int.emod_nonneg a (show b ≠ 0 by omega)
  have h1 := Int.emod_lt_of_pos a hb
  obtain ⟨r, hr⟩ := Int.eq_ofNat_of_zero_le h0
  refine mod_int' (by omega) ?_
  rw [Int.fmod_eq_emod_of_nonneg a (by omega), hr]
  exact h r (by omega) hr
end
end
section
open PySem PySem.W PyProof.Rows
set_option Elab.async false
set_option maxRecDepth 100000
def lineC (cs : List Nat) : List Nat := cs.flatMap uncL
def mkB (m : Nat) : Prop := (63 ≤ m ∧ m ≤ 95) ∨ m = 159
/-- the size of the first word of a rest of the line -/
def size0 (r : List Nat) : Nat :=
  let ahead := if r.getD 0 0 = 33 ∧ 1 < r.length then 1 else 0
  let two := (r.drop ahead).take 2
  if two.length = 2 ∧ two.getD 0 0 = 94 ∧ ((63 ≤ two.getD 1 0 ∧ two.getD 1 0 ≤ 95) ∨ two.getD 1 0 = 159) then ahead + 2 else ahead + 1
theorem size0_eq (l : List Nat) (k : Nat) (h : k < l.length) : sizeL l k = size0 (l.drop k) := by
  unfold sizeL size0
  have e1 : (l.drop k).getD 0 0 = l.getD k 0 := by simp [List.getD_eq_getElem?_getD]
  have e2 : (1 < (l.drop k).length) = (k + 1 < l.length) := by rw [List.length_drop]; exact propext ⟨fun _ => by omega, fun _ => by omega⟩
  simp only [e1, e2, List.drop_drop]
theorem sz_plain {c : Nat} (r : List Nat) (h : c ≠ 33) (h2 : c ≠ 94) : size0 (c :: r) = 1 := by
  unfold size0
  cases r <;> simp [h, h2]
theorem sz_hat {r : List Nat} (h : ∀ m, r.head? = some m → ¬ mkB m) : size0 (94 :: r) = 1 := by
  unfold size0 mkB at *
  cases r with
  | nil => simp
  | cons m r => have := h m rfl; simp; omega
theorem sz_bang : size0 [33] = 1 := by simp [size0]
theorem sz_2 {m : Nat} (r : List Nat) (h : mkB m) : size0 (94 :: m :: r) = 2 := by
  unfold size0 mkB at *; simp; omega
theorem sz_3 {x : Nat} (r : List Nat) (h : x ≠ 94) : size0 (33 :: x :: r) = 2 := by
  unfold size0; cases r <;> simp [h]
theorem sz_3h {r : List Nat} (h : ∀ m, r.head? = some m → ¬ mkB m) : size0 (33 :: 94 :: r) = 2 := by
  unfold size0 mkB at *
  cases r with
  | nil => simp
  | cons m r => have := h m rfl; simp; omega
theorem sz_4 {m : Nat} (r : List Nat) (h : mkB m) : size0 (33 :: 94 :: m :: r) = 3 := by
  unfold size0 mkB at *; simp; omega
/-- T is a text of the code c -/
inductive Tx : List Nat → Nat → Prop
  | one {c} : 32 ≤ c → c ≤ 126 → Tx [c] c
  | hat {m c} : mkB m → c = rdZ m → Tx [94, m] c
  | bang {x c} : 32 ≤ x → x ≤ 126 → c = x + 128 → Tx [33, x] c
  | both {m c} : mkB m → c = rdZ m + 128 → Tx [33, 94, m] c
theorem rdZ_in {m : Nat} : rdZ m < 32 ∨ rdZ m = 127 := by unfold rdZ; split <;> omega
theorem altM_lo {c : Nat} (h : c < 128) : altM c = c + 128 := by unfold altM; rw [if_neg (by omega)]
theorem Tx.rd {T : List Nat} {c : Nat} (h : Tx T c) : rdW T = c := by
  cases h with
  | one a b => rfl
  | hat a b => subst b; simp [rdW]
  | bang a b e => subst e; rw [← altM_lo (show _ < 128 by omega)]; simp [rdW]
  | both a b => subst b; have := @rdZ_in; rename_i m; rw [← altM_lo (show _ < 128 by have := @rdZ_in m; omega)]; rfl
theorem Tx.len {T : List Nat} {c : Nat} (h : Tx T c) : T.length = sgn c := by
  cases h with
  | one a b => unfold sgn; rw [if_neg (by omega)]; simp; omega
  | hat a b => rename_i m; subst b; have := @rdZ_in m; unfold sgn; rw [if_pos (by omega)]; simp; omega
  | bang a b e => subst e; unfold sgn; rw [if_neg (by omega)]; simp; omega
  | both a b => rename_i m; subst b; have := @rdZ_in m; unfold sgn; rw [if_pos (by omega)]; simp; omega
theorem Tx.pos {T : List Nat} {c : Nat} (h : Tx T c) : 1 ≤ T.length := by cases h <;> simp
/-- the words of a rest of the line -/
inductive Tk : List Nat → List (List Nat) → Prop
  | nil : Tk [] []
  | cons {w r ws} : Tx w (rdW w) → size0 (w ++ r) = w.length → Tk r ws → Tk (w ++ r) (w :: ws)
theorem size_T {T r : List Nat} {c : Nat} (h : Tx T c) (h33 : c = 33 → r = []) (h94 : c = 94 ∨ c = 222 → ∀ m, r.head? = some m → ¬ mkB m) : size0 (T ++ r) = T.length := by
  cases h with
  | one a b =>
    by_cases h1 : c = 33
    · subst h1; rw [h33 rfl]; exact sz_bang
    · by_cases h2 : c = 94
      · subst h2; exact sz_hat (h94 (.inl rfl))
      · exact sz_plain r h1 h2
  | hat a b => exact sz_2 r a
  | bang a b e =>
    rename_i x
    by_cases h2 : x = 94
    · subst h2; exact sz_3h (h94 (.inr e))
    · exact sz_3 r h2
  | both a b => exact sz_4 r a
theorem unc_tx {f : Nat} (h : f < 128) : Tx (uncL f) f := by
  unfold uncL
  rw [if_neg (show ¬ f / 128 % 2 = 1 by omega), List.nil_append]
  by_cases h1 : f = 127
  · subst h1; exact .hat (.inl (by omega)) rfl
  rw [if_neg h1]
  by_cases h2 : 32 ≤ f % 128 ∧ f % 128 ≤ 126
  · rw [if_pos h2, show f % 128 = f by omega]; exact .one (by omega) (by omega)
  rw [if_neg h2, if_neg (by omega)]
  refine .hat (.inl (by omega)) ?_
  unfold rdZ; rw [if_neg (by omega)]; omega
theorem unc_hi {f : Nat} (h : 128 ≤ f) (h2 : f < 256) : ∃ V, uncL f = 33 :: V ∧ Tx V (f - 128) := by
  unfold uncL
  rw [if_pos (show f / 128 % 2 = 1 by omega)]
  refine ⟨_, rfl, ?_⟩
  rw [if_neg (by omega)]
  by_cases h2 : 32 ≤ f % 128 ∧ f % 128 ≤ 126
  · rw [if_pos h2, show f % 128 = f - 128 by omega]; exact .one (by omega) (by omega)
  rw [if_neg h2]
  by_cases h3 : f % 128 = 127
  · rw [if_pos h3]; exact .hat (.inr rfl) (by rw [show f - 128 = 127 by omega]; rfl)
  rw [if_neg h3]
  refine .hat (.inl (by omega)) ?_
  unfold rdZ; rw [if_neg (by omega)]; omega
theorem tx_bang {V : List Nat} {f : Nat} (h : Tx V f) (hf : f < 128) : Tx (33 :: V) (f + 128) := by
  cases h with
  | one a b => exact .bang a b rfl
  | hat a b => exact .both a (by omega)
  | bang a b e => omega
  | both a b => omega
theorem tx_33 {T : List Nat} (h : Tx T 33) : T = [33] := by
  cases h with
  | one a b => rfl
  | hat a b => rename_i m; have := @rdZ_in m; omega
  | bang a b e => omega
  | both a b => omega
theorem tx_94 {T : List Nat} {c : Nat} (h : Tx T c) (hc : c = 94 ∨ c = 222) : (T = [94] ∧ c = 94) ∨ (T = [33, 94] ∧ c = 222) := by
  cases h with
  | one a b => exact .inl ⟨by congr 1; omega, by omega⟩
  | hat a b => rename_i m; have := @rdZ_in m; omega
  | bang a b e => rename_i x; exact .inr ⟨by rw [show x = 94 by omega], by omega⟩
  | both a b => rename_i m; have := @rdZ_in m; omega
theorem unc_head {f : Nat} (hf : f < 256) (h : ¬ (63 ≤ f ∧ f ≤ 95) ∧ ¬ (f < 32 ∨ f = 127)) (r : List Nat) : ∀ m, (uncL f ++ r).head? = some m → ¬ mkB m := by
  intro m hm
  by_cases h1 : 128 ≤ f
  · obtain ⟨V, e, _⟩ := unc_hi h1 hf
    rw [e] at hm
    cases hm
    unfold mkB; omega
  · have e : uncL f = [f] := by
      unfold uncL
      rw [if_neg (by omega), if_neg (by omega), if_pos (by omega), show f % 128 = f by omega]; rfl
    rw [e] at hm
    cases hm
    unfold mkB; omega
theorem heard_tk : ∀ (r : List Nat) (T : List Nat) (c : Nat), Tx T c → (∀ f ∈ r, f < 256) → ∃ ws, Tk (T ++ lineC r) ws ∧ ws.map rdW = heardGo c r
  | [], T, c, h, _ => ⟨[T], .cons (by rw [h.rd]; exact h) (size_T h (fun _ => rfl) (fun _ m e => by cases e)) .nil, by rw [List.map_singleton, h.rd]; rfl⟩
  | f :: r, T, c, h, hr => by
    have hf : f < 256 := hr f (.head _)
    have hr' : ∀ f ∈ r, f < 256 := fun x hx => hr x (.tail _ hx)
    have el : lineC (f :: r) = uncL f ++ lineC r := by simp [lineC]
    have go : ∀ {T' V : List Nat} {c' e : Nat}, T ++ uncL f = T' ++ V → Tx T' e → size0 (T' ++ (V ++ lineC r)) = T'.length → Tx V c' → heardGo c (f :: r) = e :: heardGo c' r → ∃ ws, Tk (T ++ lineC (f :: r)) ws ∧ ws.map rdW = heardGo c (f :: r) := by
      intro T' V c' e e1 t1 s1 t2 e2
      obtain ⟨ws, k, m⟩ := heard_tk r V c' t2 hr'
      refine ⟨T' :: ws, ?_, ?_⟩
      · rw [el, ← List.append_assoc, e1, List.append_assoc]
        exact .cons (by rw [t1.rd]; exact t1) s1 k
      · rw [List.map_cons, t1.rd, m, e2]
    have stay : ∀ {c' : Nat}, Tx (T ++ uncL f) c' → heardGo c (f :: r) = heardGo c' r → ∃ ws, Tk (T ++ lineC (f :: r)) ws ∧ ws.map rdW = heardGo c (f :: r) := by
      intro c' t e
      obtain ⟨ws, k, m⟩ := heard_tk r _ c' t hr'
      exact ⟨ws, by rw [el, ← List.append_assoc]; exact k, by rw [m, e]⟩
    by_cases h1 : c = 33
    · subst h1
      obtain rfl := tx_33 h
      by_cases h2 : f < 128
      · exact stay (tx_bang (unc_tx h2) h2) (hr_1 33 (f + 128) rfl h2 rfl)
      · obtain ⟨V, e, t⟩ := unc_hi (by omega) hf
        exact go (T' := [33, 33]) (V := V) (by rw [e]; rfl) (.bang (by omega) (by omega) rfl) (sz_3 _ (by omega)) t (hr_2 33 (f - 128) rfl h2 rfl)
    by_cases h2 : c = 94 ∨ c = 222
    · by_cases h3 : 63 ≤ f ∧ f ≤ 95
      · have e : uncL f = [f] := by
          unfold uncL
          rw [if_neg (by omega), if_neg (by omega), if_pos (by omega), show f % 128 = f by omega]; rfl
        have ez : rdZ f = (f + 64) % 128 := by
          unfold rdZ
          by_cases h4 : f = 63
          · subst h4; rfl
          · rw [if_neg (by omega)]; omega
        refine stay (c' := (f + 64) % 128 + c - 94) ?_ (hr_3 c _ h2 h3 rfl)
        rw [e]
        rcases tx_94 h h2 with ⟨rfl, rfl⟩ | ⟨rfl, rfl⟩
        · exact .hat (.inl h3) (by rw [ez]; omega)
        · exact .both (.inl h3) (by rw [ez]; omega)
      by_cases h4 : f < 32 ∨ f = 127
      · obtain ⟨m, e, hm, hm2⟩ : ∃ m, uncL f = [94, m] ∧ m = (f + 64) % 128 ∧ 32 ≤ m ∧ m ≤ 126 := by
          unfold uncL
          rw [if_neg (show ¬ f / 128 % 2 = 1 by omega), List.nil_append]
          by_cases h5 : f = 127
          · subst h5; exact ⟨63, rfl, rfl, by omega⟩
          · rw [if_neg h5, if_neg (by omega), if_neg (by omega)]
            exact ⟨_, rfl, by omega, by omega⟩
        subst hm
        rcases tx_94 h h2 with ⟨rfl, rfl⟩ | ⟨rfl, rfl⟩
        · exact go (T' := [94, 94]) (V := [(f + 64) % 128]) (by rw [e]; rfl) (.hat (c := 30) (.inl (by omega)) rfl) (sz_2 _ (.inl (by omega))) (.one hm2.1 hm2.2) (hr_4 94 _ 30 h2 h4 rfl rfl)
        · exact go (T' := [33, 94, 94]) (V := [(f + 64) % 128]) (by rw [e]; rfl) (.both (c := 158) (.inl (by omega)) rfl) (sz_4 _ (.inl (by omega))) (.one hm2.1 hm2.2) (hr_4 222 _ 158 h2 h4 rfl rfl)
      · exact go (T' := T) (V := uncL f) rfl h (size_T h (fun e => absurd e h1) (fun _ => unc_head hf ⟨h3, h4⟩ _)) (by
          by_cases h5 : f < 128
          · exact unc_tx h5
          · obtain ⟨V, e, t⟩ := unc_hi (by omega) hf
            rw [e]; have := tx_bang t (by omega); rwa [show f - 128 + 128 = f by omega] at this) (hr_5 c h1 (fun _ => ⟨h3, h4⟩))
    · exact go (T' := T) (V := uncL f) rfl h (size_T h (fun e => absurd e h1) (fun e => absurd e h2)) (by
          by_cases h5 : f < 128
          · exact unc_tx h5
          · obtain ⟨V, e, t⟩ := unc_hi (by omega) hf
            rw [e]; have := tx_bang t (by omega); rwa [show f - 128 + 128 = f by omega] at this) (hr_5 c h1 (fun e => absurd e h2))
end
section
open PySem PySem.W PyProof.Rows
set_option Elab.async false
set_option maxRecDepth 100000
/-- how far the words of more than one sign go -/
def lead : List (List Nat) → Nat
  | [] => 0
  | w :: ws => if w.length = 1 then 0 else w.length + lead ws
def tot : List (List Nat) → Nat
  | [] => 0
  | w :: ws => w.length + tot ws
theorem tk_cons {r : List Nat} {w : List Nat} {ws : List (List Nat)} (h : Tk r (w :: ws)) : Tx w (rdW w) ∧ ∃ r', r = w ++ r' ∧ size0 r = w.length ∧ Tk r' ws := by
  cases h with
  | cons a b c => exact ⟨a, _, rfl, b, c⟩
theorem tk_at {l w : List Nat} {ws : List (List Nat)} {p : Nat} (h : Tk (l.drop p) (w :: ws)) : Tx w (rdW w) ∧ p < l.length ∧ sizeL l p = w.length ∧ (l.drop p).take w.length = w ∧ Tk (l.drop (p + w.length)) ws ∧ 1 ≤ w.length := by
  obtain ⟨t, r', e, sz, k⟩ := tk_cons h
  have hp := t.pos
  have hlt : p < l.length := by
    have : (l.drop p).length = (w ++ r').length := by rw [e]
    rw [List.length_drop, List.length_append] at this
    omega
  refine ⟨t, hlt, by rw [size0_eq l p hlt]; exact sz, by rw [e]; simp, ?_, hp⟩
  rw [← List.drop_drop, e]; simpa using k
theorem tk_nil {l : List Nat} {p : Nat} (h : Tk (l.drop p) []) : l.length ≤ p := by
  generalize e : l.drop p = r at h
  cases h
  exact List.drop_eq_nil_iff.mp e
theorem beh_lead {l : List Nat} : ∀ (ws : List (List Nat)) (p n : Nat), Tk (l.drop p) ws → l.length ≤ p + n → behL l n p = p + lead ws
  | [], p, n, h, _ => by
    have := tk_nil h
    rw [beh_stop (by omega)]; rfl
  | w :: ws, p, n, h, hn => by
    obtain ⟨t, hlt, sz, _, k, hp⟩ := tk_at h
    unfold lead
    by_cases h1 : w.length = 1
    · rw [if_pos h1, beh_one (by omega)]; rfl
    · rw [if_neg h1]
      obtain ⟨n, rfl⟩ : ∃ z, n = z + 1 := ⟨n - 1, by omega⟩
      rw [beh_more hlt (by omega), sz, beh_lead ws _ n k (by omega)]
      omega
theorem nx2_lead {l : List Nat} {ws : List (List Nat)} {p : Nat} (h : Tk (l.drop p) ws) : nx2 l p = some (p, p + lead ws) := by
  unfold nx2
  rw [beh_lead ws p _ h (by omega)]
theorem lead_split : ∀ ws : List (List Nat), ∃ A B, ws = A ++ B ∧ (∀ w ∈ A, w.length ≠ 1) ∧ (B = [] ∨ ∃ w B', B = w :: B' ∧ w.length = 1) ∧ lead ws = tot A
  | [] => ⟨[], [], rfl, (fun _ h => nomatch h), .inl rfl, rfl⟩
  | w :: ws => by
    by_cases h : w.length = 1
    · exact ⟨[], w :: ws, rfl, (fun _ h => nomatch h), .inr ⟨w, ws, rfl, h⟩, by unfold lead; rw [if_pos h]; rfl⟩
    · obtain ⟨A, B, e, hA, hB, hl⟩ := lead_split ws
      refine ⟨w :: A, B, by rw [e]; rfl, fun x hx => ?_, hB, by unfold lead tot; rw [if_neg h, hl]⟩
      rcases List.mem_cons.mp hx with rfl | hx
      · exact h
      · exact hA x hx
theorem tk_skip {l : List Nat} : ∀ (A B : List (List Nat)) (p : Nat), Tk (l.drop p) (A ++ B) → Tk (l.drop (p + tot A)) B
  | [], B, p, h => h
  | w :: A, B, p, h => by
    obtain ⟨_, _, _, _, k, _⟩ := tk_at h
    have := tk_skip A B _ k
    unfold tot
    rwa [Nat.add_assoc] at this
theorem tot_ge : ∀ (A : List (List Nat)), (∀ w ∈ A, 1 ≤ w.length) → A.length ≤ tot A
  | [], _ => Nat.le_refl _
  | w :: A, h => by
    have h1 := h w (.head _)
    have h2 := tot_ge A fun x hx => h x (.tail _ hx)
    unfold tot
    simp only [List.length_cons]; omega
theorem rds_words {l : List Nat} : ∀ (A B : List (List Nat)) (p n q : Nat), Tk (l.drop p) (A ++ B) → q = p + tot A → q ≤ p + n → rdsL l q n p = A.map rdW
  | [], B, p, n, q, h, hq, hn => by
    unfold tot at hq
    rw [rds_stop (by omega)]; rfl
  | w :: A, B, p, n, q, h, hq, hn => by
    obtain ⟨t, hlt, sz, tk, k, hp⟩ := tk_at h
    unfold tot at hq
    obtain ⟨n, rfl⟩ : ∃ z, n = z + 1 := ⟨n - 1, by omega⟩
    unfold rdsL
    rw [if_pos (by omega), sz, tk, rds_words A B _ n q k (by omega) (by omega)]
    rfl
theorem mgo_run {first : Nat} {l : List Nat} : ∀ (A B : List (List Nat)) (p : Nat) (row : List Nat), Tk (l.drop p) (A ++ B) → (∀ w ∈ A, w.length ≠ 1) → mgo first p row ((A ++ B).map rdW) = mgo first (p + tot A) (row ++ A.map rdW) (B.map rdW)
  | [], B, p, row, h, _ => by simp [tot]
  | w :: A, B, p, row, h, hA => by
    obtain ⟨t, hlt, sz, tk, k, hp⟩ := tk_at h
    have hl := t.len
    have h1 := hA w (.head _)
    rw [List.cons_append, List.map_cons, mgo_more (by omega), ← hl, mgo_run A B _ _ k fun x hx => hA x (.tail _ hx)]
    rw [show tot (w :: A) = w.length + tot A from rfl, ← Nat.add_assoc, List.map_cons, List.append_assoc]; rfl
theorem mgo_ge : ∀ (cs : List Nat) (first p : Nat) (row : List Nat), first ≤ p → ∀ x ∈ mgo first p row cs, first ≤ x.1
  | [], first, p, row, h, x, hx => by
    unfold mgo at hx
    split at hx
    · cases hx
    · rw [List.mem_singleton.mp hx]; exact Nat.le_refl _
  | c :: cs, first, p, row, h, x, hx => by
    by_cases h1 : 1 < sgn c
    · rw [mgo_more h1] at hx
      exact mgo_ge cs first _ _ (by omega) x hx
    · rw [mgo_one h1] at hx
      rcases List.mem_append.mp hx with hx | hx
      · split at hx
        · cases hx
        · rw [List.mem_singleton.mp hx]; exact Nat.le_refl _
      rcases List.mem_cons.mp hx with rfl | hx
      · exact h
      · have hs : 1 ≤ sgn c := by unfold sgn; omega
        have := mgo_ge cs (p + 1) (p + sgn c) [] (by omega) x hx
        omega
theorem mgo_end {p q : Nat} {row : List Nat} {l : List Nat} {B : List (List Nat)} (hr : row ≠ []) (hk : Tk (l.drop q) B) (hB : B = [] ∨ ∃ w B', B = w :: B' ∧ w.length = 1) : mgo p q row (B.map rdW) = (p, q, row) :: mgo q q [] (B.map rdW) := by
  rcases hB with rfl | ⟨w, B', rfl, h1⟩
  · simp [mgo, hr]
  · obtain ⟨t, _⟩ := tk_at hk
    have hl := t.len
    rw [List.map_cons, mgo_one (by omega), mgo_one (by omega), if_neg hr, if_pos rfl]
    rfl
theorem mgo_len : ∀ (cs : List Nat) (first p : Nat) (row : List Nat), (mgo first p row cs).length ≤ 2 * cs.length + 1
  | [], first, p, row => by unfold mgo; split <;> simp
  | c :: cs, first, p, row => by
    by_cases h1 : 1 < sgn c
    · rw [mgo_more h1]
      have := mgo_len cs first (p + sgn c) (row ++ [c])
      simp only [List.length_cons]; omega
    · rw [mgo_one h1]
      have := mgo_len cs (p + 1) (p + sgn c) []
      split <;> simp only [List.length_append, List.length_cons, List.length_nil] <;> omega
/-- the last that fits, or f -/
def lastF (col : Int) (f : Option Tri) (M : List Tri) : Option Tri := (M.filter (fitsB col)).getLast?.or f
theorem lastF_no {col : Int} {f : Option Tri} {M : List Tri} (h : ∀ x ∈ M, fitsB col x = false) : lastF col f M = f := by
  unfold lastF
  rw [List.filter_eq_nil_iff.mpr (fun x hx => by rw [h x hx]; decide)]
  rfl
theorem lastF_yes {col : Int} {f : Option Tri} {x : Tri} {M : List Tri} (h : fitsB col x = true) : lastF col f (x :: M) = lastF col (some x) M := by
  unfold lastF
  rw [List.filter_cons, if_pos h]
  cases M.filter (fitsB col) with
  | nil => rfl
  | cons y ys => rw [List.getLast?_cons_cons]; simp [List.getLast?_cons]
def pr2 (x : Tri) : Nat × Nat := (x.1, x.2.1)
theorem srch {l : List Nat} {col : Int} (hcol : col ≤ l.length) : ∀ (N : Nat) (ws : List (List Nat)) (p k : Nat) (f : Option Tri), ws.length ≤ N → Tk (l.drop p) ws → p ≤ l.length → col < (p : Int) + k →
    srGo (nx2 l) col k (f.map pr2) p (p + lead ws) = (lastF col f (mgo p p [] (ws.map rdW))).map pr2 ∧ ∀ x ∈ mgo p p [] (ws.map rdW), rdsL l x.2.1 (x.2.1 - x.1) x.1 = x.2.2 := by
  intro N
  induction N with
  | zero =>
    intro ws p k f hN hk hp hc
    obtain rfl := List.length_eq_zero_iff.mp (Nat.le_zero.mp hN)
    have := tk_nil hk
    refine ⟨?_, fun x hx => by simp [mgo] at hx⟩
    have e : lastF col f (mgo p p [] ([].map rdW)) = f := lastF_no (fun x hx => by simp [mgo] at hx)
    rw [e]
    cases k with
    | zero => rfl
    | succ k => unfold srGo; rw [if_neg (by omega)]
  | succ N ih =>
    intro ws p k f hN hk hp hc
    have no : ∀ q : Nat, col ≤ q → ∀ (cs : List Nat) x, x ∈ mgo q q [] cs → fitsB col x = false := fun q hq cs x hx => by
      have := mgo_ge cs q q [] (Nat.le_refl _) x hx
      unfold fitsB
      exact decide_eq_false (fun z => by omega)
    cases ws with
    | nil =>
      have := tk_nil hk
      refine ⟨?_, fun x hx => by simp [mgo] at hx⟩
      have e : lastF col f (mgo p p [] ([].map rdW)) = f := lastF_no (fun x hx => by simp [mgo] at hx)
      rw [e]
      cases k with
      | zero => rfl
      | succ k => unfold srGo; rw [if_neg (by omega)]
    | cons w ws =>
      simp only [List.length_cons] at hN
      obtain ⟨t, hlt, sz, tk, kk, hpos⟩ := tk_at hk
      by_cases h1 : w.length = 1
      · have hl := t.len
        have e0 : lead (w :: ws) = 0 := by unfold lead; rw [if_pos h1]
        have eM : mgo p p [] ((w :: ws).map rdW) = (p, p, []) :: mgo (p + 1) (p + 1) [] (ws.map rdW) := by
          rw [List.map_cons, mgo_one (by omega), if_pos rfl, ← hl, h1]; rfl
        rw [h1] at kk
        rw [eM, e0]
        have hx0 : rdsL l p (p - p) p = [] := rds_stop (by omega)
        obtain ⟨_, ih2⟩ := ih ws (p + 1) (k + 1) none (by omega) kk (by omega) (by omega)
        refine ⟨?_, fun x hx => ?_⟩
        · by_cases hc2 : (p : Int) < col
          · obtain ⟨k, rfl⟩ : ∃ z, k = z + 1 := ⟨k - 1, by omega⟩
            rw [lastF_yes (by unfold fitsB; exact decide_eq_true ⟨hc2, by dsimp only; omega⟩), ← (ih ws (p + 1) k (some (p, p, [])) (by omega) kk (by omega) (by omega)).1]
            conv => lhs; unfold srGo
            rw [if_pos ⟨hc2, by omega⟩, if_pos (by omega), nx2_lead kk]
            rfl
          · rw [lastF_no (fun x hx => by
              rcases List.mem_cons.mp hx with rfl | hx
              · unfold fitsB; exact decide_eq_false (fun z => hc2 z.1)
              · exact no (p + 1) (by omega) _ x hx)]
            cases k with
            | zero => rfl
            | succ k => unfold srGo; rw [if_neg (by omega)]
        · rcases List.mem_cons.mp hx with rfl | hx
          · exact hx0
          · exact ih2 x hx
      · obtain ⟨A, B, e, hA, hB, hld⟩ := lead_split (w :: ws)
        have hAne : A ≠ [] := by
          rintro rfl
          rcases hB with rfl | ⟨w', B', rfl, h2⟩
          · cases e
          · cases e; exact h1 h2
        rw [e] at hk
        have hkB := tk_skip A B p hk
        have hrow : A.map rdW ≠ [] := by simpa using hAne
        have eM : mgo p p [] ((w :: ws).map rdW) = (p, p + tot A, A.map rdW) :: mgo (p + tot A) (p + tot A) [] (B.map rdW) := by
          rw [e, mgo_run A B p [] hk hA, List.nil_append, mgo_end hrow hkB hB]
        have hBlen : B.length ≤ N := by
          have h3 : (w :: ws).length = A.length + B.length := by rw [e, List.length_append]
          have h4 : 0 < A.length := List.length_pos_iff.mpr hAne
          simp only [List.length_cons] at h3; omega
        have hq : p + tot A ≤ l.length := by
          by_cases hz : p + tot A ≤ l.length
          · exact hz
          · exfalso
            have hb := beh_in (l := l) (l.length - p) p
            rw [beh_lead (w :: ws) p _ (by rw [e]; exact hk) (by omega), hld] at hb
            have : 0 < tot A := by
              cases A with
              | nil => exact absurd rfl hAne
              | cons a A =>
                cases e
                unfold tot; omega
            omega
        have htot : 0 < tot A := by
          cases A with
          | nil => exact absurd rfl hAne
          | cons a A =>
            cases e
            unfold tot; omega
        have eB : lead B = 0 := by
          rcases hB with rfl | ⟨w', B', rfl, h2⟩
          · rfl
          · unfold lead; rw [if_pos h2]
        rw [eM, hld]
        obtain ⟨_, ih2⟩ := ih B (p + tot A) (k + 1) none hBlen hkB hq (by omega)
        refine ⟨?_, fun x hx => ?_⟩
        · by_cases hc2 : (p : Int) < col ∧ ((p + tot A : Nat) : Int) ≤ col
          · obtain ⟨k, rfl⟩ : ∃ z, k = z + 1 := ⟨k - 1, by omega⟩
            rw [lastF_yes (by unfold fitsB; exact decide_eq_true hc2), ← (ih B (p + tot A) k (some (p, p + tot A, A.map rdW)) hBlen hkB hq (by omega)).1]
            conv => lhs; unfold srGo
            rw [if_pos hc2, if_neg (by omega), nx2_lead hkB]
            rfl
          · rw [lastF_no (fun x hx => by
              rcases List.mem_cons.mp hx with rfl | hx
              · unfold fitsB; exact decide_eq_false hc2
              · exact no (p + tot A) (by omega) _ x hx)]
            cases k with
            | zero => rfl
            | succ k => unfold srGo; rw [if_neg hc2]
        · rcases List.mem_cons.mp hx with rfl | hx
          · exact rds_words A B p _ _ hk rfl (by dsimp only; omega)
          · exact ih2 x hx
theorem unc_tx2 {f : Nat} (hf : f < 256) : Tx (uncL f) f := by
  by_cases h5 : f < 128
  · exact unc_tx h5
  · obtain ⟨V, e, t⟩ := unc_hi (by omega) hf
    rw [e]; have := tx_bang t (by omega); rwa [show f - 128 + 128 = f by omega] at this
/-- the plain law of 02 -/
theorem plain {cs : List Nat} (hne : 0 < cs.length) (hc : ∀ c ∈ cs, c < 256) {col : Int} (hcol : col ≤ (lineC cs).length) : toldR (lineC cs) col = ((mgo 0 0 [] (heardL cs)).filter (fitsB col)).getLast? := by
  obtain ⟨ws, hk, hm⟩ : ∃ ws, Tk (lineC cs) ws ∧ ws.map rdW = heardL cs := by
    cases cs with
    | nil => cases hne
    | cons c r =>
      have := heard_tk r (uncL c) c (unc_tx2 (hc c (.head _))) (fun f hf => hc f (.tail _ hf))
      simpa [lineC, heardL] using this
  generalize lineC cs = l at *
  obtain ⟨h1, h2⟩ := srch hcol ws.length ws 0 (col.toNat + 1) none (Nat.le_refl _) hk (Nat.zero_le _) (by omega)
  rw [hm] at h1 h2
  have e : srOf (nx2 l) col = (lastF col none (mgo 0 0 [] (heardL cs))).map pr2 := by
    rw [← h1]
    unfold srOf
    rw [nx2_lead (l := l) (p := 0) hk]
    rfl
  have e2 : lastF col none (mgo 0 0 [] (heardL cs)) = ((mgo 0 0 [] (heardL cs)).filter (fitsB col)).getLast? := by unfold lastF; simp
  rw [← e2]
  have hmem : ∀ x, lastF col none (mgo 0 0 [] (heardL cs)) = some x → x ∈ mgo 0 0 [] (heardL cs) := fun x hx => by
    rw [e2] at hx
    exact (List.mem_filter.mp (List.mem_of_getLast? hx)).1
  cases hz : lastF col none (mgo 0 0 [] (heardL cs)) with
  | none => rw [hz] at e; exact told_none e
  | some x =>
    rw [hz] at e
    rw [told_some (i := x.1) (j := x.2.1) e, h2 x (hmem x hz)]
theorem heard_in : ∀ (r : List Nat) (c : Nat), c < 256 → (∀ f ∈ r, f < 256) → (heardGo c r).length ≤ r.length + 1 ∧ ∀ x ∈ heardGo c r, x < 256
  | [], c, h, _ => ⟨Nat.le_refl _, fun x hx => by rw [List.mem_singleton.mp hx]; exact h⟩
  | f :: r, c, h, hr => by
    have hf := hr f (.head _)
    have hr' : ∀ f ∈ r, f < 256 := fun x hx => hr x (.tail _ hx)
    have go : ∀ {e d : Nat}, e < 256 → d < 256 → heardGo c (f :: r) = e :: heardGo d r → (heardGo c (f :: r)).length ≤ (f :: r).length + 1 ∧ ∀ x ∈ heardGo c (f :: r), x < 256 := fun he hd e => by
      obtain ⟨a, b⟩ := heard_in r _ hd hr'
      rw [e]
      refine ⟨by simp only [List.length_cons]; omega, fun x hx => ?_⟩
      rcases List.mem_cons.mp hx with rfl | hx
      · exact he
      · exact b x hx
    have stay : ∀ {d : Nat}, d < 256 → heardGo c (f :: r) = heardGo d r → (heardGo c (f :: r)).length ≤ (f :: r).length + 1 ∧ ∀ x ∈ heardGo c (f :: r), x < 256 := fun hd e => by
      obtain ⟨a, b⟩ := heard_in r _ hd hr'
      rw [e]
      exact ⟨by simp only [List.length_cons]; omega, b⟩
    by_cases h1 : c = 33
    · by_cases h2 : f < 128
      · exact stay (by omega) (hr_1 c (f + 128) h1 h2 rfl)
      · exact go (by omega) (by omega) (hr_2 c (f - 128) h1 h2 rfl)
    by_cases h2 : c = 94 ∨ c = 222
    · by_cases h3 : 63 ≤ f ∧ f ≤ 95
      · exact stay (by omega) (hr_3 c _ h2 h3 rfl)
      by_cases h4 : f < 32 ∨ f = 127
      · exact go (by omega) (by omega) (hr_4 c _ _ h2 h4 rfl rfl)
      · exact go h hf (hr_5 c h1 (fun _ => ⟨h3, h4⟩))
    · exact go h hf (hr_5 c h1 (fun e => absurd e h2))
theorem heardL_in {cs : List Nat} (hne : 0 < cs.length) (hc : ∀ c ∈ cs, c < 256) : (heardL cs).length ≤ cs.length ∧ ∀ x ∈ heardL cs, x < 256 := by
  cases cs with
  | nil => cases hne
  | cons c r =>
    have := heard_in r c (hc c (.head _)) (fun f hf => hc f (.tail _ hf))
    simpa [heardL] using this
end
section
open PySem PySem.W PyProof.Rows
set_option Elab.async false
set_option maxRecDepth 100000
set_option maxHeartbeats 40000000

theorem ln_17 : True := by
  k_with_none
  k_with "mI" => (first | omega | (simp only [List.length_cons, List.length_nil, List.length_append, List.length_take, List.length_drop, List.length_replicate, List.length_map, List.length_range, S_len, sizeLine_eq]; omega) | (simp only [List.length_cons, List.length_nil, List.length_append, List.length_take, List.length_drop, List.length_replicate, List.length_map, List.length_range, S_len, sizeLine_eq] at *; omega))
  k_with "mItem" => (first
  | ((with_reducible show wpAny _ _ (subscriptTail _ _ (Value.str (S (_ :: _)) _) (Value.int 0 _)) _ _ _); refine r_it0 (by walk_at "mI") ?_)
  | ((with_reducible show wpAny _ _ (subscriptTail _ _ (Value.str (S (_ :: _ :: _)) _) (Value.int 1 _)) _ _ _); refine r_it1 (by walk_at "mI") ?_)
  | ((with_reducible show wpAny _ _ (subscriptTail _ _ (Value.str (S _) _) (Value.int _ _)) _ _ _); refine r_item (by walk_at "mI") (by walk_at "mI") (by walk_at "mI") ?_))
  k_with "mSlice" => (((with_reducible rename Fr _ _ _ _ => F'); (with_reducible rename News _ _ _ _ => N'); (first
  | ((with_reducible show wpAny _ _ (subscriptTail _ (Expr.Slice (some _) none none _) (Value.str (S (_ :: _)) _) _) _ _ _); refine r_sl1 (s := ⟨_, _, _, _, _⟩) F' N' (by walk_at "mI") ?_)
  | refine r_ss (s := ⟨_, _, _, _, _⟩) F' N' (by walk_at "mI") (by walk_at "mI") (by walk_at "mI") ?_
  | refine r_sn (s := ⟨_, _, _, _, _⟩) F' N' (by walk_at "mI") (by walk_at "mI") ?_
  | refine r_ns (s := ⟨_, _, _, _, _⟩) F' N' (by walk_at "mI") (by walk_at "mI") ?_); intro _ _ _ _ _))
  k_with "subscriptTail" => (first | walk_at "mItem" | walk_at "mSlice")
  k_with "subscriptTail Name Name str int" => (walk_at "mItem")
  k_with "subscriptTail Name Constant str int" => (walk_at "mItem")
  k_with "subscriptTail Name Slice str ref" => (walk_at "mSlice")
  k_with "eval Constant str" => ((with_reducible first | refine r_const lit_bang ?_ | refine r_const lit_hat ?_ | refine r_const lit_q ?_ | refine r_const lit_thorn ?_ | refine r_const lit_del ?_ | refine r_const lit_ff ?_ | refine r_const lit_A ?_ | refine r_const lit_hq ?_ | refine r_const lit_h9 ?_ | refine r_const lit_sp ?_ | refine r_const lit_tilde ?_ | refine r_const lit_fe ?_ | refine r_const lit_hT ?_ | refine r_const lit_e ?_ | refine r_const lit_marks ?_))
  k_with "call builtin:len" => (first
  | ((with_reducible show wpAny _ _ (call (Value.builtin "len") [Value.str (S [_]) _]) _ _ _); refine r_len1 ?_)
  | ((with_reducible show wpAny _ _ (call (Value.builtin "len") [Value.str (S [_, _]) _]) _ _ _); refine r_len2 ?_)
  | ((with_reducible show wpAny _ _ (call (Value.builtin "len") [Value.str (S [_, _, _]) _]) _ _ _); refine r_len3 ?_)
  | ((with_reducible show wpAny _ _ (call (Value.builtin "len") [Value.str (S _) _]) _ _ _); refine r_len (by walk_at "mI") ?_))
  k_with "compareOp Eq str str" => (((with_reducible show wpAny _ _ (compareOp _ (Value.str (S _) _) (Value.str (S _) _)) _ _ _); refine r_eq ?_))
  k_with "compareOp NotEq str str" => (((with_reducible show wpAny _ _ (compareOp _ (Value.str (S _) _) (Value.str (S _) _)) _ _ _); refine r_ne ?_))
  k_with "compareOp In str str" => (((with_reducible show wpAny _ _ (compareOp _ (Value.str (S _) _) (Value.str (S _) _)) _ _ _); refine r_in ?_))
  k_with "compareOp Gt str str" => (((with_reducible show wpAny _ _ (compareOp _ (Value.str (S _) _) (Value.str (S _) _)) _ _ _); refine r_gt ?_))
  k_with "compareOp LtE str str" => (((with_reducible show wpAny _ _ (compareOp _ (Value.str (S _) _) (Value.str (S _) _)) _ _ _); refine r_le ?_))
  k_with "binaryOp Add str str" => (((with_reducible show wpAny _ _ (binaryOp _ (Value.str (S _) _) (Value.str (S _) _)) _ _ _); refine r_add ?_ (by walk_at "mI"); intro _ _))
  k_with "inplaceOp Add str str" => (((with_reducible show wpAny _ _ (inplaceOp _ (Value.str (S _) _) (Value.str (S _) _)) _ _ _); refine r_iadd ?_ (by walk_at "mI"); intro _ _))
  k_with "call builtin:ord" => (((with_reducible show wpAny _ _ (call (Value.builtin "ord") [Value.str (S _) _]) _ _ _); refine r_ord ?_))
  k_with "call builtin:chr" => ((refine r_chr (by walk_at "mChr") (by walk_at "mChr") ?_))
  k_with "mChr" => (first | omega | (split <;> omega))
  k_with "mRoom" => (((try simp only [depth_mark, depth_under_make, depth_under_kw, depth_in1, depth_deeper, depth_caller, units_in1, units_deeper, Around.mark_units, units_caller]); (try dsimp only [arA]); omega))
  k_with "mClean" => (((try clear hret); (repeat (with_reducible rename Fr _ _ _ _ => x9; clear x9)); (repeat (with_reducible rename News _ _ _ _ => x9; clear x9)); (repeat (with_reducible rename Below _ _ _ _ => x9; clear x9)); (repeat (with_reducible rename Top _ _ _ _ _ _ => x9; clear x9)); (repeat (with_reducible rename Frag.In _ _ => x9; clear x9))))
  k_with "mUse2" => (((intro t9 h9 tk9 F9 N9); (try dsimp only); (try k_fold)))
  trivial
def NumQ (h₀ : Heap) (L : Addr) (m : Str → Option Value) (s : Shared) (news : Led) (f : Flow) (s' : Shared) : Prop :=
  ∃ D l0 ws ns h' tk, f = .next ∧ s' = { s with heap := h', toks := tk } ∧ Fr h₀ L h' (fun y => if y = Str.ofString "numbers" then some (.ref D) else m y) ∧ News h₀ L h' ((D, W.listOf ws.toArray 0) :: (l0, W.listOf #[] 0) :: news) ∧ IntsAre ws ns ∧ ns.length ≤ 8 ∧ 0 < ns.length
theorem num_cut {M : Model} {A : Around} {t : Sem Flow} {Q : Flow → Shared → Prop} {E : Value → Shared → Prop} {s : Shared} {h₀ : Heap} {L : Addr} {m : Str → Option Value} {news : Led} (_ : Fr h₀ L s.heap m) (_ : News h₀ L s.heap news) (h : wpAny M A t (NumQ h₀ L m s news) E s)
    (h2 : ∀ D l0 ws ns h' tk, Fr h₀ L h' (fun y => if y = Str.ofString "numbers" then some (.ref D) else m y) → News h₀ L h' ((D, W.listOf ws.toArray 0) :: (l0, W.listOf #[] 0) :: news) → IntsAre ws ns → ns.length ≤ 8 → 0 < ns.length → Q .next { s with heap := h', toks := tk }) : wpAny M A t Q E s :=
  wpAny_mono h (fun _ _ ⟨D, l0, ws, ns, h', tk, e1, e2, a, b, c, d, e⟩ => by subst e1; subst e2; exact h2 D l0 ws ns h' tk a b c d e) fun _ _ x => x

/-- the last item of a list of the ledger -/
theorem r_last {prog : Program} {w : World} {A : Around} {E : Value → Shared → Prop} {s : Shared} {D : Addr} {vs : List Value} {v : Value} {k : Nat} {u : Tok} {value slice : Expr} {Q : Value → Shared → Prop} (h1 : s.heap.get? D = some (listOf (vs ++ [v]).toArray k)) (hl : vs.length < 1000) (h : Q v s)
    (hs : subscripted slice false (.ref D) (.int (-1) u) = operate [.ref D, .int (-1) u] (getItem (.ref D) (.int (-1) u)) := by with_unfolding_all rfl) : wpAny (model prog w) A (subscriptTail value slice (.ref D) (.int (-1) u)) Q E s := by
  have hl' : s.heap.IsList D (vs ++ [v]).toArray := ⟨_, h1, rfl, _, rfl⟩
  exact tail_any hl'.typeIs F.slot_list_getitem.lookup (wpAny_getItem_list_neg (k := -1) (x := v) hl' (by decide) (by simp; omega) (by decide) (by
    have e : ((-1 : Int) + ((vs ++ [v]).toArray.size : Nat)).toNat = vs.length := by simp; omega
    rw [e]; simp) h) hs
theorem mats_last {Z : Led} : ∀ {vs : List Value} {xs : List Tri} {x : Tri}, MatsAre Z vs xs → xs.getLast? = some x → ∃ vs' v, vs = vs' ++ [v] ∧ MatAt Z v x
  | _, _, x, .nil, h => by cases h
  | _, _, x, .cons (v := v) (vs := vs) (xs := xs) a m, h => by
    cases xs with
    | nil =>
      cases m
      cases h
      exact ⟨[], v, rfl, a⟩
    | cons y ys =>
      rw [List.getLast?_cons_cons] at h
      obtain ⟨vs', u, e, b⟩ := mats_last m h
      exact ⟨v :: vs', u, by rw [e]; rfl, b⟩
theorem mats_nil {Z : Led} {vs : List Value} {xs : List Tri} (m : MatsAre Z vs xs) (h : xs.getLast? = none) : xs = [] ∧ vs = [] := by
  have e := List.getLast?_eq_none_iff.mp h
  subst e
  cases m
  exact ⟨rfl, rfl⟩
theorem ex_map3 {m : Str → Option Value} {x1 x2 x3 : Str} {v1 v2 v3 : Value} (h1 : m x1 = some v1) (h2 : m x2 = some v2) (h3 : m x3 = some v3) :
    ∃ u : Str → Option Value, m = fun y => if y = x1 then some v1 else if y = x2 then some v2 else if y = x3 then some v3 else u y := ⟨m, funext fun y => by
  by_cases e1 : y = x1
  · subst e1; simp [h1]
  by_cases e2 : y = x2
  · subst e2; simp [e1, h2]
  by_cases e3 : y = x3
  · subst e3; simp [e1, e2, h3]
  simp [e1, e2, e3]⟩
def Mark9 : Prop := True
/-- the law's loop over the cols -/
def LyJ (A0 : List Addr) (it cc : Nat) (P' : Addr) (PL rest : Led) (mD pg : Addr) (l : List Nat) (_ : Nat) (m : Str → Option Value) (nx : Led) : Prop :=
  ∃ TL oc x, nx = (cc, oc) :: (TL ++ (PL ++ rest)) ∧ oc.data = .cell x ∧ TPP P' TL ∧ Adr A0 (it + 1) TL ∧ ∃ t, ∃ u : Str → Option Value, m = fun y => if y = Str.ofString "line" then some (.str (S l) t) else if y = Str.ofString "matches" then some (.ref mD) else if y = Str.ofString "prog" then some (.ref pg) else u y



theorem ln_18 : True := by
  k_with "subscriptTail" => (((with_reducible show wpAny _ _ (subscriptTail _ _ (Value.ref _) (Value.int (-1) _)) _ _ _); refine hold ?_))
  k_with "compareOp NotEq ref ref" => (((have z9 : Mark9 := by with_reducible assumption); clear z9; refine hold ?_))
  k_with "TurnEnd" => (refine hold ?_)
  trivial
local macro_rules | `(tactic| k_all) => `(tactic| assumption)
theorem codes_are {ws ys : List Value} {ns : List Int} (hI : IntsAre ws ns) (hlen : ys.length = ws.length) (h : ∀ (i : Nat) (v y : Value), ws[i]? = some v → ys[i]? = some y → ∀ n t, v = .int n t → ∃ t, y = .int (codeN n : Nat) t) : NatsAre ys (ns.map codeN) := by
  unfold NatsAre
  rw [List.map_map]
  induction hI generalizing ys with
  | nil => cases ys with
    | nil => exact .nil
    | cons y ys => simp at hlen
  | cons n t hI ih => cases ys with
    | nil => simp at hlen
    | cons y ys =>
      obtain ⟨t', rfl⟩ := h 0 _ y rfl rfl n t rfl
      exact .cons _ _ (ih (by simpa using hlen) fun i v y e1 e2 => h (i + 1) v y (by simpa using e1) (by simpa using e2))
theorem unc_len (c : Nat) : (uncL c).length ≤ 3 := by
  unfold uncL; (repeat' split) <;> simp
theorem line_len (cs : List Nat) : (lineC cs).length ≤ 3 * cs.length := by
  induction cs with
  | nil => simp [lineC]
  | cons c r ih => have := unc_len c; simp only [lineC, List.flatMap_cons, List.length_append, List.length_cons] at *; omega


theorem ln_19 : True := by
  k_with "exec Return some" => (refine hold ?_)
  k_with "exec Assign" => (((with_reducible show wpAny _ _ (exec (Stmt.Assign [_] (Expr.IfExp _ _ _ _) _) _) _ _ _); refine hold ?_))
  k_with "eval ListComp" => (refine hold ?_)
  k_with "exec Assign cons ListComp" => (refine hold ?_)
  k_with "call builtin:str.join" => (refine hold ?_)
  k_with "exec For" => (refine hold ?_)
  k_with "exec For Name Call cons nil" => (refine hold ?_)
  k_with "call type:range" => (refine hold ?_)
  k_with "call ref" => (((first | (with_reducible show wpAny _ _ (call (Value.ref 98) _) _ _ _) | (with_reducible show wpAny _ _ (call (Value.ref 105) _) _ _ _) | (with_reducible show wpAny _ _ (call (Value.ref 77) _) _ _ _) | (with_reducible show wpAny _ _ (call (Value.ref 91) _) _ _ _)); refine hold ?_))
  trivial
theorem post_ok (a b : List WData) : PySem.Challenge.rw_mr0049_02.row.claim.post a (.bool true) b = true := by kernel_rfl
theorem lawY : PySem.Challenge.rw_mr0049_02.Holds := hd (by
  k_go0
  all_goals try k_fold
  k_steps
  unfold Hold
  (with_reducible rename Fr _ _ _ _ => Fq)
  (with_reducible rename News _ _ _ _ => Nq)
  (with_reducible rename Top _ _ _ _ _ _ => Tq)
  (with_reducible rename Frag.In _ _ => Xq)
  rename Shared => s1
  rename Obj => wc
  rename (_ : Obj).data = Data.cell _ => hcell
  refine num_cut Fq Nq (wpAny_Assign_Name ?_) ?_
  · k_steps
    · (with_reducible rename Fr _ _ _ _ => Fr1)
      (with_reducible rename News _ _ _ _ => Nr1)
      exact ⟨_, _, [.int 1 _, .int 12 _, .int 14 _, .int 0 _, .int 7 _, .int 9 _, .int 2 _, .int 4 _], [1, 12, 14, 0, 7, 9, 2, 4], _, _, rfl, rfl, Fr1, Nr1, .cons _ _ (.cons _ _ (.cons _ _ (.cons _ _ (.cons _ _ (.cons _ _ (.cons _ _ (.cons _ _ .nil))))))), by decide, by decide⟩
    · (with_reducible rename Fr _ _ _ _ => Fr1)
      (with_reducible rename News _ _ _ _ => Nr1)
      rename decide _ = false => hne
      exact ⟨_, _, _, List.take 8 _, _, _, rfl, rfl, Fr1, Nr1, by assumption, by simp; omega, by
        have := of_decide_eq_false hne
        rw [List.length_take]
        have := List.length_pos_iff.mpr this
        omega⟩
  clear Fq Nq
  intro D0 l0 ws ns h0 tk0 Fq Nq hI hn8 hn0
  dsimp only
  k_steps
  unfold Hold
  (with_reducible rename Fr _ _ _ _ => Fq)
  (with_reducible rename News _ _ _ _ => Nq)
  refine comp_listA (R := fun v y => ∀ n t, v = .int n t → ∃ t, y = .int (codeN n : Nat) t) Fq Nq (.head _) rfl rfl rfl rfl (by decide) (by decide) rfl (by decide) (by decide) ?_ ?_ ?_ ?_
  · intro Q' hq
    exact wpAny_Name (wpAny_loadName_local rfl rfl Fq.ns rfl hq)
  · have := hI.length; rw [sizeLine_eq]; omega
  · intro C v s₃ m₃ E' hv hn hm st
    obtain ⟨n, t, rfl⟩ := IntsAre.all hI v hv
    refine elt_f1 (K := hd.heap_39 _) Xq Tq (fun b o e => st b o (Fq.keep b o e)) (by k_is) rfl rfl rfl rfl rfl hn hm ?_
    refine code_ok _ _ _ _ _ _ n t _ _ _ _ s₃ _ _ (Xq.keeps (fun b o e => st b o (Fq.keep b o e))) (Tq.keeps (fun b o e => st b o (Fq.keep b o e))) (by walk_at "mRoom") (by walk_at "mRoom") ?_
    intro t2 h2 tk2 st2
    exact ⟨fun n' t' e => by cases e; exact ⟨_, rfl⟩, h2, tk2, rfl, st2⟩
  · intro D ys kk h2 tk2 F2 N2 hlen hys
    clear Fq Nq
    have hcs : NatsAre ys (ns.map codeN) := codes_are hI hlen hys
    have hc8 : (ns.map codeN).length ≤ 8 := by rw [List.length_map]; exact hn8
    have hc0 : 0 < (ns.map codeN).length := by rw [List.length_map]; exact hn0
    have hcl : ∀ c ∈ ns.map codeN, c < 256 := fun c hc => by
      obtain ⟨x, _, rfl⟩ := List.mem_map.mp hc; exact codeN_lt x
    generalize ns.map codeN = cs at *
    clear hys hlen hI hn8 hn0
    dsimp only
    k_steps
    unfold Hold
    (with_reducible rename Fr _ _ _ _ => Fq)
    (with_reducible rename News _ _ _ _ => Nq)
    refine comp_list (R := fun v y => ∀ (c : Nat) t, v = .int (c : Int) t → ∃ t, y = .str (S (uncL c)) t) Fq Nq (.head _) rfl (by decide) (by decide) rfl (by decide) (by decide) ?_ ?_ ?_ ?_
    · intro Q' hq
      exact wpAny_Name (wpAny_loadName_local rfl rfl Fq.ns rfl hq)
    · have := hcs.length; rw [sizeLine_eq]; omega
    · intro C v s₃ m₃ E' hv hn hm st
      obtain ⟨i, hi⟩ := List.getElem?_of_mem hv
      obtain ⟨c, t, e1, rfl⟩ := hcs.at' hi
      refine elt_f1 (K := hd.heap_39 _) Xq Tq (fun b o e => st b o (Fq.keep b o e)) (by k_is) rfl rfl rfl rfl rfl hn hm ?_
      refine unctrl_i _ _ _ _ _ _ c t _ _ _ _ s₃ _ _ (Xq.keeps (fun b o e => st b o (Fq.keep b o e))) (Tq.keeps (fun b o e => st b o (Fq.keep b o e))) (by walk_at "mRoom") (by walk_at "mRoom") ?_
      intro t2 h2 tk2 st2
      exact ⟨fun n' t' e => by
        have := (Value.int.inj e).1
        rw [show n' = c by omega]; exact ⟨_, rfl⟩, h2, tk2, rfl, st2⟩
    · intro D2 zs k2 h3 tk3 F3 N3 hlen hzs
      clear Fq Nq
      dsimp only
      k_steps
      unfold Hold
      (with_reducible rename Fr _ _ _ _ => Fq)
      (with_reducible rename News _ _ _ _ => Nq)
      have hl1 := line_len cs
      refine r_join (cs.map uncL) Nq (.head _) (by rw [hlen, List.length_map]; exact hcs.length) (fun i l y e1 e2 => ?_) (by rw [List.length_map]; unfold lineC at hl1; rw [← List.flatMap_def]; omega) ?_
      · rw [List.getElem?_map] at e1
        cases hci : cs[i]? with
        | none => rw [hci] at e1; cases e1
        | some c =>
          rw [hci] at e1; cases e1
          have hi : i < ys.length := by rw [hcs.length]; exact (List.getElem?_eq_some_iff.mp hci).1
          obtain ⟨c2, t2, e3, e4⟩ := hcs.at' (i := i) (v := ys[i]) (by simp [hi])
          rw [hci] at e3; cases e3
          exact hzs i ys[i] y (by simp [hi]) e2 c t2 e4
      intro t4 tk4
      have hll : (cs.map uncL).flatten = lineC cs := by unfold lineC; rw [List.flatMap_def]
      rw [hll]
      clear hll hzs hlen
      dsimp only
      k_steps
      unfold Hold
      (with_reducible rename Fr _ _ _ _ => Fq)
      (with_reducible rename News _ _ _ _ => Nq)
      obtain ⟨hh1, hh2⟩ := heardL_in hc0 hcl
      refine use_heard hcs hc0 (by omega) hcl Fq Xq Nq Tq (by walk_at "mRoom") (by walk_at "mRoom") (.tail _ (.head _)) ?_
      intro Dh wh kh h5 tk5 hA5 F5 N5
      clear Fq Nq
      dsimp only
      k_steps
      unfold Hold
      (with_reducible rename Fr _ _ _ _ => Fq)
      (with_reducible rename News _ _ _ _ => Nq)
      refine use_matches hA5 (by omega) hh2 Fq Xq Nq Tq (by walk_at "mRoom") (by walk_at "mRoom") (.head _) ?_
      intro Dm ms km ML h6 tk6 hM hMT hfr F6 N6
      have hne0 : ∀ q ∈ (Dm, listOf ms.toArray km) :: ML, q.1 ≠ s1.heap.objs.size + 1 := fun q hq e => by
        have := hfr q hq
        rw [e, (Nq (s1.heap.objs.size + 1, wc) (by simp)).1] at this; cases this
      have hml : ms.length ≤ 100 := by rw [hM.length]; have := mgo_len (heardL cs) 0 0 []; omega
      have hplain : ∀ col : Int, col ≤ (lineC cs).length → toldR (lineC cs) col = ((mgo 0 0 [] (heardL cs)).filter (fitsB col)).getLast? := fun col hcol => plain hc0 hcl hcol
      have hl24 : (lineC cs).length ≤ 24 := by omega
      clear Fq Nq hh1 hh2 hA5 hfr
      generalize mgo 0 0 [] (heardL cs) = M at *
      generalize lineC cs = l at *
      dsimp only
      k_steps
      dsimp only [List.append_nil]
      (with_reducible rename Fr _ _ _ _ => Fq)
      (with_reducible rename News _ _ _ _ => Nq)
      have hcn : @LT.lt Nat _ (s1.heap.objs.size + 1) _ := Heap.lt_size (Nq (s1.heap.objs.size + 1, wc) (by simp)).1
      have hcT : isTab wc = false := isTab_cell hcell
      have h72 : @LT.lt Nat _ 72 s1.heap.objs.size := by assumption
      unfold Hold
      refine use_lawprog (A0 := [72]) [(72, tabObj #[])] ((s1.heap.objs.size + 1, wc) :: (Dm, listOf ms.toArray km) :: ML) Fq Xq Nq Tq codeHd (by walk_at "mRoom") (by walk_at "mRoom") tp0_nil (fun q hq => by rw [List.mem_singleton.mp hq]; simp) (fun q hq => ?_) (Nat.le_refl _) (fun q hq => .inl (by rw [List.mem_singleton.mp hq]; exact List.mem_singleton.mpr rfl)) ?_
      · simp only [List.mem_cons] at hq
        rcases hq with rfl | rfl | hq
        · exact ⟨by simp, hcT⟩
        · exact ⟨by simp, rfl⟩
        · exact ⟨by simp [hq], hMT q hq⟩
      intro pg PL P' h7 tk7 Z7 tp7 hP ad7 adP F7 N7
      have hPT : ∀ q ∈ PL, isTab q.2 = false := by
        obtain ⟨_, _, _, _, _, _, _, _, _, z, _, _⟩ := hP; exact z
      have hneA : ∀ q : Addr × Obj, q.1 ∈ [72] ∨ _ ≤ q.1 → q.1 ≠ s1.heap.objs.size + 1 := fun q hq e => by
        rcases hq with z | z
        · rw [e] at z
          have z := List.mem_singleton.mp z
          exact absurd h72 (by rw [← z]; exact fun y => absurd (Nat.lt_trans (Nat.lt_succ_self _) y) (Nat.lt_irrefl _))
        · rw [e] at z; exact absurd hcn (Nat.not_lt.mpr z)
      have hneZ : ∀ q ∈ Z7, q.1 ≠ s1.heap.objs.size + 1 := fun q hq => hneA q (ad7 q hq)
      have hneP : ∀ q ∈ PL, q.1 ≠ s1.heap.objs.size + 1 := fun q hq => hneA q (adP q hq)
      clear Fq Nq ad7 adP hcn hneA
      generalize hcc : s1.heap.objs.size + 1 = cc at *
      dsimp only
      k_steps
      unfold Hold
      refine wpAny_For ?_
      k_steps
      unfold Hold
      (with_reducible rename Fr _ _ _ _ => Fq)
      (with_reducible rename News _ _ _ _ => Nq)
      refine newsh Nq fun h9 eh => ?_
      subst eh
      have zc : @LT.lt Nat _ cc _ := Heap.lt_size (Nq (cc, wc) (by simp)).1
      have hlt9 : ∀ q ∈ Z7 ++ (PL ++ ((Dm, listOf ms.toArray km) :: ML)), q.1 ≠ cc ∧ @LT.lt Nat _ q.1 h9.objs.size := fun q hq => by
        have hq2 : q ∈ Z7 ++ (PL ++ ((cc, wc) :: (Dm, listOf ms.toArray km) :: ML)) := by
          simp only [List.mem_append, List.mem_cons] at hq ⊢; rcases hq with z | z | z | z <;> simp [z]
        refine ⟨?_, Heap.lt_size (Nq q hq2).1⟩
        simp only [List.mem_append] at hq
        rcases hq with z | z | z
        · exact hneZ q z
        · exact hneP q z
        · exact hne0 q z
      refine for_rangeG (n := l.length + 2) (LyJ (Z7.map (·.1)) (h9.objs.size + 1) cc P' PL ((Dm, listOf ms.toArray km) :: ML) Dm pg l) rfl Fq (nSub (l' := (cc, wc) :: (Z7 ++ (PL ++ ((Dm, listOf ms.toArray km) :: ML)))) Nq (fun q hq => ?_)) (small_one (by omega) (by omega) (by omega) (by omega)) (by rw [rangeSize_one, if_pos (by omega)]; omega) ?_ ?_ ?_ ?_ (by passes_own)
      · simp only [List.mem_append, List.mem_cons] at hq ⊢; rcases hq with z | z | z | z | z <;> simp [z]
      · exact ⟨Z7, wc, _, rfl, hcell, tp7, .self, _, ex_map3 rfl rfl rfl⟩
      · rintro i m nx ⟨TL, oc, x, rfl, _, _, ad, _⟩ p hp
        rcases List.mem_cons.mp hp with rfl | hp
        · exact Nat.ne_of_lt (Nat.lt_succ_of_lt zc)
        rcases List.mem_append.mp hp with hp | hp
        · rcases ad p hp with z | z
          · obtain ⟨q, hq, e⟩ := List.mem_map.mp z
            rw [← e]; exact Nat.ne_of_lt (Nat.lt_succ_of_lt (hlt9 q (List.mem_append.mpr (.inl hq))).2)
          · exact Nat.ne_of_gt z
        · exact Nat.ne_of_lt (Nat.lt_succ_of_lt (hlt9 p (List.mem_append.mpr (.inr hp))).2)
      · clear Fq Nq
        rintro i m nx h tk o tx hio hi ⟨TL, oc, x, rfl, hoc, tp, ad, t, u, rfl⟩ F3 N3
        have hneT : ∀ q ∈ TL ++ (PL ++ ((Dm, listOf ms.toArray km) :: ML)), q.1 ≠ cc := fun q hq => by
          rcases List.mem_append.mp hq with hq | hq
          · rcases ad q hq with z | z
            · obtain ⟨r, hr, e⟩ := List.mem_map.mp z
              rw [← e]; exact (hlt9 r (List.mem_append.mpr (.inl hr))).1
            · exact Nat.ne_of_gt (Nat.lt_of_lt_of_le (Nat.lt_succ_of_lt (Nat.lt_succ_of_lt zc)) z)
          · exact (hlt9 q (List.mem_append.mpr (.inr hq))).1
        subst hcc
        k_steps
        unfold Hold
        (with_reducible rename Fr _ _ _ _ => Fq)
        (with_reducible rename News _ _ _ _ => Nq)
        rename (_ : Obj).data = Data.cell (some _) => hco
        rename Obj => oc2
        refine comp_filtA (xs := M) (Z := ML) (cc := s1.heap.objs.size + 1) (col := -1 + (i : Int)) (tc := tx) (D0 := Dm) (k0 := km) Fq Nq (by simp) (News.has (nSub Nq (fun q hq => by simp [hq]))) hM rfl rfl rfl rfl rfl rfl ⟨oc2, (Nq (s1.heap.objs.size + 1, oc2) (by simp)).1, hco⟩ (by decide) rfl (by decide) (by decide) (fun _ => rfl) (fun _ => rfl) ?_ ?_ ?_
        · intro Q' hq
          exact wpAny_Name (wpAny_loadName_local rfl rfl Fq.ns rfl hq)
        · rw [sizeLine_eq]; omega
        intro Df yf kf h10 tk10 F10 N10 hMf
        clear Fq Nq
        have hpl := hplain (-1 + (i : Int)) (by omega)
        have hfl : yf.length ≤ 100 := by
          rw [hMf.length]
          have := List.length_filter_le (fitsB (-1 + (i : Int))) M
          have := hM.length
          omega
        generalize M.filter (fitsB (-1 + (i : Int))) = fs at *
        clear hplain
        have mk9 : Mark9 := trivial
        dsimp only
        k_steps
        unfold Hold
        (with_reducible rename Fr _ _ _ _ => Fq)
        (with_reducible rename News _ _ _ _ => Nq)
        refine use_told (A0 := Z7.map (·.1)) (n0 := h9.objs.size + 1 + 1) TL ((h9.objs.size + 1, o) :: (s1.heap.objs.size + 1, oc2) :: (Df, listOf yf.toArray kf) :: (Dm, listOf ms.toArray km) :: ML) hP (by omega) (by omega) (by omega) Fq Xq Nq Tq (by walk_at "mRoom") (by walk_at "mRoom") tp (fun q hq => by simp [hq]) (fun q hq => by simp [hq]) (fun q hq => ?_) (Nat.succ_le_of_lt (Heap.lt_size (Nq (h9.objs.size + 1, o) (by simp)).1)) ad ?_ ?_
        · simp only [List.mem_cons] at hq
          rcases hq with rfl | rfl | rfl | rfl | hq
          · exact ⟨by simp, hio⟩
          · exact ⟨by simp, isTab_cell hco⟩
          · exact ⟨by simp, rfl⟩
          · exact ⟨by simp, rfl⟩
          · exact ⟨by simp [hq], hMT q hq⟩
        · intro e h11 tk11 TL2 tp2 ad2 F11 N11
          rw [hpl] at e
          obtain ⟨rfl, rfl⟩ := mats_nil hMf e
          clear Fq Nq
          dsimp only
          k_steps
          unfold Hold
          (with_reducible rename Fr _ _ _ _ => Fq)
          (with_reducible rename News _ _ _ _ => Nq)
          refine r_ne_nil (Nq (Df, listOf [].toArray kf) (by simp)).1 (Nq _ (.head _)).1 (News.has (nSub Nq (fun q hq => by simp [hq]))) hMf (by ke_room) ?_
          rw [show decide (([] : List Tri) ≠ []) = false from rfl]
          k_steps
          unfold Hold
          (with_reducible rename Fr _ _ _ _ => FE)
          (with_reducible rename News _ _ _ _ => NE)
          exact ⟨_, _, _, (s1.heap.objs.size + 1, oc2) :: (TL2 ++ (PL ++ ((Dm, listOf ms.toArray km) :: ML))), rfl, FE, nSub NE (fun q hq => by simp only [List.mem_append, List.mem_cons] at hq ⊢; rcases hq with z | z | z | z | z <;> simp [z]), TL2, oc2, _, rfl, hco, tp2, ad2, _, ex_map3 rfl rfl rfl⟩
        · intro i2 j2 row e T r ta tb w9 k9 h11 tk11 TL2 tp2 ad2 hA9 F11 N11
          rw [hpl] at e
          obtain ⟨yf, v, rfl, T2, r2, ta2, tb2, w2, k2, rfl, m1, m2, m3⟩ := mats_last hMf e
          have hfs : fs ≠ [] := by rintro rfl; cases e
          have hfl2 : yf.length < 1000 := by rw [List.length_append] at hfl; omega
          clear Fq Nq
          dsimp only
          k_steps
          unfold Hold
          (with_reducible rename Fr _ _ _ _ => Fq)
          (with_reducible rename News _ _ _ _ => Nq)
          refine r_ne_nil (Nq (Df, listOf (yf ++ [Value.ref T2]).toArray kf) (by simp)).1 (Nq _ (.head _)).1 (News.has (nSub Nq (fun q hq => by simp [hq]))) hMf (by ke_room) ?_
          rw [decide_eq_true hfs]
          k_steps
          unfold Hold
          refine r_last (Nq (Df, listOf (yf ++ [Value.ref T2]).toArray kf) (by simp)).1 hfl2 ?_
          k_steps
          unfold Hold
          have NM := nSub (l' := ML) Nq (fun q hq => by simp [hq])
          refine r_ne_same (x := (i2, j2, row)) (read_tri (x := (i2, j2, row)) (Nq (T, tupO [.int (i2 : Nat) ta, .int (j2 : Nat) tb, .ref r]) (by simp)).1 (Nq (r, listOf w9.toArray k9) (by simp)).1 hA9) (read_tri (x := (i2, j2, row)) (NM _ m1).1 (NM _ m2).1 m3) (by ke_room) ?_
          clear NM
          k_steps
          unfold Hold
          (with_reducible rename Fr _ _ _ _ => FE)
          (with_reducible rename News _ _ _ _ => NE)
          exact ⟨_, _, _, (s1.heap.objs.size + 1, oc2) :: (TL2 ++ (PL ++ ((Dm, listOf ms.toArray km) :: ML))), rfl, FE, nSub NE (fun q hq => by simp only [List.mem_append, List.mem_cons] at hq ⊢; rcases hq with z | z | z | z | z <;> simp [z]), TL2, oc2, _, rfl, hco, tp2, ad2, _, ex_map3 rfl rfl rfl⟩
      · rintro m nx h tk ⟨TL, oc, x, rfl, _, tp, _, t, u, rfl⟩ F3 N3
        clear Fq Nq
        dsimp only
        k_steps
        unfold Hold
        refine wpAny_Return_some (wpAny_Constant_bool ?_)
        refine (show GoodW _ _ _ _ _ (.ok (.ret (.bool true))) _ ∧ GrownAll _ _ from ⟨goodW_bool F3 (by assumption) (fun _ => rfl) (post_ok _ _) rfl, tp0_grown tp.1 (nSub N3 (fun q hq => by simp [hq]))⟩)
  )
end
end
end Mine
theorem PySem.Challenge.cw_mr0049_02_holds : PySem.Challenge.rw_mr0049_02.Holds :=
  Mine.lawY
