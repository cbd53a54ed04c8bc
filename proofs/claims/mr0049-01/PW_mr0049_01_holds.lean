import PyProof.Rows.All
import Wide.All
import OpenK.AllK
import Wide.FinOn
import PySem.Challenge.RW_mr0049_01
set_option Elab.async false
set_option linter.all false
set_option rowWalk.seconds 0
namespace Mine
section
open PySem PySem.W PyProof.Rows PySem.Builtin PySem.Builtin.ObjectAttr
set_option Elab.async false
set_option maxRecDepth 100000
set_option maxHeartbeats 2000000
theorem lk_fn_ga : typeLookup (.type "function") "__getattribute__" = pure (some (.builtin "object.__getattribute__")) := by rw [typeLookup_type, builtinLookup_eq_fast]; kernel_rfl
theorem lk_fn_gattr : typeLookup (.type "function") "__getattr__" = pure none := by rw [typeLookup_type, builtinLookup_eq_fast]; kernel_rfl
theorem lk_fn_span : typeLookup (.type "function") "span" = pure none := by rw [typeLookup_type, builtinLookup_eq_fast]; kernel_rfl
theorem lk_fn_search : typeLookup (.type "function") "search" = pure none := by rw [typeLookup_type, builtinLookup_eq_fast]; kernel_rfl
theorem lk_fn_bool : typeLookup (.type "function") "__bool__" = pure none := by rw [typeLookup_type, builtinLookup_eq_fast]; kernel_rfl
theorem lk_fn_len : typeLookup (.type "function") "__len__" = pure none := by rw [typeLookup_type, builtinLookup_eq_fast]; kernel_rfl
theorem slot_fn_ga : Slot "function" "__getattribute__" "object.__getattribute__" :=
  .of (owner := "object") (n := "__getattribute__") (by rw [typeLookup_type, builtinLookup_eq_fast]; kernel_rfl) (by decide +kernel) (by decide +kernel) (by decide +kernel)
    (by first | exact .inl (by decide +kernel) | exact .inr (by decide +kernel)) (by rw [isSubtype_type]; kernel_rfl)
theorem slot_fn_sa : Slot "function" "__setattr__" "object.__setattr__" :=
  .of (owner := "object") (n := "__setattr__") (by rw [typeLookup_type, builtinLookup_eq_fast]; kernel_rfl) (by decide +kernel) (by decide +kernel) (by decide +kernel)
    (by first | exact .inl (by decide +kernel) | exact .inr (by decide +kernel)) (by rw [isSubtype_type]; kernel_rfl)

section
variable {prog : Program} {w : World} {A : Around} {E : Value → Shared → Prop} {s : Shared} {q d : Addr} {fd : FuncData} {sl : Array (Option Value)} {es : List DictEntry} {n : Nat} {name : Str} {v : Value}

/-- a function object's own attribute, found -/
theorem fn_looks {M : Model} {h : Heap} (h1 : h.get? q = some ⟨.type "function", some d, .func fd, sl⟩) (h2 : h.get? d = some (dictOf es n)) (hl : getL name es = some (some v))
    (hn : typeLookup (.type "function") name = pure none) : Looks M h (find (.ref q) (.type "function") name) (.value v) := by
  unfold find
  refine (Looks.of_pure hn).andThen (Looks.now.andThen (Looks.now.andThen ?_))
  show Looks M h (ownThenClass (.ref q) name none none) (.value v)
  have LD : Looks M h (ObjectAttr.ownDict q) (some d) :=
    (Looks.ld h1).andThen (show Looks M h (instanceDict q false) (some d) from (Looks.ld h1).andThen .now)
  have LN : Looks M h (nsGet d name) (some v) :=
    (Looks.ld h2).andThen (Looks.of_pure (nsLook_of (o := dictOf es n) hl))
  exact (show Looks M h (inOwnDict name (.ref q)) (some v) from LD.andThen LN).andThen (Looks.tag .now)

theorem fn_type {M : Model} {h : Heap} {od : Option Addr} (h1 : h.get? q = some ⟨.type "function", od, .func fd, sl⟩) : Looks M h (typeOf (.ref q)) (.type "function") := (Looks.ld h1).andThen .now

theorem fn_getAttr {expr : Bool} {Q : Value → Shared → Prop} (h1 : s.heap.get? q = some ⟨.type "function", some d, .func fd, sl⟩) (h2 : s.heap.get? d = some (dictOf es n)) (hl : getL name es = some (some v))
    (hn : typeLookup (.type "function") name = pure none) (hh : handedIn v = true) (h : Q v { s with toks := s.toks + 1 }) :
    wpAny (model prog w) A (getAttr (.ref q) name expr) Q E s := by
  obtain ⟨hp, g, dr, tk, os⟩ := s
  have hT : ∀ tk', (⟨hp, g, dr, tk', os⟩ : Shared).TypeIs (.ref q) "function" := fun _ => ⟨_, h1, rfl⟩
  have L0 := fn_type (M := model prog w) h1
  have L1 := fn_looks (M := model prog w) h1 h2 hl hn
  unfold getAttr getAttrBy
  refine wpAny_bind (wpAny_mkText (wpAny_holding (wpAny_bind (L0.at ?_))))
  rw [lk_fn_ga]
  refine wpAny_bind (wpAny_pure ?_)
  show wpAny _ _ (getAttrByItsOwn _ _ _ _ _ _) _ _ _
  unfold getAttrByItsOwn
  refine wpAny_bind (wpAny_pure ?_)
  refine wpAny_bind (wpAny_attempt (wpAny_holding ?_))
  rw [show ∀ (o nm : Value), callGetattribute o nm (.builtin "object.__getattribute__") expr = boundAndCalled (.builtin "object.__getattribute__") o nm from fun o nm => by simp [callGetattribute, onTheHeap]]
  unfold boundAndCalled
  rw [slot_fn_ga.bind]
  refine wpAny_bind (wpAny_pure ?_)
  refine wpAny_call_entry slot_fn_ga (hT _) F.entry_object_getattribute ?_ (F.args_object_getattribute_2 _ _)
  unfold Builtin.«object.__getattribute__»
  refine wpAny_bind (wpAny_pure (wpAny_bind (wpAny_pure (wpAny_bind (L0.at (wpAny_bind (L1.at ?_)))))))
  refine wpAny_pure ⟨v, rfl, ?_⟩
  show wpAny _ _ (handedOut v) _ _ _
  rw [handedOut_of hh]; exact wpAny_pure h

theorem fn_getMethod {pl : Sem Bool} {Q : Value × List Value → Shared → Prop} (h1 : s.heap.get? q = some ⟨.type "function", some d, .func fd, sl⟩) (h2 : s.heap.get? d = some (dictOf es n)) (hl : getL name es = some (some v))
    (hn : typeLookup (.type "function") name = pure none) (hh : handedIn v = true) (h : Q (v, []) { s with toks := s.toks + 1 }) :
    wpAny (model prog w) A (getMethod (.ref q) name pl) Q E s := by
  obtain ⟨hp, g, dr, tk, os⟩ := s
  have L0 := fn_type (M := model prog w) h1
  unfold getMethod specialOf
  refine wpAny_bind (wpAny_bind (L0.at ?_))
  rw [lk_fn_ga]
  refine wpAny_pure ?_
  simp only [F.canon_object_ga, Bool.false_eq_true, if_false]
  refine wpAny_bind (wpAny_bind (L0.at ?_))
  rw [lk_fn_gattr]
  refine wpAny_pure ?_
  simp only [Option.isSome_none, Bool.false_eq_true, if_false]
  refine wpAny_bind (wpAny_bind (L0.at ?_))
  rw [hn]
  refine wpAny_pure ?_
  exact wpAny_bind (fn_getAttr h1 h2 hl hn hh (wpAny_pure h))

theorem fn_truthy {od : Option Addr} {Q : Bool → Shared → Prop} (h1 : s.heap.get? q = some ⟨.type "function", od, .func fd, sl⟩) (h : Q true s) : wpAny (model prog w) A (truthy (.ref q)) Q E s := by
  obtain ⟨hp, g, dr, tk, os⟩ := s
  have L0 := fn_type (M := model prog w) h1
  unfold truthy callSpecial? specialOf
  refine wpAny_bind (wpAny_bind (wpAny_bind (L0.at ?_)))
  rw [lk_fn_bool]
  refine wpAny_pure (wpAny_pure ?_)
  show wpAny _ _ (do let x ← (do let t ← typeOf (.ref q); typeLookup t "__len__"); _) _ _ _
  refine wpAny_bind (wpAny_bind (L0.at ?_))
  rw [lk_fn_len]
  refine wpAny_pure ?_
  exact wpAny_pure h
end
end
section
open PySem PySem.W PyProof.Rows PySem.Builtin PySem.Builtin.ObjectAttr
set_option Elab.async false
set_option maxRecDepth 100000
set_option maxHeartbeats 2000000
theorem mro_fn : mroOf (.type "function") = pure [.type "function", .type "object"] := by rw [mroOf_type]; kernel_rfl
theorem own_fn_sa : classOwn (.type "function") "__setattr__" = pure none := by show pure (builtinOwn _ _) = _; rw [builtinOwn_eq_fast]; kernel_rfl
theorem own_ob_sa : classOwn (.type "object") "__setattr__" = pure (some (.builtin "object.__setattr__")) := by show pure (builtinOwn _ _) = _; rw [builtinOwn_eq_fast]; kernel_rfl
theorem hasDict_fn : typeHasDict (.type "function") = true := by decide +kernel
theorem fin_fn : finalisedInACycleAlone "function" = false := by decide +kernel
theorem refuse_fn {q : Addr} {fd : FuncData} {sl : Array (Option Value)} {od : Option Addr} {M : Model} {h : Heap} (h1 : h.get? q = some ⟨.type "function", od, .func fd, sl⟩) : Looks M h (refuseIfOverridden (.ref q) "__setattr__") () := by
  unfold refuseIfOverridden
  refine (fn_type h1).andThen ?_
  rw [mro_fn]
  refine Looks.now.andThen ?_
  have e1 : (("function" : String) == "_thread._local") = false := by decide
  have e2 : (("function" : String) == "_pickle.Pickler" || ("function" : String) == "_pickle.Unpickler") = false := by decide
  have e3 : (("object" : String) == "_thread._local") = false := by decide
  have e4 : (("object" : String) == "_pickle.Pickler" || ("object" : String) == "_pickle.Unpickler") = false := by decide
  have e5 : isObjects "object" (Str.ofString "__setattr__").toString = true := by simp [isObjects]
  refine Looks.of_pure ?_
  simp only [List.forIn_cons, List.forIn_nil, own_fn_sa, own_ob_sa, pure_bind, e1, e2, e3, e4, e5, Bool.false_eq_true, if_false, Option.isSome_none, Option.isSome_some, if_true, Bool.not_true]

section
variable {prog : Program} {w : World} {A : Around} {E : Value → Shared → Prop} {s : Shared} {q : Addr} {fd : FuncData} {sl : Array (Option Value)} {name : Str} {v : Value}
theorem fn_setAttr {Q : Unit → Shared → Prop} (h1 : s.heap.get? q = some ⟨.type "function", none, .func fd, sl⟩) (hn : typeLookup (.type "function") name = pure none)
    (h : ∀ h' tk, h'.objs.size = s.heap.objs.size + 1 → h'.get? q = some ⟨.type "function", some s.heap.objs.size, .func fd, sl⟩ → h'.get? s.heap.objs.size = some (dictOf [⟨PyData.keyHash w.params name, .str name tk, v⟩] 1) →
      (∀ b, b ≠ q → b ≠ s.heap.objs.size → h'.get? b = s.heap.get? b) → Q () { s with heap := h', toks := s.toks + 2 }) :
    wpAny (model prog w) A (setAttr (.ref q) name v) Q E s := by
  have SF := PySem.F.store_object
  obtain ⟨hp, g, dr, tk, os⟩ := s
  have hq : q < hp.objs.size := Heap.lt_size h1
  have L0 := fn_type (M := model prog w) h1
  have LR := refuse_fn (M := model prog w) h1
  have hT : ∀ tk', (⟨hp, g, dr, tk', os⟩ : Shared).TypeIs (.ref q) "function" := fun _ => ⟨_, h1, rfl⟩
  unfold setAttr callSpecial? specialOf
  refine wpAny_bind (wpAny_mkText (wpAny_bind (wpAny_bind (wpAny_bind (L0.at ?_)))))
  rw [slot_fn_sa.lookup]
  refine wpAny_pure (wpAny_holding ?_)
  rw [slot_fn_sa.bind]
  refine wpAny_bind (wpAny_pure (wpAny_bind ?_))
  refine wpAny_call_entry slot_fn_sa (hT _) SF.entry ?_ (SF.args _ _ _)
  show wpAny _ _ (Builtin.«object.__setattr__» ⟨[.ref q, .str name _, v], []⟩) _ _ _
  rw [osa_eq]
  refine wpAny_bind (LR.at ?_)
  refine wpAny_bind (L0.at ?_)
  rw [hn]
  refine wpAny_bind (wpAny_pure (wpAny_bind (wpAny_pure ?_)))
  show wpAny _ _ (storeInOwnDict (.ref q) (.type "function") (.str name _) name v false) _ _ _
  unfold storeInOwnDict
  have eo : ownStreamTells (.ref q) (.type "function") = pure () := by kernel_rfl
  rw [eo]
  refine wpAny_bind (wpAny_pure ?_)
  simp only [show (Value.type "function" == Value.type "module") = false by decide, Bool.false_eq_true, if_false]
  refine wpAny_bind ?_
  show wpAny _ _ (instanceDict q true) _ _ _
  unfold instanceDict
  refine wpAny_bind (wpAny_loadPart h1 ?_)
  simp only [hasDict_fn, Bool.not_true, Bool.or_self, Bool.false_eq_true, if_false]
  refine wpAny_bind (wpAny_alloc ?_)
  have hqp : (hp.push { cls := .type "dict", data := .dict #[] }).get? q = some ⟨.type "function", none, .func fd, sl⟩ := Heap.get?_push_of_some _ h1
  refine wpAny_bind (wpAny_update hqp ?_)
  have ed : ∀ d, dictMade (.type "function") q d = pure (some d) := fun d => by
    unfold dictMade
    simp only [fin_fn, Bool.false_eq_true, if_false]
  rw [ed]
  refine wpAny_pure ?_
  have hpush : ∀ b, b ≠ hp.objs.size → (hp.push { cls := .type "dict", data := .dict #[] }).get? b = hp.get? b := fun b hb => by
    cases q1 : hp.get? b with
    | some o => exact Heap.get?_push_of_some _ q1
    | none =>
      cases q2 : (hp.push { cls := .type "dict", data := .dict #[] }).get? b with
      | none => rfl
      | some o =>
        have l := Heap.lt_size q2
        rw [Heap.size_push] at l
        exfalso
        have l2 : b < hp.objs.size := Nat.lt_of_le_of_ne (Nat.lt_succ_iff.mp l) hb
        obtain ⟨e1, e2⟩ := Heap.get?_some_iff.mp q2
        have e3 : hp.objs[b]? = some o := by
          rw [← e1]
          obtain ⟨oo, ll⟩ := hp
          show oo[b]? = (oo.push _)[b]?
          rw [Array.getElem?_push]
          rw [if_neg hb]
        rw [Heap.get?_some_iff.mpr ⟨e3, e2⟩] at q1
        cases q1
  have hqn : q ≠ hp.objs.size := Nat.ne_of_lt hq
  have D0 : ((hp.push { cls := .type "dict", data := .dict #[] }).update q (fun o => { o with dict := some hp.objs.size })).get? hp.objs.size = some (dictOf [] 0) :=
    (Heap.get?_update_ne _ _ _ _ (Ne.symm hqn)).trans (Heap.get?_push_size _ rfl)
  have Q0 := Heap.get?_update_self (fun o => { o with dict := some hp.objs.size }) hqp rfl
  have O0 : ∀ b, b ≠ q → b ≠ hp.objs.size → ((hp.push { cls := .type "dict", data := .dict #[] }).update q (fun o => { o with dict := some hp.objs.size })).get? b = hp.get? b := fun b b1 b2 => (Heap.get?_update_ne _ _ _ _ b1).trans (hpush b b2)
  have S0 : ((hp.push { cls := .type "dict", data := .dict #[] }).update q (fun o => { o with dict := some hp.objs.size })).objs.size = hp.objs.size + 1 := by rw [Heap.size_after_update, Heap.size_push]
  dsimp only at D0 Q0 O0 S0 h ⊢
  generalize (hp.push { cls := .type "dict", data := .dict #[] }).update q (fun o => { o with dict := some hp.objs.size }) = hp1 at *
  show wpAny _ _ (storeInDict hp.objs.size (.str name _) name v) _ _ _
  unfold storeInDict
  refine wpAny_bind (wpAny_pure (wpAny_bind ?_))
  unfold nsSet
  refine wpAny_bind (wpAny_bind (wpAny_askSetting (wpAny_pure (wpAny_bind (wpAny_mkText (wpAny_bind (wpAny_loadPart D0 ?_)))))))
  dsimp only
  rw [aRefKeyMayBeTheName_at, show (!(([] : List DictEntry).toArray).any (·.key.isStr name) && (([] : List DictEntry).toArray).any (·.refKey)) = false by simp]
  refine wpAny_updatePart D0 ?_
  have P1 := Heap.get?_update_self (Obj.putName name (PyData.keyHash w.params name) (.str name (tk + 1)) v) D0 (by rw [putName_dict]; rfl)
  rw [putName_dict] at P1
  refine wpAny_bind (wpAny_lookBehind P1 rfl ?_)
  refine wpAny_pure ⟨_, rfl, wpAny_pure (wpAny_pure ?_)⟩
  refine h _ (tk + 1) (by rw [Heap.size_after_update, S0]) ?_ P1 ?_
  · exact (Heap.get?_update_ne _ _ _ _ hqn).trans Q0
  · exact fun b b1 b2 => (Heap.get?_update_ne _ _ _ _ b2).trans (O0 b b1 b2)
end
end
section
open PySem PySem.W PyProof.Rows PySem.Builtin PySem.Builtin.ObjectAttr
set_option Elab.async false
set_option maxRecDepth 100000
/-- a text by its signs -/
abbrev S (l : List Nat) : Str := ⟨l.toArray⟩
theorem S_len (l : List Nat) : (S l).length = l.length := by simp [Str.length]
theorem S_inj {a b : List Nat} : S a = S b ↔ a = b := by
  constructor
  · intro h; have := congrArg (fun x : Str => x.cps.toList) h; simpa using this
  · intro h; rw [h]
theorem S_app (a b : List Nat) : S a ++ S b = S (a ++ b) := by
  show Str.append _ _ = _
  simp [Str.append]
theorem item_S (l : List Nat) (k : Int) (h0 : 0 ≤ k) (h1 : k < l.length) : Txt.item (S l) k = S [l.getD k.toNat 0] := by
  unfold Txt.item Txt.charAt seqIndex?
  rw [S_len]
  simp only [show ¬ k < 0 by omega, if_false, decide_eq_true_eq.mpr h0, decide_eq_true_eq.mpr h1, Bool.and_self, if_true, Option.bind_some]
  simp
theorem range_pick (l : List Nat) (a : Nat) : ∀ n, a + n ≤ l.length → ((List.range n).map fun k => a + k).filterMap (l[·]?) = (l.drop a).take n
  | 0, _ => by simp
  | n + 1, h => by
    have h1 : a + n < l.length := by omega
    rw [List.range_succ, List.map_append, List.filterMap_append, range_pick l a n (by omega), List.take_add_one]
    congr 1
    simp [h1]
theorem pick_S (l : List Nat) (lo hi : Option Int) (a n : Nat) (e : Str.strSliceIndices lo hi 1 l.length = (List.range n).map fun k => a + k) (hn : a + n ≤ l.length) : Txt.slice (S l) lo hi = S ((l.drop a).take n) := by
  unfold Txt.slice
  rw [S_len, e]
  split
  · rename_i q
    simp at q
    have : a = 0 := by omega
    subst this
    rw [q]; simp
  · have := range_pick l a n hn
    simp only [List.getElem?_toArray]
    rw [this]
theorem clampN (i : Int) (h : 0 ≤ i) (len : Nat) : max 0 (min i (len : Int)) = ((min i.toNat len : Nat) : Int) := by omega
theorem cntN (a b : Nat) : (if (a : Int) < (b : Int) then ((b : Int) - (a : Int) + 1 - 1) / 1 else 0).toNat = b - a := by
  split <;> omega
theorem stepN (a : Nat) : (fun k : Nat => ((a : Int) + 1 * (k : Int)).toNat) = fun k => a + k := funext fun k => by omega
theorem idx_ss (i j : Int) (h0 : 0 ≤ i) (h1 : 0 ≤ j) (len : Nat) : Str.strSliceIndices (some i) (some j) 1 len = (List.range (min j.toNat len - min i.toNat len)).map fun k => min i.toNat len + k := by
  unfold Str.strSliceIndices sliceRange
  simp only [Int.not_lt.mpr h0, Int.not_lt.mpr h1, if_false, show (1 : Int) > 0 by decide, if_true]
  rw [clampN i h0, clampN j h1, cntN, stepN]
theorem idx_sn (i : Int) (h0 : 0 ≤ i) (len : Nat) : Str.strSliceIndices (some i) none 1 len = (List.range (len - min i.toNat len)).map fun k => min i.toNat len + k := by
  unfold Str.strSliceIndices sliceRange
  simp only [Int.not_lt.mpr h0, if_false, show (1 : Int) > 0 by decide, if_true]
  rw [clampN i h0, cntN, stepN]
theorem idx_ns (j : Int) (h1 : 0 ≤ j) (len : Nat) : Str.strSliceIndices none (some j) 1 len = (List.range (min j.toNat len)).map fun k => 0 + k := by
  unfold Str.strSliceIndices sliceRange
  simp only [Int.not_lt.mpr h1, if_false, show (1 : Int) > 0 by decide, if_true]
  rw [clampN j h1]
  have := cntN 0 (min j.toNat len)
  rw [show ((0 : Nat) : Int) = 0 from rfl] at this
  rw [this]
  congr 1
  funext k
  omega
theorem drop_take_min (l : List Nat) (i j : Nat) : (l.drop (min i l.length)).take (min j l.length - min i l.length) = (l.drop i).take (j - i) := by
  by_cases hi : i ≤ l.length
  · rw [Nat.min_eq_left hi]
    by_cases hj : j ≤ l.length
    · rw [Nat.min_eq_left hj]
    · rw [Nat.min_eq_right (by omega), List.take_of_length_le (by simp), List.take_of_length_le (by simp; omega)]
  · rw [Nat.min_eq_right (show l.length ≤ i by omega), List.drop_eq_nil_of_le (Nat.le_refl l.length), List.drop_eq_nil_of_le (by omega : l.length ≤ i)]; simp
theorem slice_ss_S (l : List Nat) (i j : Int) (h0 : 0 ≤ i) (h1 : 0 ≤ j) : Txt.slice (S l) (some i) (some j) = S ((l.drop i.toNat).take (j.toNat - i.toNat)) := by
  rw [pick_S l _ _ _ _ (idx_ss i j h0 h1 l.length) (by omega), drop_take_min]
theorem slice_sn_S (l : List Nat) (i : Int) (h0 : 0 ≤ i) : Txt.slice (S l) (some i) none = S (l.drop i.toNat) := by
  rw [pick_S l _ _ _ _ (idx_sn i h0 l.length) (by omega)]
  congr 2
  by_cases hi : i.toNat ≤ l.length
  · rw [Nat.min_eq_left hi, List.take_of_length_le (by simp)]
  · rw [Nat.min_eq_right (by omega), List.drop_eq_nil_of_le (Nat.le_refl _), List.drop_eq_nil_of_le (by omega : l.length ≤ i.toNat)]; simp
theorem slice_ns_S (l : List Nat) (j : Int) (h1 : 0 ≤ j) : Txt.slice (S l) none (some j) = S (l.take j.toNat) := by
  rw [pick_S l _ _ _ _ (idx_ns j h1 l.length) (by omega)]
  rw [List.drop_zero]
  by_cases hi : j.toNat ≤ l.length
  · rw [Nat.min_eq_left hi]
  · rw [Nat.min_eq_right (by omega), List.take_of_length_le (Nat.le_refl _), List.take_of_length_le (by omega)]

section
variable {prog : Program} {w : World} {A : Around} {E : Value → Shared → Prop} {s : Shared} {value slice : Expr} {l : List Nat} {t : Tok} {h₀ : Heap} {L : Addr} {m : Str → Option Value} {news : List (Addr × Obj)} {Q : Value → Shared → Prop}
theorem r_item {k : Int} {u : Tok} (h0 : 0 ≤ k) (h1 : k < (l.length : Int)) (hl : l.length < 2 ^ 62)
    (h : Q (.str (S [l.getD k.toNat 0]) s.toks) { s with toks := s.toks + 1 })
    (hs : subscripted slice false (.str (S l) t) (.int k u) = operate [.str (S l) t, .int k u] (getItem (.str (S l) t) (.int k u)) := by with_unfolding_all rfl)
    (ht : ∀ r, letTemporaryGo value (.str (S l) t) r = pure () := by intro _; with_unfolding_all rfl) :
    wpAny (model prog w) A (subscriptTail value slice (.str (S l) t) (.int k u)) Q E s := by
  refine item_str ?_ (by omega) (by rw [S_len]; exact h1) (fun _ => by rw [item_S l k h0 h1]; exact h) hs ht
  unfold fitsSsize
  simp
  omega
theorem r_ss {i j : Int} {ui uj : Tok} (hF : Fr h₀ L s.heap m) (hN : News h₀ L s.heap news) (h0 : 0 ≤ i) (h1 : 0 ≤ j) (hl : l.length ≤ sizeLine)
    (h : ∀ h' t' k, Fr h₀ L h' m → News h₀ L h' news → Q (.str (S ((l.drop i.toNat).take (j.toNat - i.toNat))) t') { s with heap := h', toks := k })
    (hs : subscripted slice false (.str (S l) t) (.ref s.heap.objs.size) = operate [.ref s.heap.objs.size, .str (S l) t] (getItem (.str (S l) t) (.ref s.heap.objs.size)) := by with_unfolding_all rfl)
    (ht : ∀ r, letTemporaryGo value (.str (S l) t) r = pure () := by intro _; with_unfolding_all rfl) :
    wpAny (model prog w) A (subscriptTail value slice (.str (S l) t) (.ref s.heap.objs.size)) Q E { s with heap := s.heap.push { cls := .type "slice", data := .fields #[.int i ui, .int j uj, .none] } } :=
  slice_strN_ss hF hN (fun h' t' k a b => by rw [slice_ss_S l i j h0 h1]; exact h h' t' k a b) hs ht (by rw [S_len]; exact hl)
theorem r_sn {i : Int} {ui : Tok} (hF : Fr h₀ L s.heap m) (hN : News h₀ L s.heap news) (h0 : 0 ≤ i) (hl : l.length ≤ sizeLine)
    (h : ∀ h' t' k, Fr h₀ L h' m → News h₀ L h' news → Q (.str (S (l.drop i.toNat)) t') { s with heap := h', toks := k })
    (hs : subscripted slice false (.str (S l) t) (.ref s.heap.objs.size) = operate [.ref s.heap.objs.size, .str (S l) t] (getItem (.str (S l) t) (.ref s.heap.objs.size)) := by with_unfolding_all rfl)
    (ht : ∀ r, letTemporaryGo value (.str (S l) t) r = pure () := by intro _; with_unfolding_all rfl) :
    wpAny (model prog w) A (subscriptTail value slice (.str (S l) t) (.ref s.heap.objs.size)) Q E { s with heap := s.heap.push { cls := .type "slice", data := .fields #[.int i ui, .none, .none] } } :=
  slice_strN_sn hF hN (fun h' t' k a b => by rw [slice_sn_S l i h0]; exact h h' t' k a b) hs ht (by rw [S_len]; exact hl)
theorem r_ns {j : Int} {uj : Tok} (hF : Fr h₀ L s.heap m) (hN : News h₀ L s.heap news) (h1 : 0 ≤ j) (hl : l.length ≤ sizeLine)
    (h : ∀ h' t' k, Fr h₀ L h' m → News h₀ L h' news → Q (.str (S (l.take j.toNat)) t') { s with heap := h', toks := k })
    (hs : subscripted slice false (.str (S l) t) (.ref s.heap.objs.size) = operate [.ref s.heap.objs.size, .str (S l) t] (getItem (.str (S l) t) (.ref s.heap.objs.size)) := by with_unfolding_all rfl)
    (ht : ∀ r, letTemporaryGo value (.str (S l) t) r = pure () := by intro _; with_unfolding_all rfl) :
    wpAny (model prog w) A (subscriptTail value slice (.str (S l) t) (.ref s.heap.objs.size)) Q E { s with heap := s.heap.push { cls := .type "slice", data := .fields #[.none, .int j uj, .none] } } :=
  slice_strN_ns hF hN (fun h' t' k a b => by rw [slice_ns_S l j h1]; exact h h' t' k a b) hs ht (by rw [S_len]; exact hl)
end
end
section
open PySem PySem.W PyProof.Rows PySem.Builtin PySem.Builtin.ObjectAttr
set_option Elab.async false
set_option maxRecDepth 100000
theorem lit_e : Str.ofString "" = S [] := by decide +kernel
theorem lit_bang : Str.ofString "!" = S [33] := by decide +kernel
theorem lit_hat : Str.ofString "^" = S [94] := by decide +kernel
theorem lit_q : Str.ofString "?" = S [63] := by decide +kernel
theorem lit_thorn : Str.ofString "Þ" = S [222] := by decide +kernel
theorem lit_del : Str.ofString "\x7f" = S [127] := by decide +kernel
theorem lit_ff : Str.ofString "ÿ" = S [255] := by decide +kernel
theorem lit_A : Str.ofString "A" = S [65] := by decide +kernel
theorem lit_hq : Str.ofString "^?" = S [94, 63] := by decide +kernel
theorem lit_h9 : Str.ofString "^\u009f" = S [94, 159] := by decide +kernel
theorem lit_sp : Str.ofString " " = S [32] := by decide +kernel
theorem lit_tilde : Str.ofString "~" = S [126] := by decide +kernel
theorem lit_fe : Str.ofString "þ" = S [254] := by decide +kernel
theorem lit_hT : Str.ofString "^Þ" = S [94, 222] := by decide +kernel
theorem lit_marks : Str.ofString "?@ABCDEFGHIJKLMNOPQRSTUVWXYZ[\\]^_" = S ((List.range 33).map (63 + ·)) := by decide +kernel
theorem mem_marks (c : Nat) : c ∈ (List.range 33).map (63 + ·) ↔ 63 ≤ c ∧ c ≤ 95 := by
  simp only [List.mem_map, List.mem_range]
  constructor
  · rintro ⟨a, h, rfl⟩; omega
  · rintro ⟨a, b⟩; exact ⟨c - 63, by omega, by omega⟩

section
variable {prog : Program} {w : World} {A : Around} {E : Value → Shared → Prop} {s : Shared} {l a b : List Nat} {t u : Tok} {Q : Value → Shared → Prop}
theorem r_const {M : Model} {env : Env} {x : Str} {k : Nat} {pos : Pos} (e : x = S l) (h : Q (.str (S l) s.toks) { s with toks := s.toks + 1 }) : wpAny M A (eval (.Constant (.str x) k pos) env) Q E s := e ▸ wpAny_Constant_str (e ▸ h)
theorem r_len (hl : l.length < 2 ^ 62) (h : Q (.int (l.length : Nat) (s.toks + 1)) { s with toks := s.toks + 1 + 1 }) : wpAny (model prog w) A (call (.builtin "len") [.str (S l) t]) Q E s :=
  len_str (by rw [S_len]; omega) (by rw [S_len]; exact h)
theorem S_beq (a b : List Nat) : (S a == S b) = decide (a = b) := by
  rw [Bool.eq_iff_iff, beq_iff_eq, decide_eq_true_eq, S_inj]
theorem r_eq (h : Q (.bool (decide (a = b))) s) : wpAny (model prog w) A (compareOp .Eq (.str (S a) t) (.str (S b) u)) Q E s := eq_str (by rw [S_beq]; exact h)
theorem r_ne (h : Q (.bool (!decide (a = b))) s) : wpAny (model prog w) A (compareOp .NotEq (.str (S a) t) (.str (S b) u)) Q E s := PySem.P.ne_str (by
  simp only [List.toList_toArray, bne]
  rw [show (a == b) = decide (a = b) by rw [Bool.eq_iff_iff, beq_iff_eq, decide_eq_true_eq]]; exact h)
theorem r_add (h : ∀ t' tk, Q (.str (S (a ++ b)) t') { s with toks := tk }) (hsz : a.length + b.length ≤ sizeLine) : wpAny (model prog w) A (binaryOp .Add (.str (S a) t) (.str (S b) u)) Q E s :=
  add_str (fun t' tk => by rw [S_app]; exact h t' tk) (by rw [S_len, S_len]; exact hsz)
theorem r_iadd (h : ∀ t' tk, Q (.str (S (a ++ b)) t') { s with toks := tk }) (hsz : a.length + b.length ≤ sizeLine) : wpAny (model prog w) A (inplaceOp .Add (.str (S a) t) (.str (S b) u)) Q E s :=
  iadd_str (fun t' tk => by rw [S_app]; exact h t' tk) (by rw [S_len, S_len]; exact hsz)
theorem r_in {c : Nat} (h : Q (.bool (decide (c ∈ l))) s) : wpAny (model prog w) A (compareOp .In (.str (S [c]) t) (.str (S l) u)) Q E s :=
  in_str (by rw [StrLaws.found_one]; simpa using h)
theorem r_gt {c d : Nat} (h : Q (.bool (decide (d < c))) s) : wpAny (model prog w) A (compareOp .Gt (.str (S [c]) t) (.str (S [d]) u)) Q E s :=
  PySem.P.gt_str (by simpa [List.cons_lt_cons_iff] using h)
theorem r_le {c d : Nat} (h : Q (.bool (decide (c ≤ d))) s) : wpAny (model prog w) A (compareOp .LtE (.str (S [c]) t) (.str (S [d]) u)) Q E s :=
  PySem.P.le_str (by
    have e : (!decide ([d] < [c])) = decide (c ≤ d) := by
      rw [Bool.eq_iff_iff]; simp [List.cons_lt_cons_iff]
    simpa [e] using h)
theorem r_ord {c : Nat} (h : Q (.int (c : Nat) s.toks) { s with toks := s.toks + 1 }) : wpAny (model prog w) A (call (.builtin "ord") [.str (S [c]) t]) Q E s := P.ord_of_char h
theorem r_chr {i : Int} (h0 : 0 ≤ i) (h1 : i ≤ 1114111) (h : Q (.str (S [i.toNat]) s.toks) { s with toks := s.toks + 1 }) : wpAny (model prog w) A (call (.builtin "chr") [.int i t]) Q E s := chr_of_range h0 h1 h
end
end
section
open PySem PySem.W PyProof.Rows PySem.Builtin PySem.Builtin.ObjectAttr
set_option Elab.async false
set_option maxRecDepth 100000
theorem and_pow (x : Int) (h : 0 ≤ x) (i : Nat) : Builtin.bitAnd x ((2 ^ i : Nat) : Int) = if x / ((2 ^ i : Nat) : Int) % 2 = 1 then ((2 ^ i : Nat) : Int) else 0 := by
  obtain ⟨n, rfl⟩ := Int.eq_ofNat_of_zero_le h
  rw [bitAnd_pp h (Int.natCast_nonneg _)]
  simp only [Int.toNat_natCast]
  have e : (n : Int) / ((2 ^ i : Nat) : Int) % 2 = ((n / 2 ^ i % 2 : Nat) : Int) := by simp
  rw [e]
  have hb : n &&& 2 ^ i = if n / 2 ^ i % 2 = 1 then 2 ^ i else 0 := by
    apply Nat.eq_of_testBit_eq
    intro j
    rw [Nat.testBit_and, Nat.testBit_two_pow]
    by_cases q : n / 2 ^ i % 2 = 1
    · rw [if_pos q, Nat.testBit_two_pow]
      by_cases hj : i = j
      · subst hj; simp [Nat.testBit_eq_decide_div_mod_eq, q]
      · simp [hj]
    · rw [if_neg q]
      by_cases hj : i = j
      · subst hj; simp [Nat.testBit_eq_decide_div_mod_eq, q]
      · simp [hj]
  rw [hb]
  by_cases q : n / 2 ^ i % 2 = 1
  · rw [if_pos q, if_pos (by omega)]
  · rw [if_neg q, if_neg (by omega)]; rfl
theorem and_128 (x : Int) (h : 0 ≤ x) : Builtin.bitAnd x 128 = if x / 128 % 2 = 1 then 128 else 0 := and_pow x h 7
theorem and_32 (x : Int) (h : 0 ≤ x) : Builtin.bitAnd x 32 = if x / 32 % 2 = 1 then 32 else 0 := and_pow x h 5
section
variable {prog : Program} {w : World} {A : Around} {E : Value → Shared → Prop} {s : Shared} {x : Int} {t u : Tok} {Q : Value → Shared → Prop}
theorem r_and127 (h : Q (.int (x % 128) s.toks) { s with toks := s.toks + 1 }) : wpAny (model prog w) A (binaryOp .BitAnd (.int x t) (.int 127 u)) Q E s := and_int (by rw [bitAnd_m7]; exact h)
theorem r_and31 (h : Q (.int (x % 32) s.toks) { s with toks := s.toks + 1 }) : wpAny (model prog w) A (binaryOp .BitAnd (.int x t) (.int 31 u)) Q E s := and_int (by rw [bitAnd_m5]; exact h)
theorem r_and128 (h0 : 0 ≤ x) (h : x / 128 % 2 = 1 → Q (.int 128 s.toks) { s with toks := s.toks + 1 }) (h' : x / 128 % 2 = 0 → Q (.int 0 s.toks) { s with toks := s.toks + 1 }) : wpAny (model prog w) A (binaryOp .BitAnd (.int x t) (.int 128 u)) Q E s := and_int (by
  rw [and_128 x h0]; split
  · exact h (by assumption)
  · exact h' (by omega))
theorem r_or32 (h0 : 0 ≤ x) (h : x / 32 % 2 = 1 → Q (.int x s.toks) { s with toks := s.toks + 1 }) (h' : x / 32 % 2 = 0 → Q (.int (x + 32) s.toks) { s with toks := s.toks + 1 }) : wpAny (model prog w) A (binaryOp .BitOr (.int x t) (.int 32 u)) Q E s := or_int (by
  rw [bitOr_and, and_32 x h0]; split
  · rw [show x + 32 - 32 = x by omega]; exact h (by assumption)
  · rw [show x + 32 - 0 = x + 32 by omega]; exact h' (by omega))
theorem r_or128 (h0 : 0 ≤ x) (h : x / 128 % 2 = 1 → Q (.int x s.toks) { s with toks := s.toks + 1 }) (h' : x / 128 % 2 = 0 → Q (.int (x + 128) s.toks) { s with toks := s.toks + 1 }) : wpAny (model prog w) A (binaryOp .BitOr (.int x t) (.int 128 u)) Q E s := or_int (by
  rw [bitOr_and, and_128 x h0]; split
  · rw [show x + 128 - 128 = x by omega]; exact h (by assumption)
  · rw [show x + 128 - 0 = x + 128 by omega]; exact h' (by omega))
end
section
variable {prog : Program} {w : World} {A : Around} {E : Value → Shared → Prop} {s : Shared} {value slice : Expr} {a b c : Nat} {r : List Nat} {t u : Tok} {h₀ : Heap} {L : Addr} {m : Str → Option Value} {news : List (Addr × Obj)} {Q : Value → Shared → Prop}
theorem r_len1 (h : Q (.int 1 (s.toks + 1)) { s with toks := s.toks + 1 + 1 }) : wpAny (model prog w) A (call (.builtin "len") [.str (S [a]) t]) Q E s := r_len (by simp) h
theorem r_len2 (h : Q (.int 2 (s.toks + 1)) { s with toks := s.toks + 1 + 1 }) : wpAny (model prog w) A (call (.builtin "len") [.str (S [a, b]) t]) Q E s := r_len (by simp) h
theorem r_len3 (h : Q (.int 3 (s.toks + 1)) { s with toks := s.toks + 1 + 1 }) : wpAny (model prog w) A (call (.builtin "len") [.str (S [a, b, c]) t]) Q E s := r_len (by simp) h
theorem r_it0 (hl : (a :: r).length < 2 ^ 62) (h : Q (.str (S [a]) s.toks) { s with toks := s.toks + 1 })
    (hs : subscripted slice false (.str (S (a :: r)) t) (.int 0 u) = operate [.str (S (a :: r)) t, .int 0 u] (getItem (.str (S (a :: r)) t) (.int 0 u)) := by with_unfolding_all rfl)
    (ht : ∀ v, letTemporaryGo value (.str (S (a :: r)) t) v = pure () := by intro _; with_unfolding_all rfl) :
    wpAny (model prog w) A (subscriptTail value slice (.str (S (a :: r)) t) (.int 0 u)) Q E s := r_item (by omega) (by simp) hl h hs ht
theorem r_it1 (hl : (a :: b :: r).length < 2 ^ 62) (h : Q (.str (S [b]) s.toks) { s with toks := s.toks + 1 })
    (hs : subscripted slice false (.str (S (a :: b :: r)) t) (.int 1 u) = operate [.str (S (a :: b :: r)) t, .int 1 u] (getItem (.str (S (a :: b :: r)) t) (.int 1 u)) := by with_unfolding_all rfl)
    (ht : ∀ v, letTemporaryGo value (.str (S (a :: b :: r)) t) v = pure () := by intro _; with_unfolding_all rfl) :
    wpAny (model prog w) A (subscriptTail value slice (.str (S (a :: b :: r)) t) (.int 1 u)) Q E s := r_item (by omega) (by simp; omega) hl h hs ht
theorem r_sl1 {ui : Tok} (hF : Fr h₀ L s.heap m) (hN : News h₀ L s.heap news) (hl : (a :: r).length ≤ sizeLine)
    (h : ∀ h' t' k, Fr h₀ L h' m → News h₀ L h' news → Q (.str (S r) t') { s with heap := h', toks := k })
    (hs : subscripted slice false (.str (S (a :: r)) t) (.ref s.heap.objs.size) = operate [.ref s.heap.objs.size, .str (S (a :: r)) t] (getItem (.str (S (a :: r)) t) (.ref s.heap.objs.size)) := by with_unfolding_all rfl)
    (ht : ∀ v, letTemporaryGo value (.str (S (a :: r)) t) v = pure () := by intro _; with_unfolding_all rfl) :
    wpAny (model prog w) A (subscriptTail value slice (.str (S (a :: r)) t) (.ref s.heap.objs.size)) Q E { s with heap := s.heap.push { cls := .type "slice", data := .fields #[.int 1 ui, .none, .none] } } := r_sn hF hN (by omega) hl h hs ht
end
end
section
open PySem PySem.W PyProof.Rows PySem.Builtin PySem.Builtin.ObjectAttr
set_option Elab.async false
set_option maxRecDepth 100000
theorem iadd_list_fi : fillsInplaceSlot (.type "list") "add" (Operator.Add == .Add) = pure false := by
  unfold fillsInplaceSlot
  show (typeLookup (.type "list") (dunderI "add") >>= fun fi => pure (fi.isSome && !isSeqSlot fi)) = pure false
  rw [F.slot_list_iadd.lookup]
  show (pure (true && !isSeqSlot (some (.builtin "list.__iadd__"))) : Sem Bool) = _
  rw [show isSeqSlot (some (.builtin "list.__iadd__")) = true by decide +kernel]; rfl
theorem iadd_list_seq : seqSlot? (.type "list") (dunderI "add") = pure (some (.builtin "list.__iadd__")) := PySem.seqSlot_of F.slot_list_iadd.lookup (by decide +kernel)
section
variable {prog : Program} {w : World} {A : Around} {E : Value → Shared → Prop} {s : Shared} {l b : Addr} {xs ys : Array Value} {n n2 : Nat} {Q : Value → Shared → Prop}
theorem iadd_list (hl : s.heap.get? l = some { cls := .type "list", data := .seq xs n }) (hb : s.heap.get? b = some { cls := .type "list", data := .seq ys n2 }) (hsz : xs.size + ys.size ≤ 1000)
    (h : Q (.ref l) { s with heap := s.heap.update l (Obj.mapSeq (· ++ ys)) }) : wpAny (model prog w) A (inplaceOp .Add (.ref l) (.ref b)) Q E s := by
  have ha : s.TypeIs (.ref l) "list" := ⟨_, hl, rfl⟩
  have hb' : s.TypeIs (.ref b) "list" := ⟨_, hb, rfl⟩
  unfold inplaceOp
  refine wpAny_holding ?_
  refine wpAny_bind (wpAny_typeOf ha (wpAny_bind (wpAny_of_eq iadd_list_fi ?_)))
  show wpAny _ A (if false = true then _ else _) Q E s
  rw [if_neg Bool.false_ne_true]
  refine wpAny_bind (wpAny_binaryOp1_none (nm := "add") ha hb' PySem.noFill_list_add ?_)
  refine wpAny_bind (wpAny_of_eq iadd_list_seq ?_)
  refine wpAny_bind (wpAny_rule ?_)
  refine wpAny_call_entry F.slot_list_iadd ha F.entry_list_iadd ?_ (F.args_list_iadd_2 _ _)
  show wpAny _ A.in1 (Builtin.List.listExtendWith (.ref l) (.ref b) (.ref l)) _ _ s
  unfold Builtin.List.listExtendWith
  refine wpAny_bind (wpAny_typeOf hb' ?_)
  rw [show (Builtin.List.listSameRef (.ref l) (.ref b) || Value.type "list" == Value.type "list" || Value.type "list" == Value.type "tuple") = true by simp]
  rw [if_pos rfl]
  unfold Builtin.List.listItems
  refine wpAny_bind (wpAny_bind (wpAny_seqItems hb rfl (wpAny_pure ?_)))
  refine wpAny_bind (wpAny_bind (wpAny_seqItems hl rfl (wpAny_pure ?_)))
  have e : (!xs.isEmpty && Builtin.List.listTooLong (xs.size + ys.size)) = false := by
    have : Builtin.List.listTooLong (xs.size + ys.size) = false := by
      unfold Builtin.List.listTooLong
      rw [sizeLine_eq]; simp; omega
    rw [this, Bool.and_false]
  rw [e]
  show wpAny _ A.in1 (updateSeq l (· ++ ys) >>= fun _ => ret (.ref l)) _ _ s
  exact wpAny_bind (wpAny_updateSeq hl rfl (wpAny_pure ⟨_, rfl, h⟩) (by rw [sizeLine_eq]; omega) (by rw [sizeLine_eq, Array.size_append]; omega))
end
section
variable {prog : Program} {w : World} {A : Around} {E : Value → Shared → Prop} {s : Shared} {h₀ : Heap} {L l b : Addr} {m : Str → Option Value} {news news' : List (Addr × Obj)} {xs ys : List Value} {n n2 : Nat} {Q : Value → Shared → Prop}
theorem iadd_K (F : Fr h₀ L s.heap m) (N : News h₀ L s.heap news) (hb : (b, listOf ys.toArray n2) ∈ news) (U : Upd l (listOf xs.toArray n) (listOf (xs ++ ys).toArray (n + 1)) news news') (hy : 1 ≤ ys.length) (hsz : xs.length + ys.length ≤ 1000)
    (h : ∀ h', Fr h₀ L h' m → News h₀ L h' news' → Q (.ref l) { s with heap := h' }) : wpAny (model prog w) A (inplaceOp .Add (.ref l) (.ref b)) Q E s := by
  obtain ⟨pre, post, rfl, rfl, h1, h2⟩ := U.split
  have z := N (l, listOf xs.toArray n) (List.mem_append.mpr (.inr (.head _)))
  have e : Obj.mapSeq (· ++ ys.toArray) (listOf xs.toArray n) = listOf (xs ++ ys).toArray (n + 1) := by
    show (⟨_, _, .seq _ (if _ then _ else _), _⟩ : Obj) = _
    rw [if_neg (by
      intro q
      have q2 := beq_iff_eq.mp q
      rw [Array.size_append] at q2
      simp at q2
      rw [q2] at hy
      simp at hy)]
    simp
  obtain ⟨F', N'⟩ := news_upd (f := Obj.mapSeq (· ++ ys.toArray)) F N h1 h2 e rfl
  exact iadd_list z.1 (N _ hb).1 (by simpa using hsz) (h _ F' N')
end
section
variable {prog : Program} {w : World} {A : Around} {E : Value → Shared → Prop} {s : Shared} {h₀ : Heap} {L l : Addr} {m : Str → Option Value} {news : List (Addr × Obj)} {xs : List Value} {n : Nat} {Q : Value → Shared → Prop} {k : Int} {u : Tok} {value slice : Expr}
theorem item_any (N : News h₀ L s.heap news) (hm : (l, listOf xs.toArray n) ∈ news) (h0 : 0 ≤ k) (h1 : k < (xs.length : Int)) (hl : xs.length < 2 ^ 62)
    (h : ∀ v, xs[k.toNat]? = some v → Q v s)
    (hs : subscripted slice false (.ref l) (.int k u) = operate [.ref l, .int k u] (getItem (.ref l) (.int k u)) := by with_unfolding_all rfl) :
    wpAny (model prog w) A (subscriptTail value slice (.ref l) (.int k u)) Q E s := by
  have hl' : s.heap.IsList l xs.toArray := ⟨_, (N _ hm).1, rfl, _, rfl⟩
  have hk : k.toNat < xs.length := by omega
  refine tail_any hl'.typeIs F.slot_list_getitem.lookup (wpAny_getItem_list (x := xs[k.toNat]) hl' h0 (by omega) (by simp [hk]) (h _ (by simp [hk]))) hs
end
section
variable {prog : Program} {w : World} {A : Around} {E : Value → Shared → Prop} {s : Shared} {Q : Value → Shared → Prop} {x k : Int} {t u : Tok} {c : Nat}
theorem r_mod (hk : 0 < k) (h : Q (.int (x % k) s.toks) { s with toks := s.toks + 1 }) : wpAny (model prog w) A (binaryOp .Mod (.int x t) (.int k u)) Q E s :=
  mod_int' (by omega) (by rw [Int.fmod_eq_emod_of_nonneg x (by omega)]; exact h)
theorem r_fdiv (hk : 0 < k) (hk2 : k.natAbs.log2 < 60) (h : Q (.int (x / k) s.toks) { s with toks := s.toks + 1 }) : wpAny (model prog w) A (binaryOp .FloorDiv (.int x t) (.int k u)) Q E s :=
  floordiv_int (by omega) (by rw [Int.fdiv_eq_ediv_of_nonneg x (by omega)]; exact h) (.inl (PyProof.noPylong_of_log2 (by omega)))
theorem r_mul (h0 : x ≤ 1000) (h1 : 0 ≤ x) (h : ∀ t' k', Q (.str (S (List.replicate x.toNat c)) t') { s with toks := k' }) : wpAny (model prog w) A (binaryOp .Mult (.str (S [c]) t) (.int x u)) Q E s := by
  refine SB.mul (mulOk_of 1 1000 (by simp [Str.length]) (by omega) (by omega) (by decide) (by decide)) fun t' k' => ?_
  have e : Txt.mul (S [c]) x = S (List.replicate x.toNat c) := by
    have := mul_one_list c x
    cases hm : Txt.mul ⟨#[c]⟩ x with
    | mk cps => rw [hm] at this; simp at this; simp [S, ← this]
  rw [e]; exact h t' k'
end
end
section
open PySem PySem.W PyProof.Rows PySem.Builtin PySem.Builtin.ObjectAttr
set_option Elab.async false
set_option maxRecDepth 100000
def tailB (l : List Nat) : Nat := (l.reverse.takeWhile (· == 33)).length
theorem takeWhile_len : ∀ (r : List Nat) (n : Nat), (∀ j, j < n → r[j]? = some 33) → (n = r.length ∨ r[n]? ≠ some 33) → n ≤ r.length → (r.takeWhile (· == 33)).length = n
  | [], n, _, _, h => by simp at h; simp [h]
  | c :: r, 0, _, h2, _ => by
    rcases h2 with h | h
    · simp at h
    · have : c ≠ 33 := by simpa using h
      simp [List.takeWhile_cons, this]
  | c :: r, n + 1, h1, h2, h3 => by
    have hc : c = 33 := by simpa using h1 0 (by omega)
    subst hc
    simp only [List.takeWhile_cons, beq_self_eq_true, if_true, List.length_cons]
    rw [takeWhile_len r n (fun j hj => by simpa using h1 (j + 1) (by omega)) (by simpa using h2) (by simpa using h3)]
theorem tailB_eq (l : List Nat) (hi : Nat) (h0 : hi ≤ l.length) (h1 : ∀ k, hi ≤ k → k < l.length → l[k]? = some 33) (h2 : hi = 0 ∨ l[hi - 1]? ≠ some 33) : tailB l = l.length - hi := by
  unfold tailB
  refine takeWhile_len _ _ (fun j hj => ?_) ?_ (by simp)
  · rw [List.getElem?_reverse (by omega)]
    exact h1 _ (by omega) (by omega)
  · rcases h2 with h | h
    · left; simp [h]
    · by_cases hz : hi = 0
      · left; simp [hz]
      · right
        rw [List.getElem?_reverse (by omega), show l.length - 1 - (l.length - hi) = hi - 1 by omega]
        exact h
theorem rstrip_S (l : List Nat) : Txt.rstripChars (S l) (S [33]) = S (l.take (l.length - tailB l)) := by
  obtain ⟨_, h0, h1, h2⟩ := hi_facts ((S [33]).cps.contains) (S l) 0 (Nat.zero_le _)
  unfold Txt.rstripChars
  rw [PyProof.Rows.stripBy_eq, show stripLo (S [33]).cps.contains false (S l) = 0 from rfl]
  generalize stripHi (S [33]).cps.contains true (S l) 0 = hi at *
  rw [S_len] at h0 h1
  have e : ∀ k, k < l.length → (S [33]).cps.contains ((S l).cps.getD k 0) = decide (l[k]? = some 33) := fun k hk => by
    simp [hk]
  rw [tailB_eq l hi h0 (fun k a b => by have := h1 k a b; rw [e k b] at this; simpa using this) ?_]
  · show (⟨(l.toArray).extract 0 hi⟩ : Str) = S _
    rw [show l.length - (l.length - hi) = hi by omega]
    simp
  · rcases h2 with h | h
    · exact .inl h
    · by_cases hz : hi = 0
      · exact .inl hz
      · right; rw [e _ (by omega)] at h; simpa using h
section
variable {prog : Program} {w : World} {A : Around} {E : Value → Shared → Prop} {s : Shared} {Q : Value → Shared → Prop} {l : List Nat} {t u : Tok}
theorem r_rstrip (hsz : l.length ≤ sizeLine) (h : ∀ t' k, Q (.str (S (l.take (l.length - tailB l))) t') { s with toks := k }) : wpAny (model prog w) A (call (.builtin "str.rstrip") [.str (S l) t, .str (S [33]) u]) Q E s :=
  SCL.rstripChars (fun t' k _ => by rw [rstrip_S]; exact h t' k) (by rw [S_len]; exact hsz)
end
end
section
open PySem PySem.W PyProof.Rows
set_option Elab.async false
set_option maxRecDepth 100000
/-- the frame of a call at hand -/
abbrev arA (dp un : Nat) (fr : Option (List Env)) (gd : Option (List Code)) : Around := { handled := none, depth := dp, frames := fr, guards := gd, units := un }
/-- what a call of a def of the text gives back, the whole heap kept -/
abbrev PCl (bd : Nat) (prog : Program) (w : World) (K : Frag) (p : Program) (loose : List Str) (mean : ExcName → Option Value) (mg mb : Str → Option Value) (f : Addr) (vs : List Value) (R : Tok → Value) : Prop :=
  ∀ (dp un : Nat) (fr : Option (List Env)) (gd : Option (List Code)) (s : Shared) (Q E : Value → Shared → Prop),
    K.In s.heap → Top p loose mean mg mb s.heap → dp + bd < 1000 → un + 10 * bd < 9900 →
    (∀ (t : Tok) (h' : Heap) (tk : Nat), s.heap.StaysIn h' → Q (R t) { s with heap := h', toks := tk }) →
    wpAny (model prog w) (arA dp un fr gd) (call (.ref f) vs) Q E s
section
variable {prog : Program} {w : World} {K : Frag} {p : Program} {loose : List Str} {mean : ExcName → Option Value} {mg mb : Str → Option Value}
theorem PCl.use {bd : Nat} {f : Addr} {vs : List Value} {R : Tok → Value} (C : PCl bd prog w K p loose mean mg mb f vs R) {dp un : Nat} {fr : Option (List Env)} {gd : Option (List Code)} {h₀ : Heap} {L : Addr} {m : Str → Option Value} {news : List (Addr × Obj)} {s : Shared} {Q E : Value → Shared → Prop}
    (F : Fr h₀ L s.heap m) (X : K.In h₀) (N : News h₀ L s.heap news) (T : Top p loose mean mg mb h₀) (hd : dp + bd < 1000) (hu : un + 10 * bd < 9900)
    (h : ∀ t h' tk, Fr h₀ L h' m → News h₀ L h' news → Q (R t) { s with heap := h', toks := tk }) :
    wpAny (model prog w) (arA dp un fr gd) (call (.ref f) vs) Q E s :=
  C dp un fr gd s Q E (X.keeps F.keep) (T.keeps F.keep) hd hu fun t h' tk st => h t h' tk ⟨F.ns.keeps st, fun b o e => st b o (F.keep b o e), F.above⟩ fun q hq => ⟨st _ _ (N q hq).1, (N q hq).2⟩
theorem code_pure {A : Around} {s : Shared} {R : Result → Shared → Prop} {name qual : Str} {params : Arguments} {body : List Stmt} {scope : Scope} {dV kV doc pm cdv ct oc : Value} {an od : Option Addr} {osl : Array (Option Value)} {f : Addr} {args : Args} {binds : List (Str × Value)}
    (X : K.In s.heap) (T : Top p loose mean mg mb s.heap)
    (ho : K.lookup f = some ⟨oc, od, .func (fnOf name qual params body scope dV kV doc pm an cdv ct), osl⟩) (hcd : codeIn K cdv qual = true) (hroom : A.depth < recursionLimit)
    (hbind : BindsTo s (fnOf name qual params body scope dV kV doc pm an cdv ct) args binds) (hloc : ∀ y ∈ binds, scope.names.lookup y.1 = some .local)
    (h : ∀ L' h₁, Fr s.heap L' h₁ (fun y => binds.reverse.lookup y) → News s.heap L' h₁ [] →
      wpAny (model prog w) (A.deeper (envOf qual scope L' f cdv)) (execs body (envOf qual scope L' f cdv))
        (fun fl s' => R (.ok (.ret (match fl with | .ret v => v | _ => .none))) s') (fun _ _ => False)
        { s with heap := h₁, toks := s.toks + binds.length })
    (hco : scope.isCoroutine = false) (hgen : scope.isGenerator = false) (hk : scope.kind = .function)
    (hcell : ∀ x ∈ scope.names, x.2 ≠ .cell) : codeAny (model prog w) A (.call (.ref f) args) R s :=
  codeAny_call_def (fd := fnOf name qual params body scope dV kV doc pm an cdv ct) (body := body) (binds := binds) hroom (X _ _ ho) rfl T.nolimit (codeRec_of X hcd) rfl hbind hcell hloc
    (fun h₁ hns hk₁ => wpAny_mono (h s.heap.objs.size h₁ ⟨hns, hk₁, Nat.le_refl _⟩ News.nil) (fun _ _ x => x) fun _ _ x => x.elim) hco hgen hk
end
section
variable {h₀ h' : Heap} {L : Addr} {m : Str → Option Value} {s : Shared} {Q : Value → Shared → Prop} {t : Tok} {tk' : Nat}
theorem pc_retI {x y : Int} (hret : ∀ (t : Tok) (h' : Heap) (tk' : Nat), s.heap.StaysIn h' → Q (.int x t) { s with heap := h', toks := tk' }) (e : y = x) (F : Fr s.heap L h' m) : Q (.int y t) { s with heap := h', toks := tk' } := by
  subst e; exact hret t h' tk' F.keep
theorem pc_retS {x y : Str} (hret : ∀ (t : Tok) (h' : Heap) (tk' : Nat), s.heap.StaysIn h' → Q (.str x t) { s with heap := h', toks := tk' }) (e : y = x) (F : Fr s.heap L h' m) : Q (.str y t) { s with heap := h', toks := tk' } := by
  subst e; exact hret t h' tk' F.keep
theorem pc_retB {x y : Bool} (hret : ∀ (t : Tok) (h' : Heap) (tk' : Nat), s.heap.StaysIn h' → Q (.bool x) { s with heap := h', toks := tk' }) (e : y = x) (F : Fr s.heap L h' m) : Q (.bool y) { s with heap := h', toks := tk' } := by
  subst e; exact hret 0 h' tk' F.keep
end
def uncL (c : Nat) : List Nat := (if c / 128 % 2 = 1 then [33] else []) ++ (if c = 127 then [94, 63] else if 32 ≤ c % 128 ∧ c % 128 ≤ 126 then [c % 128] else if c % 128 = 127 then [94, 159] else [94, c % 128 + 64])
def prB (c : Nat) : Bool := decide (32 ≤ c ∧ c ≤ 126)
def altN (c : Nat) : Nat := if c / 128 % 2 = 1 then c else c + 128
end
section
open PySem PySem.W PyProof.Rows
set_option Elab.async false
theorem hi_1 {c : Nat} (h : (c : Int) / 128 % 2 = 1) : (if c / 128 % 2 = 1 then [33] else []) = [33] := if_pos (by omega)
theorem hi_0 {c : Nat} (h : (c : Int) / 128 % 2 = 0) : (if c / 128 % 2 = 1 then [33] else ([] : List Nat)) = [] := if_neg (by omega)
def loU (c : Nat) : List Nat := if c = 127 then [94, 63] else if 32 ≤ c % 128 ∧ c % 128 ≤ 126 then [c % 128] else if c % 128 = 127 then [94, 159] else [94, c % 128 + 64]
theorem unc_lo (c : Nat) : uncL c = (if c / 128 % 2 = 1 then [33] else []) ++ loU c := rfl
theorem lo_a {c : Nat} (h : (c : Int) = 127) : loU c = [94, 63] := if_pos (by omega)
theorem lo_b {c : Nat} (h : 32 ≤ (c : Int) % 128 ∧ (c : Int) % 128 ≤ 126) : loU c = [((c : Int) % 128).toNat] := by
  unfold loU
  rw [if_neg (by omega), if_pos (by omega)]; rfl
theorem lo_c {c : Nat} (h : ¬ (c : Int) = 127) (h1 : ¬ (32 ≤ (c : Int) % 128 ∧ (c : Int) % 128 ≤ 126)) (h2 : (c : Int) % 128 / 32 % 2 = 1) : loU c = [94, ((c : Int) % 128 + 32).toNat] := by
  have e : c % 128 = 127 := by omega
  have e2 : ((c : Int) % 128 + 32).toNat = 159 := by omega
  unfold loU
  rw [if_neg (by omega), e, e2]; rfl
theorem lo_d {c : Nat} (h : ¬ (c : Int) = 127) (h1 : ¬ (32 ≤ (c : Int) % 128 ∧ (c : Int) % 128 ≤ 126)) (h2 : (c : Int) % 128 / 32 % 2 = 0) : loU c = [94, ((c : Int) % 128 + 32 + 32).toNat] := by
  have e : c % 128 < 32 := by omega
  have e2 : ((c : Int) % 128 + 32 + 32).toNat = c % 128 + 64 := by omega
  unfold loU
  rw [e2, if_neg (by omega), if_neg (by omega), if_neg (by omega)]
theorem u_1 {c : Nat} {x : List Nat} (h : (c : Int) / 128 % 2 = 1) (e : loU c = x) : S ([33] ++ x) = S (uncL c) := by rw [unc_lo, hi_1 h, e]
theorem u_0 {c : Nat} {x : List Nat} (h : (c : Int) / 128 % 2 = 0) (e : loU c = x) : S x = S (uncL c) := by rw [unc_lo, hi_0 h, e]; rfl
end
section
open PySem PySem.W PyProof.Rows
set_option Elab.async false
set_option maxRecDepth 100000
theorem paired_all {α β : Type} {G : α → β → Prop} : ∀ {a : List α} {b : List β}, Paired G a b → a.length = b.length ∧ ∀ (i : Nat) (x : α) (y : β), a[i]? = some x → b[i]? = some y → G x y
  | _, _, .nil => ⟨rfl, fun i x y h => by simp at h⟩
  | _, _, .cons h t => by
    obtain ⟨e, r⟩ := paired_all t
    refine ⟨by simp [e], fun i x y hx hy => ?_⟩
    cases i with
    | zero => simp at hx hy; subst hx hy; exact h
    | succ i => exact r i x y (by simpa using hx) (by simpa using hy)
section
variable {prog : Program} {w : World} {A : Around} {E : Value → Shared → Prop} {s : Shared} {env : Env} {h₀ : Heap} {L : Addr} {m : Str → Option Value} {news : List (Addr × Obj)} {elt iter : Expr} {x : Str} {px : Pos} {scope : Scope} {pos : Pos} {Q : Value → Shared → Prop}
/-- a list comprehension over the signs of a text, without a test -/
theorem comp_str {l : List Nat} {t : Tok} (R : Nat → Value → Prop) (F : Fr h₀ L s.heap m) (N : News h₀ L s.heap news) (hh : A.handled = none)
    (hfree : ∀ y ∈ scope.names, y.2 ≠ .free) (hcell : ∀ y ∈ scope.names, y.2 ≠ .cell) (hkind : scope.kind = .function)
    (hnames : ∀ y ∈ scope.names, y.2 = .local → scope.names.lookup y.1 = some .local) (hx : scope.names.lookup x = some .local)
    (hit : ∀ Q' : Value → Shared → Prop, Q' (.str (S l) t) s → wpAny (model prog w) A (eval iter env) Q' E s) (hl : l.length ≤ sizeLine)
    (helt : ∀ C c u s₃ m₃ E', c ∈ l → s₃.heap.Ns C m₃ → m₃ x = some (.str (S [c]) u) → (∀ b o, s.heap.get? b = some o → s₃.heap.get? b = some o) →
      wpAny (model prog w) A (eval elt (compEnv scope C env)) (fun y s₄ => R c y ∧ Keeps s₃ s₄) E' s₃)
    (h : ∀ (D : Addr) (ys : List Value) (k : Nat) (h' : Heap) (tk : Nat), Fr h₀ L h' m → News h₀ L h' ((D, listOf ys.toArray k) :: news) → ys.length = l.length → (∀ (i : Nat) (c : Nat) (y : Value), l[i]? = some c → ys[i]? = some y → R c y) → Q (.ref D) { s with heap := h', toks := tk })
    (hs : ∀ x, foldedSetIterable iter env x = pure x := by intro _; rfl) :
    wpAny (model prog w) A (eval (.ListComp elt [⟨.Name x px, iter, [], 0⟩] scope pos) env) Q E s := by
  refine wpAny_ListComp_walk (fun _ => true) (fun v y => ∃ c u, c ∈ l ∧ v = .str (S [c]) u ∧ R c y) hfree hcell hkind hnames hx (hit _ ?_) hs
  refine wpAny_pyIter_str fun o St W st => ?_
  refine ⟨_, _, _, _, _, _, rfl, W A hh, by simpa using hl, st, fun b hb => ?_, ⟨?_, ?_⟩, ?_⟩
  · rw [List.mem_singleton.mp hb, Heap.size_push]; exact Nat.lt_succ_self _
  · intro C i v s₃ m₃ E' _ _ _ _ _
    exact wpAny_pure ⟨rfl, s₃.heap, s₃.toks, rfl, fun _ _ e => e⟩
  · rintro C i v s₃ m₃ E' ⟨c, u, hc, rfl⟩ _ hn hx' hk _
    have hm : c ∈ l := by
      have : (S l).cps[i]? = some c := hc
      simp at this
      exact List.mem_of_getElem? this
    refine wpAny_mono (helt C c u s₃ m₃ E' hm hn hx' fun b o e => hk b o (fun q => ?_) (Heap.get?_push_of_some _ e)) (fun y s₄ z => ⟨⟨c, u, hm, rfl, z.1⟩, z.2⟩) fun _ _ e => e
    rw [List.mem_singleton.mp q] at e
    exact absurd (Heap.lt_size e) (Nat.lt_irrefl _)
  · intro D h' tk ys vs hD _ hp hlen hP hF hk
    obtain ⟨k, hD'⟩ := hp
    rw [List.filter_eq_self.mpr (by simp)] at hF
    obtain ⟨e1, e2⟩ := paired_all hF
    have st' : ∀ b o, s.heap.get? b = some o → h'.get? b = some o := fun b o e => hk b o (fun q => by
      rw [List.mem_singleton.mp q] at e; exact absurd (Heap.lt_size e) (Nat.lt_irrefl _)) (Heap.get?_push_of_some _ e)
    have nD : ∀ b o, s.heap.get? b = some o → b ≠ D := fun b o e q => by
      rw [q] at e; rw [Heap.get?_push_of_some _ e] at hD; cases hD
    refine h D ys.toList k h' tk ⟨F.ns.keeps st', fun b o e => st' b o (F.keep b o e), F.above⟩ (fun q hq => ?_) ?_ ?_
    · rcases List.mem_cons.mp hq with rfl | hq
      · refine ⟨by simpa using hD', fun e => ?_, ?_⟩
        · obtain ⟨oL, _, _, hL, _⟩ := F.ns
          exact nD _ _ hL (by simpa using e.symm)
        · cases q : h₀.get? D with
          | none => rfl
          | some o => exact absurd rfl (nD D o (F.keep D o q))
      · exact ⟨st' _ _ (N q hq).1, (N q hq).2⟩
    · rw [← e1, hlen]; simp
    · intro i c y hc hy
      have hv : i < vs.length := by
        rw [e1]; exact (List.getElem?_eq_some_iff.mp hy).1
      obtain ⟨c', u', hc', he⟩ := hP i vs[i] (by simp [hv])
      have hc'' : l[i]? = some c' := by simpa using hc'
      rw [hc] at hc''
      cases hc''
      obtain ⟨c2, u2, _, he2, hr⟩ := e2 i vs[i] y (by simp [hv]) hy
      rw [he] at he2
      have : c = c2 := by
        have := (Value.str.inj he2).1
        simpa using this
      rw [this]; exact hr
end
section
variable {prog : Program} {w : World} {A : Around} {E : Value → Shared → Prop} {s : Shared} {env : Env} {K : Frag} {h : Heap} {p : Program} {loose : List Str} {mean : ExcName → Option Value} {mg mb : Str → Option Value} {scope : Scope} {C : Addr} {m₃ : Str → Option Value} {f x : Str} {pf px pos : Pos} {v : Value} {Q : Value → Shared → Prop}
/-- a built-in called with the comprehension's own name -/
theorem elt_b1 {id : String} (X : K.In h) (T : Top p loose mean mg mb h) (st : h.StaysIn s.heap) (e : nsIn K mainGlobals f = some none) (hv : bootBuiltins f = some (.builtin id)) (hnm : f ≠ "__name__")
    (hg : env.globals = mainGlobals) (hb : env.builtins = builtinsNs) (hk : scope.kind = .function) (hf : (compEnv scope C env).kindOf f = some .globalImplicit) (hx : (compEnv scope C env).kindOf x = some .local)
    (hn : s.heap.Ns C m₃) (hm : m₃ x = some v) (h1 : wpAny (model prog w) A (call (.builtin id) [v]) Q E s)
    (hd : (f == ("__debug__" : Str)) = false := by decide) (hd' : (x == ("__debug__" : Str)) = false := by decide) :
    wpAny (model prog w) A (eval (.Call (.Name f pf) [.Name x px] [] pos) (compEnv scope C env)) Q E s := by
  refine wpAny_Call_NameR (Calls.Name_function_global hk hf ?_ hd)
  refine Calls.loadGlobal_builtin (env := compEnv scope C env) (mg := mg) (mb := mb) ?_ (mg_none_of X T.g e) ?_ ((T.builtins f hnm).trans hv) ?_
  · show s.heap.Ns env.globals mg; rw [hg]; exact T.g.keeps st
  · show s.heap.Ns env.builtins mb; rw [hb]; exact T.b.keeps st
  refine PyProof.Rows.callWith_builtin1 ?_
  refine spliced_more ?_
  refine wpAny_Name (wpAny_loadName_local hk hx hn hm ?_) hd'
  exact spliced_none h1
/-- a def of the text called with the comprehension's own name -/
theorem elt_f1 {fa : Addr} (X : K.In h) (T : Top p loose mean mg mb h) (st : h.StaysIn s.heap) (e : nsIn K mainGlobals f = some (some (.ref fa))) (hkp : keepIn K (.ref fa) = true)
    (hg : env.globals = mainGlobals) (hk : scope.kind = .function) (hf : (compEnv scope C env).kindOf f = some .globalImplicit) (hx : (compEnv scope C env).kindOf x = some .local)
    (hn : s.heap.Ns C m₃) (hm : m₃ x = some v) (h1 : wpAny (model prog w) A (call (.ref fa) [v]) Q E s)
    (hd : (f == ("__debug__" : Str)) = false := by decide) (hd' : (x == ("__debug__" : Str)) = false := by decide) :
    wpAny (model prog w) A (eval (.Call (.Name f pf) [.Name x px] [] pos) (compEnv scope C env)) Q E s := by
  refine wpAny_Call_NameR (Calls.Name_function_global hk hf ?_ hd)
  refine Calls.loadGlobal_global (env := compEnv scope C env) (mg := mg) ?_ (mg_of X T.g e) ?_
  · show s.heap.Ns env.globals mg; rw [hg]; exact T.g.keeps st
  refine callWith_K X hkp ?_
  refine spliced_more ?_
  refine wpAny_Name (wpAny_loadName_local hk hx hn hm ?_) hd'
  exact spliced_none ⟨X.keeps st, h1⟩
end
end
section
open PySem PySem.W PyProof.Rows
set_option Elab.async false
set_option maxRecDepth 100000
section
variable {prog : Program} {w : World} {A : Around} {E : Value → Shared → Prop} {s : Shared} {env : Env} {h₀ : Heap} {L : Addr} {m : Str → Option Value} {news : List (Addr × Obj)} {elt iter : Expr} {x : Str} {px : Pos} {scope : Scope} {pos : Pos} {Q : Value → Shared → Prop}
/-- a list comprehension over a list of the ledger, without a test -/
theorem comp_list {ws : List Value} {D0 : Addr} {k0 : Nat} (R : Value → Value → Prop) (F : Fr h₀ L s.heap m) (N : News h₀ L s.heap news) (hD0 : (D0, listOf ws.toArray k0) ∈ news) (hh : A.handled = none)
    (hfree : ∀ y ∈ scope.names, y.2 ≠ .free) (hcell : ∀ y ∈ scope.names, y.2 ≠ .cell) (hkind : scope.kind = .function)
    (hnames : ∀ y ∈ scope.names, y.2 = .local → scope.names.lookup y.1 = some .local) (hx : scope.names.lookup x = some .local)
    (hit : ∀ Q' : Value → Shared → Prop, Q' (.ref D0) s → wpAny (model prog w) A (eval iter env) Q' E s) (hl : ws.length ≤ sizeLine)
    (helt : ∀ C v s₃ m₃ E', v ∈ ws → s₃.heap.Ns C m₃ → m₃ x = some v → (∀ b o, s.heap.get? b = some o → s₃.heap.get? b = some o) →
      wpAny (model prog w) A (eval elt (compEnv scope C env)) (fun y s₄ => R v y ∧ Keeps s₃ s₄) E' s₃)
    (h : ∀ (D : Addr) (ys : List Value) (k : Nat) (h' : Heap) (tk : Nat), Fr h₀ L h' m → News h₀ L h' ((D, listOf ys.toArray k) :: news) → ys.length = ws.length → (∀ (i : Nat) (v : Value) (y : Value), ws[i]? = some v → ys[i]? = some y → R v y) → Q (.ref D) { s with heap := h', toks := tk })
    (hs : ∀ x, foldedSetIterable iter env x = pure x := by intro _; rfl) :
    wpAny (model prog w) A (eval (.ListComp elt [⟨.Name x px, iter, [], 0⟩] scope pos) env) Q E s := by
  have hls : s.heap.IsList D0 ws.toArray := ⟨_, (N _ hD0).1, rfl, _, rfl⟩
  have hlt := Heap.lt_size (N _ hD0).1
  refine wpAny_ListComp_walk (fun _ => true) (fun v y => v ∈ ws ∧ R v y) hfree hcell hkind hnames hx (hit _ ?_) hs
  refine wpAny_pyIter_list hls ?_
  refine ⟨_, _, _, _, _, _, rfl, Walks.list hh s.heap.objs.size D0 (Nat.ne_of_lt hlt) ws.toArray, by simpa using hl, ⟨⟨_, Heap.get?_push_size _ rfl, rfl, rfl⟩, hls.at fun o e => Heap.get?_push_of_some _ e⟩, fun b hb => ?_, ⟨?_, ?_⟩, ?_⟩
  · rw [Heap.size_push]
    rcases List.mem_cons.mp hb with rfl | hb
    · exact Nat.lt_succ_self _
    · rw [List.mem_singleton.mp hb]; exact Nat.lt_succ_of_lt hlt
  · intro C i v s₃ m₃ E' _ _ _ _ _
    exact wpAny_pure ⟨rfl, s₃.heap, s₃.toks, rfl, fun _ _ e => e⟩
  · intro C i v s₃ m₃ E' hc _ hn hx' hk _
    have hm : v ∈ ws := by
      have : ws[i]? = some v := by simpa using hc
      exact List.mem_of_getElem? this
    refine wpAny_mono (helt C v s₃ m₃ E' hm hn hx' fun b o e => hk b o (fun q => ?_) (Heap.get?_push_of_some _ e)) (fun y s₄ z => ⟨⟨hm, z.1⟩, z.2⟩) fun _ _ e => e
    rw [List.mem_singleton.mp q] at e
    exact absurd (Heap.lt_size e) (Nat.lt_irrefl _)
  · intro D h' tk ys vs hD _ hp hlen hP hF hk
    obtain ⟨k, hD'⟩ := hp
    rw [List.filter_eq_self.mpr (by simp)] at hF
    obtain ⟨e1, e2⟩ := paired_all hF
    have st' : ∀ b o, s.heap.get? b = some o → h'.get? b = some o := fun b o e => hk b o (fun q => by
      rw [List.mem_singleton.mp q] at e; exact absurd (Heap.lt_size e) (Nat.lt_irrefl _)) (Heap.get?_push_of_some _ e)
    have nD : ∀ b o, s.heap.get? b = some o → b ≠ D := fun b o e q => by
      rw [q] at e; rw [Heap.get?_push_of_some _ e] at hD; cases hD
    refine h D ys.toList k h' tk ⟨F.ns.keeps st', fun b o e => st' b o (F.keep b o e), F.above⟩ (fun q hq => ?_) ?_ ?_
    · rcases List.mem_cons.mp hq with rfl | hq
      · refine ⟨by simpa using hD', fun e => ?_, ?_⟩
        · obtain ⟨oL, _, _, hL, _⟩ := F.ns
          exact nD _ _ hL (by simpa using e.symm)
        · cases q : h₀.get? D with
          | none => rfl
          | some o => exact absurd rfl (nD D o (F.keep D o q))
      · exact ⟨st' _ _ (N q hq).1, (N q hq).2⟩
    · rw [← e1, hlen]; simp
    · intro i v y hv hy
      have hv' : i < vs.length := by
        rw [e1]; exact (List.getElem?_eq_some_iff.mp hy).1
      have hc' := hP i vs[i] (by simp [hv'])
      have hc'' : ws[i]? = some vs[i] := by simpa using hc'
      rw [hv] at hc''
      obtain ⟨_, hr⟩ := e2 i vs[i] y (by simp [hv']) hy
      rw [Option.some.inj hc'']; exact hr
end
end
section
open PySem PySem.W PyProof.Rows PySem.Builtin PySem.Builtin.ObjectAttr
set_option Elab.async false
set_option maxRecDepth 100000
theorem strs_of : ∀ (ls : List (List Nat)) (ys : List Value), ys.length = ls.length → (∀ (i : Nat) (l : List Nat) (y : Value), ls[i]? = some l → ys[i]? = some y → ∃ t, y = .str (S l) t) → ∃ q : List (Str × Tok), ys = strValues q ∧ q.map (·.1) = ls.map S
  | [], [], _, _ => ⟨[], rfl, rfl⟩
  | [], _ :: _, h, _ => by cases h
  | _ :: _, [], h, _ => by cases h
  | l :: ls, y :: ys, h, h2 => by
    obtain ⟨t, rfl⟩ := h2 0 l y rfl rfl
    obtain ⟨q, rfl, e⟩ := strs_of ls ys (by simpa using h) fun i l' y' a b => h2 (i + 1) l' y' (by simpa using a) (by simpa using b)
    exact ⟨(S l, t) :: q, rfl, by simp [e]⟩
theorem join_S : ∀ (ls : List (List Nat)), Txt.join (S []) (ls.map S) = S ls.flatten := fun ls => by
  rw [eq_of_beq (join_plain_closes (S []) (ls.map S))]
  induction ls with
  | nil => rfl
  | cons l ls ih =>
    show Str.join ⟨#[]⟩ (S l :: ls.map S) = _
    rw [join_nil_cons, show Str.join ⟨#[]⟩ (ls.map S) = S ls.flatten from ih, S_app, List.flatten_cons]
section
variable {prog : Program} {w : World} {A : Around} {E : Value → Shared → Prop} {s : Shared} {h₀ : Heap} {L D : Addr} {news : List (Addr × Obj)} {Q : Value → Shared → Prop} {t : Tok}
theorem r_join {k : Nat} {ys : List Value} (ls : List (List Nat)) (N : News h₀ L s.heap news) (hm : (D, listOf ys.toArray k) ∈ news) (hlen : ys.length = ls.length) (hys : ∀ (i : Nat) (l : List Nat) (y : Value), ls[i]? = some l → ys[i]? = some y → ∃ t, y = .str (S l) t)
    (hsz : ls.flatten.length + ls.length ≤ 1000) (h : ∀ t' k, Q (.str (S ls.flatten) t') { s with toks := k }) : wpAny (model prog w) A (call (.builtin "str.join") [.str (S []) t, .ref D]) Q E s := by
  obtain ⟨q, rfl, e⟩ := strs_of ls ys hlen hys
  refine SC.join (l := q) (texts := ls.map S) ⟨_, (N _ hm).1, rfl, _, rfl⟩ e (joinOk_of_weight ?_ (by decide)) (fun t' k => by rw [join_S]; exact h t' k)
  have : ((ls.map S).map (·.length)).sum = ls.flatten.length := by
    rw [List.length_flatten, List.map_map]
    congr 1
  rw [this, List.length_map]
  omega
theorem r_modP {a b : Int} {u : Tok} (hb : 0 < b) (h : ∀ r : Nat, (r : Int) < b → a % b = (r : Int) → Q (.int (r : Int) s.toks) { s with toks := s.toks + 1 }) : wpAny (model prog w) A (binaryOp .Mod (.int a t) (.int b u)) Q E s := by
  have h0 := Int.emod_nonneg a (show b ≠ 0 by omega)
  have h1 := Int.emod_lt_of_pos a hb
  obtain ⟨r, hr⟩ := Int.eq_ofNat_of_zero_le h0
  refine mod_int' (by omega) ?_
  rw [Int.fmod_eq_emod_of_nonneg a (by omega), hr]
  exact h r (by omega) hr
end
end
section
open PySem PySem.W PyProof.Rows
set_option Elab.async false
set_option maxRecDepth 100000
section
variable {M : Model} {A : Around} {E : Value → Shared → Prop} {s : Shared} {name qual : Str} {params : Arguments} {body : FuncBody} {scope : Scope} {env : Env} {c P : Addr} {ps : Array Value} {pos : Pos} {firstLine : Nat} {mg : Str → Option Value}
  {clos : List (Str × Addr)} {dV : Value} {Q : Value → Shared → Prop}
/-- the end of a def or a lambda: the code record is found in the table of the enclosing code, or made and laid there -/
theorem fn_tail (hcl : closureFor scope env = pure clos) (hge0 : env.globals = mainGlobals) (hg : s.heap.Ns mainGlobals mg) (hcode : env.code = .ref c) (C : CodeHd s.heap c P) (hP : s.heap.get? P = some (tabObj ps)) (ht : TriplesOk ps.toList)
    (hgP : mainGlobals ≠ P) (hb : s.heap.BuiltinsAt mg P)
    (hnew : codeAmong pos ps.toList = none → ∀ c' P' ctv doc h' tk, Heap.ExtBut P s.heap h' → s.heap.objs.size ≤ h'.objs.size → s.heap.objs.size ≤ c' → s.heap.objs.size ≤ P' → h'.CodeRec (.ref c') qual → CodeHd h' c' P' → h'.get? P' = some (tabObj #[]) →
      h'.get? P = some (tabObj (ps ++ #[rawInt pos.line, rawInt pos.col, .ref c'])) →
      Q (.ref h'.objs.size) { s with heap := h'.push (kdv_obj name qual params body scope clos dV doc ((mg "__name__").getD .none) c' ctv), toks := tk })
    (hold : ∀ c', codeAmong pos ps.toList = some (.ref c') → ∀ (ctv doc : Value) (h' : Heap) (tk : Tok), (∀ b o, s.heap.get? b = some o → h'.get? b = some o) → s.heap.objs.size ≤ h'.objs.size →
      Q (.ref h'.objs.size) { s with heap := h'.push (kdv_obj name qual params body scope clos dV doc ((mg "__name__").getD .none) c' ctv), toks := tk })
    (href : ∀ v, codeAmong pos ps.toList = some v → ∃ c', v = .ref c') :
    wpAny M A (makeTail name qual params body scope env dV .none none pos firstLine) Q E s := by
  cases hf : codeAmong pos ps.toList with
  | some v =>
    obtain ⟨c', rfl⟩ := href v hf
    exact kdv_makeTailHit hcl hge0 hg hcode C hP ht hf hb (hold c' hf)
  | none =>
    obtain ⟨bm, ob, q1, q2, _, q4, q5, q6, q7, q8⟩ := hb
    unfold makeTail
    rw [hcl, hge0]
    refine wpAny_bind (wpAny_pure ?_)
    -- from the code record on, at any heap that has grown
    have rest : ∀ (ctv : Value) (c' P' : Addr) (h' : Heap) (tk : Nat), Heap.ExtBut P s.heap h' → s.heap.objs.size ≤ h'.objs.size → s.heap.objs.size ≤ c' → s.heap.objs.size ≤ P' → h'.CodeRec (.ref c') qual → CodeHd h' c' P' → h'.get? P' = some (tabObj #[]) →
        h'.get? P = some (tabObj (ps ++ #[rawInt pos.line, rawInt pos.col, .ref c'])) →
        ∀ (doc : Value) (tk' : Nat), Q (.ref h'.objs.size) { s with heap := h'.push (kdv_obj name qual params body scope clos dV doc ((mg "__name__").getD .none) c' ctv), toks := tk' } :=
      fun ctv c' P' h' _ a b d e f g i j doc tk' => hnew hf c' P' ctv doc h' tk' a b d e f g i j
    by_cases hz : clos.isEmpty = true
    · rw [if_pos hz]
      refine wpAny_bind (wpAny_pure ?_)
      refine wpAny_bind (wpAny_functionCodeX hcode (C.code hP ht) (C.tab hP) hf fun c' h' tk hx hge hlt _ hrec htb hn => ?_)
      obtain ⟨P', hP', hI, hT⟩ := hn
      have R := rest .none c' P' h' tk hx (Nat.le_trans hge (Nat.le_of_lt hlt)) hge hP' hrec (CodeHd.of hI hT) hT.2 htb.2
      have hg' := hg.extBut hx hgP
      refine wpAny_bind (wpAny_builtinsFor hg' q1 q2 (hx _ _ q4 q5) q6 q7 q8 (wpAny_bind (wpAny_nsGet hg' ?_)))
      cases body with
      | expr e => exact wpAny_bind (wpAny_pure (wpAny_newObj_type (R .none tk) (by size_fits)))
      | stmts b =>
        cases hd : docOf b with
        | none => exact wpAny_bind (by simp only [hd]; exact wpAny_pure (wpAny_newObj_type (R .none tk) (by size_fits)))
        | some x => exact wpAny_bind (by simp only [hd]; exact wpAny_mkText (wpAny_newObj_type (R _ _) (by size_fits)))
    · rw [if_neg hz]
      refine wpAny_bind (wpAny_newTextTuple ?_)
      have up : ∀ (o : Obj) b x, s.heap.get? b = some x → (s.heap.push o).get? b = some x := fun o b x e => Heap.get?_push_of_some o e
      refine wpAny_bind (wpAny_functionCodeX hcode ((C.keeps (up _)).code (up _ _ _ hP) ht) ((C.keeps (up _)).tab (up _ _ _ hP)) hf fun c' h' tk hx hge hlt _ hrec htb hn => ?_)
      obtain ⟨P', hP', hI, hT⟩ := hn
      have hx' : Heap.ExtBut P s.heap h' := fun b o hb' e => hx b o hb' (up _ _ _ e)
      have hge' : s.heap.objs.size ≤ c' := Nat.le_trans (by rw [Heap.size_push]; exact Nat.le_succ _) hge
      have hP'' : s.heap.objs.size ≤ P' := Nat.le_trans (by rw [Heap.size_push]; exact Nat.le_succ _) hP'
      have R := fun ctv => rest ctv c' P' h' tk hx' (Nat.le_trans hge' (Nat.le_of_lt hlt)) hge' hP'' hrec (CodeHd.of hI hT) hT.2 htb.2
      have hg' := hg.extBut hx' hgP
      refine wpAny_bind (wpAny_builtinsFor hg' q1 q2 (hx' _ _ q4 q5) q6 q7 q8 (wpAny_bind (wpAny_nsGet hg' ?_)))
      cases body with
      | expr e => exact wpAny_bind (wpAny_pure (wpAny_newObj_type (R _ .none tk) (by size_fits)))
      | stmts b =>
        cases hd : docOf b with
        | none => exact wpAny_bind (by simp only [hd]; exact wpAny_pure (wpAny_newObj_type (R _ .none tk) (by size_fits)))
        | some x => exact wpAny_bind (by simp only [hd]; exact wpAny_mkText (wpAny_newObj_type (R _ _ _) (by size_fits)))
end
end
section
open PySem PySem.W PyProof.Rows
set_option Elab.async false
set_option maxRecDepth 100000
theorem cellsFrom_app : ∀ (names : List (Str × NameKind)) (n : Nat) (acc : List (Str × Addr)), cellsFrom n names acc = cellsFrom n names [] ++ acc
  | [], _, _ => rfl
  | (x, k) :: r, n, acc => by
    unfold cellsFrom
    split
    · rw [cellsFrom_app r (n + 1) ((x, n) :: acc), cellsFrom_app r (n + 1) [(x, n)], List.append_assoc]; rfl
    · exact cellsFrom_app r n acc
theorem lookup_app {cs clos : List (Str × Addr)} {n : Str} {c : Addr} (h : cs.lookup n = some c) : (cs ++ clos).lookup n = some c := by
  rw [List.lookup_append, h]; rfl
section
variable {M : Model} {A : Around} {E : Value → Shared → Prop} {s₀ s : Shared} {m cm : Str → Option Value} {env : Env} {cs clos : List (Str × Addr)}
theorem st_own {n : Str} {v : Value} {Q : Unit → Shared → Prop} (x : InCallC s₀ env.locals m cs cm s) (hk : env.scope.kind = .function) (hl : env.kindOf n = some .local)
    (h : ∀ s', InCallC s₀ env.locals (fun y => if y = n then some v else m y) cs cm s' → Q () s') : wpAny M A (storeName env n v) Q E s := by
  refine wpAny_storeName_local hl x.toInCall.ns (fun h' hn' hs' => h _ ⟨⟨?_, hn', fun b o e => ?_, x.toInCall.fresh⟩, fun k c hc => ?_, x.apart, x.above⟩) (by rw [hk]; rfl)
  · obtain ⟨h₁, tk, rfl⟩ := x.toInCall.same
    exact ⟨h', _, rfl⟩
  · exact hs'.extBut b o (Nat.ne_of_lt (Nat.lt_of_lt_of_le (Heap.lt_size e) x.toInCall.fresh)) (x.toInCall.keep b o e)
  · exact (x.cell k c hc).sameBut hs' (Nat.ne_of_gt (x.above k c (mem_of_lookup hc)))
theorem st_cell {n : Str} {c : Addr} {v : Value} {Q : Unit → Shared → Prop} (x : InCallC s₀ env.locals m cs cm s) (hk : env.scope.kind = .function) (hl : env.kindOf n = some .cell)
    (he : env.cells = cs ++ clos) (hc : cs.lookup n = some c)
    (h : ∀ s', InCallC s₀ env.locals m cs (fun y => if y = n then some v else cm y) s' → Q () s') : wpAny M A (storeName env n v) Q E s := by
  have hLc := x.above n c (mem_of_lookup hc)
  refine wpAny_storeName_cell hk hl (by rw [he]; exact lookup_app hc) (x.cell n c hc) fun h' hc' hs' => h _ ⟨⟨?_, x.toInCall.ns.sameBut hs' (Nat.ne_of_lt hLc), fun b o e => ?_, x.toInCall.fresh⟩, fun k c' hk' => ?_, x.apart, x.above⟩
  · obtain ⟨h₁, tk, rfl⟩ := x.toInCall.same
    exact ⟨h', _, rfl⟩
  · exact hs'.extBut b o (Nat.ne_of_lt (Nat.lt_trans (Nat.lt_of_lt_of_le (Heap.lt_size e) x.toInCall.fresh) hLc)) (x.toInCall.keep b o e)
  · by_cases hkn : k = n
    · subst hkn
      rw [hc] at hk'; cases hk'
      simpa using hc'
    · rw [if_neg hkn]
      exact (x.cell k c' hk').sameBut hs' fun e => hkn (name_of_addr x.apart (mem_of_lookup hk') (e ▸ mem_of_lookup hc))
theorem bind_own (f : Str × Value → PUnit → Sem (ForInStep PUnit)) (hf : ∀ n v u, f (n, v) u = (do storeName env n v; pure (.yield ⟨⟩))) (hk : env.scope.kind = .function) (he : env.cells = cs ++ clos) :
    ∀ (binds : List (Str × Value)) (m cm : Str → Option Value) (s : Shared) (Q : PUnit → Shared → Prop), InCallC s₀ env.locals m cs cm s →
      (∀ x ∈ binds, env.kindOf x.1 = some .local ∨ (env.kindOf x.1 = some .cell ∧ (cs.lookup x.1).isSome = true)) →
      (∀ s', InCallC s₀ env.locals (bindL env.kindOf binds m) cs (bindC env.kindOf binds cm) s' → Q ⟨⟩ s') → wpAny M A (forIn binds ⟨⟩ f) Q E s
  | [], m, cm, s, Q, x, _, h => by rw [List.forIn_nil]; exact wpAny_pure (h s x)
  | (n, v) :: r, m, cm, s, Q, x, hkind, h => by
    rw [List.forIn_cons, hf]
    have hr : ∀ y ∈ r, env.kindOf y.1 = some .local ∨ (env.kindOf y.1 = some .cell ∧ (cs.lookup y.1).isSome = true) := fun y hy => hkind y (List.mem_cons_of_mem _ hy)
    rcases hkind (n, v) List.mem_cons_self with hl | ⟨hl, hc⟩
    · refine wpAny_bind (wpAny_bind (st_own x hk hl fun s' x' => wpAny_pure (bind_own f hf hk he r _ _ s' Q x' hr fun s'' x'' => h s'' ?_)))
      unfold bindL bindC; rw [if_pos hl, if_pos hl]; exact x''
    · obtain ⟨c, hc⟩ := Option.isSome_iff_exists.mp hc
      have hnl : ¬ env.kindOf n = some .local := by rw [hl]; decide
      refine wpAny_bind (wpAny_bind (st_cell x hk hl he hc fun s' x' => wpAny_pure (bind_own f hf hk he r _ _ s' Q x' hr fun s'' x'' => h s'' ?_)))
      unfold bindL bindC; rw [if_neg hnl, if_neg hnl]; exact x''
end
section
variable {M : Model} {A : Around} {E : Value → Shared → Prop} {s : Shared}
/-- a frame with cells of its own and cells of those around it -/
theorem env_own {scope : Scope} {globals : Addr} {clos : List (Str × Addr)} {binds : List (Str × Value)} {qual : Str} {func : Option Addr} {code : Value} {builtins : Addr} {Q : Env → Shared → Prop}
    (hk : scope.kind = .function)
    (hkind : ∀ x ∈ binds, scope.names.lookup x.1 = some .local ∨ (scope.names.lookup x.1 = some .cell ∧ ((cellsFrom (s.heap.objs.size + 1) scope.names []).lookup x.1).isSome = true))
    (hQ : ∀ env, env = newEnv scope s.heap.objs.size globals (cellsFrom (s.heap.objs.size + 1) scope.names [] ++ clos) qual func code none builtins →
      ∀ s', InCallC s env.locals (bindL env.kindOf binds fun _ => none) (cellsFrom (s.heap.objs.size + 1) scope.names []) (bindC env.kindOf binds fun _ => none) s' → Q env s') :
    wpAny M A (newFunctionEnv scope globals clos binds qual func code none builtins) Q E s := by
  simp only [newFunctionEnv, Option.isSome_none, Bool.false_eq_true, if_false]
  refine wpAny_bind (wpAny_alloc ?_)
  refine wpAny_bind (wpAny_layCells _ (fun name kind cells => by cases hkc : kind == NameKind.cell <;> simp [hkc]) _ _ _ _ ?_)
  have ok := cellsFrom_ok scope.names (s.heap.push { cls := .type "frame", data := .dict #[] }) (s.heap.objs.size + 1) [] ⟨fun _ _ hm => (nomatch hm), List.Pairwise.nil⟩ (by rw [Heap.size_push]; exact Nat.le_refl _)
  rw [Heap.size_push] at ok
  rw [show ({ s with heap := s.heap.push { cls := .type "frame", data := .dict #[] } } : Shared).heap.objs.size = s.heap.objs.size + 1 from Heap.size_push .., cellsFrom_app]
  refine wpAny_bind (bind_own (s₀ := s) (env := newEnv scope s.heap.objs.size globals (cellsFrom (s.heap.objs.size + 1) scope.names [] ++ clos) qual func code none builtins) (cs := cellsFrom (s.heap.objs.size + 1) scope.names []) (clos := clos)
    _ (fun _ _ _ => rfl) hk rfl binds (fun _ => none) (fun _ => none) _ _
    ⟨⟨⟨_, _, rfl⟩, (Heap.Ns.new s.heap (.type "frame")).keeps (pushCells_keeps _ _), fun b o e => pushCells_keeps _ _ b o (Heap.get?_push_of_some _ e), Nat.le_refl _⟩,
      fun n c hc => (ok.empty n c (mem_of_lookup hc)).1, ok.apart, fun n c hm => (ok.empty n c hm).2⟩
    hkind fun s' x => wpAny_pure (hQ _ rfl s' x))
end
end
section
open PySem PySem.W PyProof.Rows
set_option Elab.async false
set_option maxRecDepth 100000
section
variable {prog : Program} {w : World} {A : Around} {E : Value → Shared → Prop} {Q : Flow → Shared → Prop} {s : Shared} {env : Env} {h₀ : Heap} {L : Addr}
/-- what a turn of a loop ends in -/
def TurnEnd (h₀ : Heap) (L : Addr) (s : Shared) (it : Addr) (o : Obj) (J : (Str → Option Value) → List (Addr × Obj) → Prop) (Q : Flow → Shared → Prop) (f : Flow) (s₃ : Shared) : Prop :=
  match f with
  | .next | .cont => ∃ h' tk' m' nx', s₃ = { s with heap := h', toks := tk' } ∧ Fr h₀ L h' m' ∧ News h₀ L h' ((it, o) :: nx') ∧ J m' nx'
  | .brk => Q .next s₃
  | .ret v => Q (.ret v) s₃
theorem for_range {target : Expr} {r : Addr} {a b : Int} {t u v : Tok} {n : Nat} {body : List Stmt} {m₀ : Str → Option Value} {news₀ : List (Addr × Obj)} (J : Nat → (Str → Option Value) → List (Addr × Obj) → Prop)
    (hh : A.handled = none) (F : Fr h₀ L s.heap m₀) (N : News h₀ L s.heap news₀) (hr : IsRange s.heap r a b 1 t u v) (hsmall : Builtin.Range.small a b 1 = true) (hn : Builtin.Range.rangeSize a b 1 = (n : Int)) (hJ0 : J 0 m₀ news₀)
    (hadr : ∀ i m nx, J i m nx → nx.map (·.1) = news₀.map (·.1))
    (turn : ∀ i m nx h tk o tx, i < n → J i m nx → Fr h₀ L h m → News h₀ L h ((s.heap.objs.size, o) :: nx) →
      wpAny (model prog w) A (assign target env (.int (a + (i : Int)) tx)) (fun _ s₂ => wpAny (model prog w) A (execs body env) (TurnEnd h₀ L s s.heap.objs.size o (J (i + 1)) Q) E s₂) E { s with heap := h, toks := tk })
    (done : ∀ m nx h tk, J n m nx → Fr h₀ L h m → News h₀ L h nx → Q .next { s with heap := h, toks := tk })
    (hE : PassesOwn (model prog w) A env E) (ht : ∀ it v, letOwnedTupleGo target it v = pure () := by intro _ _; rfl) :
    wpAny (model prog w) A (pyIter (.ref r)) (fun it s₂ => codeAny (model prog w) A (.forLoop target it body [] env) (fun r s' => match r with | .ok f => Q f s' | .error e => cameBackBy (model prog w) A env E e s') s₂) E s := by
  refine wpAny_pyIter_range hr hsmall ?_
  rw [hn]
  generalize hit : s.heap.objs.size = it at *
  have W := Walks.range (prog := prog) (w := w) (A := A) hh it a 1 n
  have hLt : L < it := hit ▸ F.ns.lt
  have n0 : ∀ p ∈ news₀, p.1 ≠ it := fun p hp => Nat.ne_of_lt (hit ▸ Heap.lt_size (N p hp).1)
  have off : ∀ {i m nx}, J i m nx → ∀ p ∈ nx, p.1 ≠ it := fun {i m nx} hJ p hp => by
    have h1 : p.1 ∈ nx.map (·.1) := List.mem_map_of_mem hp
    rw [hadr i m nx hJ] at h1
    obtain ⟨q, hq, e⟩ := List.mem_map.mp h1
    rw [← e]; exact n0 q hq
  have base : ∀ b o, h₀.get? b = some o → b ≠ it := fun b o e => Nat.ne_of_lt (hit ▸ Heap.lt_size (F.keep b o e))
  have itN : h₀.get? it = none := by
    cases q : h₀.get? it with
    | none => rfl
    | some o => exact absurd rfl (base it o q)
  refine codeAny_forLoop (fun k s' => ∃ i h tk m nx, s' = { s with heap := h, toks := tk } ∧ i ≤ n ∧ k = n + 1 - i ∧ IsRangeIter h it (a + (i : Nat) * 1) ((n : Int) - (i : Nat)) 1 ∧ Fr h₀ L h m ∧ News h₀ L h nx ∧ J i m nx) ?_ (n + 1)
    ⟨0, _, _, m₀, news₀, rfl, Nat.zero_le _, rfl, by subst hit; simpa using Heap.get?_push_size _ rfl, F.push _, fun p hp => ⟨Heap.get?_push_of_some _ (N p hp).1, (N p hp).2⟩, hJ0⟩ (ht _)
  rintro k s' ⟨i, h, tk, m, nx, rfl, hi, rfl, hst, F1, N1, hJ⟩
  have mv : ∀ h', (∀ b o, b ∉ [it] → h.get? b = some o → h'.get? b = some o) → Fr h₀ L h' m ∧ News h₀ L h' nx := fun h' hk => by
    obtain ⟨oL, a1, a2, hL, a3⟩ := F1.ns
    refine ⟨⟨⟨oL, a1, a2, hk _ _ (by simp; exact Nat.ne_of_lt hLt) hL, a3⟩, fun b o e => hk b o (by simp; exact base b o e) (F1.keep b o e), F1.above⟩, fun p hp => ⟨hk _ _ (by simp; exact off hJ p hp) (N1 p hp).1, (N1 p hp).2⟩⟩
  by_cases hlt : i < n
  · refine W.item i _ _ _ hlt hst fun v h' tk' hv hst' hk => ?_
    obtain ⟨tx, rfl⟩ := hv
    obtain ⟨F2, N2⟩ := mv h' hk
    have N3 : News h₀ L h' ((it, _) :: nx) := fun p hp => by
      rcases List.mem_cons.mp hp with rfl | hp
      · exact ⟨hst', Nat.ne_of_gt hLt, itN⟩
      · exact N2 p hp
    have e1 : a + (i : Int) * 1 = a + (i : Int) := by omega
    rw [e1]
    refine wpAny_passesOwn hE (wpAny_mono (turn i m nx h' tk' _ tx hlt hJ F2 N3) (fun _ s₂ z => ?_) fun _ _ e => e)
    refine wpAny_passesOwn hE (wpAny_mono z (fun f s₃ z2 => ?_) fun _ _ e => e)
    have go : (∃ h'' tk'' m' nx', s₃ = { s with heap := h'', toks := tk'' } ∧ Fr h₀ L h'' m' ∧ News h₀ L h'' ((it, { cls := Value.type "range_iterator", data := Data.fields #[rawInt (a + ((i + 1 : Nat) : Int) * 1), rawInt ((n : Int) - ((i + 1 : Nat) : Int)), rawInt 1] }) :: nx') ∧ J (i + 1) m' nx') →
        ∃ k', k' < n + 1 - i ∧ ∃ i h tk m nx, s₃ = { s with heap := h, toks := tk } ∧ i ≤ n ∧ k' = n + 1 - i ∧ IsRangeIter h it (a + (i : Nat) * 1) ((n : Int) - (i : Nat)) 1 ∧ Fr h₀ L h m ∧ News h₀ L h nx ∧ J i m nx := by
      rintro ⟨h2, tk2, m2, nx2, rfl, F4, N4, J4⟩
      exact ⟨n + 1 - (i + 1), by omega, i + 1, h2, tk2, m2, nx2, rfl, hlt, rfl, (N4 _ (List.Mem.head _)).1, F4, fun p hp => N4 p (List.Mem.tail _ hp), J4⟩
    cases f with
    | next => exact go z2
    | cont => exact go z2
    | brk => exact z2
    | ret v => exact z2
  · obtain rfl : i = n := by omega
    refine W.done _ _ _ hst fun h' tk' hk => wpAny_execs_nil ?_
    obtain ⟨F2, N2⟩ := mv h' hk
    exact done m nx h' tk' hJ F2 N2
end
section
variable {prog : Program} {w : World} {A : Around} {s : Shared} {R : Result → Shared → Prop} {name qual : Str} {params : Arguments} {body : List Stmt} {scope : Scope} {clos : List (Str × Addr)} {dV kV doc pm cdv ct : Value} {an : Option Addr} {fo : Obj} {f : Addr} {args : Args} {binds : List (Str × Value)}
/-- a call of a def with cells of its own; the tables of code lie in the ledger -/
theorem code_clo (tabs : List (Addr × Obj)) (htab : ∀ p ∈ tabs, s.heap.get? p.1 = some p.2)
    (ho : s.heap.get? f = some fo) (hd : fo.data = .func (fnX name qual params body scope clos dV kV doc pm an cdv ct)) (hlim : s.heap.NoLimit) (hcd : s.heap.CodeRec cdv qual) (hroom : A.depth < recursionLimit)
    (hbind : BindsTo s (fnX name qual params body scope clos dV kV doc pm an cdv ct) args binds)
    (hkind : (binds.all fun y => scope.names.lookup y.1 == some .local || scope.names.lookup y.1 == some .cell) = true)
    (hnd : ((cellsFrom 0 scope.names []).map (·.1)).Nodup)
    (h : ∀ h₁ tk cells, Fr (hideAll s.heap (tabs.map (·.1))) s.heap.objs.size h₁ (bindL (envX qual scope s.heap.objs.size f cdv (cellsFrom (s.heap.objs.size + 1) scope.names [] ++ clos)).kindOf binds fun _ => none) →
      News (hideAll s.heap (tabs.map (·.1))) s.heap.objs.size h₁ (cells ++ tabs) →
      CellsAre (bindC (envX qual scope s.heap.objs.size f cdv (cellsFrom (s.heap.objs.size + 1) scope.names [] ++ clos)).kindOf binds fun _ => none) (cellsFrom (s.heap.objs.size + 1) scope.names []) cells →
      wpAny (model prog w) (A.deeper (envX qual scope s.heap.objs.size f cdv (cellsFrom (s.heap.objs.size + 1) scope.names [] ++ clos))) (execs body (envX qual scope s.heap.objs.size f cdv (cellsFrom (s.heap.objs.size + 1) scope.names [] ++ clos)))
        (fun fl s' => R (.ok (.ret (match fl with | .ret v => v | _ => .none))) s') (fun _ _ => False)
        { s with heap := h₁, toks := tk })
    (hco : scope.isCoroutine = false) (hgen : scope.isGenerator = false) (hk : scope.kind = .function) : codeAny (model prog w) A (.call (.ref f) args) R s := by
  refine codeAny_call_function hroom ho hd hco hgen rfl hcd (hbind _ _ _ _ ?_)
  refine env_own hk (kindsX hkind _) fun env' he s' x => ?_
  subst he
  refine ⟨hlim.keeps x.toInCall.keep, codeAny_func ?_⟩
  obtain ⟨h₁, tk, rfl, _⟩ := x.done
  have hk₁ := x.toInCall.keep
  obtain ⟨cells, NC, Y⟩ := Cl.news (h₀ := s.heap) (Nat.le_refl _) fun n c hm => ⟨x.cell n c (lookup_of_mem_nodup (cellsFrom_names scope.names 0 (s.heap.objs.size + 1) [] [] rfl ▸ hnd) hm), x.above n c hm⟩
  refine wpAny_mono (h h₁ tk cells ⟨x.toInCall.ns, fun b o e => hk₁ b o (of_hideAll _ e), Nat.le_of_eq (hideAll_size _ _)⟩ (fun p hp => ?_) Y) (fun _ _ z => z) fun _ _ z => z.elim
  rcases List.mem_append.mp hp with hp | hp
  · refine ⟨(NC p hp).1, (NC p hp).2.1, ?_⟩
    cases q : (hideAll s.heap (tabs.map (·.1))).get? p.1 with
    | none => rfl
    | some o => have := of_hideAll _ q; rw [(NC p hp).2.2] at this; cases this
  · exact ⟨hk₁ _ _ (htab p hp), Nat.ne_of_lt (Heap.lt_size (htab p hp)), hideAll_none _ (List.mem_map_of_mem hp)⟩
end
end
section
open PySem PySem.W PyProof.Rows
set_option Elab.async false
set_option maxRecDepth 100000
def isTab (o : Obj) : Bool := match o.cls, o.data with
  | .none, .fields _ => true
  | _, _ => false
def Has (l : List (Addr × Obj)) (h : Heap) : Prop := ∀ q ∈ l, h.get? q.1 = some q.2
theorem Has.keeps {l : List (Addr × Obj)} {h h' : Heap} (x : Has l h) (k : ∀ b o, h.get? b = some o → h'.get? b = some o) : Has l h' := fun q hq => k _ _ (x q hq)
theorem Has.app {a b : List (Addr × Obj)} {h : Heap} (x : Has a h) (y : Has b h) : Has (a ++ b) h := fun q hq => (List.mem_append.mp hq).elim (x q) (y q)
theorem News.has {h₀ h : Heap} {L : Addr} {l : List (Addr × Obj)} (N : News h₀ L h l) : Has l h := fun q hq => (N q hq).1
/-- from h to h' all is kept but the tables that TL tells; TL' is what has become of them -/
structure Kept (h : Heap) (TL : List (Addr × Obj)) (h' : Heap) (TL' : List (Addr × Obj)) : Prop where
  keep : ∀ b o, (b ∉ TL.map (·.1) ∨ isTab o = false) → h.get? b = some o → h'.get? b = some o
  has : Has TL' h'
  adr : ∀ q ∈ TL', q.1 ∈ TL.map (·.1) ∨ h.objs.size ≤ q.1
  size : h.objs.size ≤ h'.objs.size
theorem Kept.refl {h : Heap} {TL : List (Addr × Obj)} (x : Has TL h) : Kept h TL h TL := ⟨fun _ _ _ e => e, x, fun _ hq => .inl (List.mem_map_of_mem hq), Nat.le_refl _⟩
theorem size_of_stays {h h' : Heap} (F : ∀ b o, h.get? b = some o → h'.get? b = some o) : True := trivial
theorem Kept.trans {h h' h'' : Heap} {TL TL' TL'' : List (Addr × Obj)} (a : Kept h TL h' TL') (b : Kept h' TL' h'' TL'') : Kept h TL h'' TL'' where
  keep := fun x o hx e => b.keep x o (hx.imp (fun n m => by
      obtain ⟨q, hq, rfl⟩ := List.mem_map.mp m
      rcases a.adr q hq with z | z
      · exact n z
      · exact absurd (Heap.lt_size e) (Nat.not_lt.mpr z)) id) (a.keep x o hx e)
  has := b.has
  adr := fun q hq => (b.adr q hq).elim (fun m => by
      obtain ⟨r, hr, e⟩ := List.mem_map.mp m
      rw [← e]; exact a.adr r hr) fun z => .inr (Nat.le_trans a.size z)
  size := Nat.le_trans a.size b.size
theorem Kept.news {h₀ h h' : Heap} {L : Addr} {m : Str → Option Value} {TL TL' rest : List (Addr × Obj)} (k : Kept h TL h' TL') (F : Fr h₀ L h m) (N : News h₀ L h TL) (R : News h₀ L h rest) (hr : ∀ q ∈ rest, q.1 ∉ TL.map (·.1) ∨ isTab q.2 = false) :
    Fr h₀ L h' m ∧ News h₀ L h' TL' ∧ News h₀ L h' rest := by
  have n0 : ∀ b o, h₀.get? b = some o → b ∉ TL.map (·.1) := fun b o e q => by
    obtain ⟨r, hr, rfl⟩ := List.mem_map.mp q
    rw [(N r hr).2.2] at e; cases e
  have nL : L ∉ TL.map (·.1) := fun q => by
    obtain ⟨r, hr, e⟩ := List.mem_map.mp q
    exact (N r hr).2.1 e
  obtain ⟨oL, a1, a2, hL, a3⟩ := F.ns
  refine ⟨⟨⟨oL, a1, a2, k.keep _ _ (.inl nL) hL, a3⟩, fun b o e => k.keep b o (.inl (n0 b o e)) (F.keep b o e), F.above⟩, fun q hq => ⟨k.has q hq, ?_⟩, fun q hq => ⟨k.keep _ _ (hr q hq) (R q hq).1, (R q hq).2⟩⟩
  rcases k.adr q hq with z | z
  · obtain ⟨r, hr, e⟩ := List.mem_map.mp z
    rw [← e]; exact (N r hr).2
  · refine ⟨Nat.ne_of_gt (Nat.lt_of_lt_of_le (Heap.lt_size hL) z), ?_⟩
    cases q1 : h₀.get? q.1 with
    | none => rfl
    | some o => exact absurd (Heap.lt_size (F.keep _ _ q1)) (Nat.not_lt.mpr z)
/-- Z lies at addresses of A0 or from n0 on -/
def Adr (A0 : List Addr) (n0 : Nat) (Z : List (Addr × Obj)) : Prop := ∀ q ∈ Z, q.1 ∈ A0 ∨ n0 ≤ q.1
theorem fresh_news {h₀ h h' : Heap} {L : Addr} {m : Str → Option Value} {HL TL : List (Addr × Obj)} (F : Fr h₀ L h m) (N : News h₀ L h TL) (x : Has HL h') (hf : Adr (TL.map (·.1)) h.objs.size HL) : News h₀ L h' HL := fun q hq => by
  rcases hf q hq with z | z
  · obtain ⟨r, hr, e⟩ := List.mem_map.mp z
    exact ⟨x q hq, e ▸ (N r hr).2⟩
  · refine ⟨x q hq, Nat.ne_of_gt (Nat.lt_of_lt_of_le F.ns.lt z), ?_⟩
    cases q1 : h₀.get? q.1 with
    | none => rfl
    | some o => exact absurd (Heap.lt_size (F.keep _ _ q1)) (Nat.not_lt.mpr z)
theorem Adr.trans {A0 : List Addr} {n0 n1 : Nat} {TL Z : List (Addr × Obj)} (a : Adr A0 n0 TL) (h : n0 ≤ n1) (b : Adr (TL.map (·.1)) n1 Z) : Adr A0 n0 Z := fun q hq => by
  rcases b q hq with z | z
  · obtain ⟨r, hr, e⟩ := List.mem_map.mp z
    exact e ▸ a r hr
  · exact .inr (Nat.le_trans h z)
section
variable (prog : Program) (w : World) (K : Frag) (p : Program) (loose : List Str) (mean : ExcName → Option Value) (mg mb : Str → Option Value)
/-- wherever HL stands in the heap, a call of sp gives the pair (i, j) and keeps the heap -/
def SpanOk (HL : List (Addr × Obj)) (sp : Addr) (i j : Int) : Prop :=
  ∀ (dp un : Nat) (fr : Option (List Env)) (gd : Option (List Code)) (s : Shared) (Q E : Value → Shared → Prop), K.In s.heap → Top p loose mean mg mb s.heap → dp + 10 < 1000 → un + 100 < 9900 → Has HL s.heap →
    (∀ (T : Addr) (ti tj : Tok) (h' : Heap) (tk : Nat), s.heap.StaysIn h' → s.heap.get? T = none → h'.get? T = some { cls := .type "tuple", data := .seq #[.int i ti, .int j tj] } → Q (.ref T) { s with heap := h', toks := tk }) →
    wpAny (model prog w) (arA dp un fr gd) (call (.ref sp) []) Q E s
def FnIn (q : Addr) (Z : List (Addr × Obj)) : Prop := ∃ oc od fd sl, (q, (⟨oc, od, .func fd, sl⟩ : Obj)) ∈ Z
/-- HL tells a hit: a def object with a span of its own -/
def HitL (HL : List (Addr × Obj)) (hit : Addr) (i j : Int) : Prop :=
  ∃ hd fd sl hsh tk n sp, (hit, (⟨.type "function", some hd, .func fd, sl⟩ : Obj)) ∈ HL ∧ (hd, dictOf [⟨hsh, .str (Str.ofString "span") tk, .ref sp⟩] n) ∈ HL ∧ (∀ q ∈ HL, isTab q.2 = false) ∧ FnIn sp HL ∧ SpanOk prog w K p loose mean mg mb HL sp i j
/-- what a search from st on gives -/
def Found (TP : List (Addr × Obj) → Prop) (nx : Option (Nat × Nat)) (s : Shared) (TL : List (Addr × Obj)) (Q : Value → Shared → Prop) : Prop :=
  (nx = none → ∀ (h' : Heap) (tk : Nat) (TL' : List (Addr × Obj)), Kept s.heap TL h' TL' → TP TL' → Q .none { s with heap := h', toks := tk }) ∧
  (∀ i j, nx = some (i, j) → ∀ (hit : Addr) (HL : List (Addr × Obj)) (h' : Heap) (tk : Nat) (TL' : List (Addr × Obj)), Kept s.heap TL h' TL' → TP TL' → HitL prog w K p loose mean mg mb HL hit (i : Int) (j : Int) → Has HL h' →
    Adr (TL.map (·.1)) s.heap.objs.size HL → Q (.ref hit) { s with heap := h', toks := tk })
/-- wherever PL stands in the heap and the tables are as TP says, a call of sf searches -/
def SearchOk (PL : List (Addr × Obj)) (TP : List (Addr × Obj) → Prop) (sf : Addr) (nx : List Nat → Nat → Option (Nat × Nat)) : Prop :=
  ∀ (l : List Nat) (st : Nat) (args : List Value) (TL : List (Addr × Obj)) (dp un : Nat) (fr : Option (List Env)) (gd : Option (List Code)) (s : Shared) (Q E : Value → Shared → Prop),
    ((st = 0 ∧ ∃ t, args = [.str (S l) t]) ∨ ∃ t u, args = [.str (S l) t, .int (st : Int) u]) → l.length < 300 → st < 1000 →
    K.In (hideAll s.heap ((TL ++ PL).map (·.1))) → Top p loose mean mg mb (hideAll s.heap ((TL ++ PL).map (·.1))) → dp + 60 < 1000 → un + 600 < 9900 → Has PL s.heap → TP TL → Has TL s.heap →
    Found prog w K p loose mean mg mb TP (nx l st) s TL Q →
    wpAny (model prog w) (arA dp un fr gd) (call (.ref sf) args) Q E s
/-- PL tells a prog: a def object with a search of its own -/
def ProgL (PL : List (Addr × Obj)) (TP : List (Addr × Obj) → Prop) (pg : Addr) (nx : List Nat → Nat → Option (Nat × Nat)) : Prop :=
  ∃ pd fd sl hsh tk n sf, (pg, (⟨.type "function", some pd, .func fd, sl⟩ : Obj)) ∈ PL ∧ (pd, dictOf [⟨hsh, .str (Str.ofString "search") tk, .ref sf⟩] n) ∈ PL ∧ (∀ q ∈ PL, isTab q.2 = false) ∧ FnIn sf PL ∧ SearchOk prog w K p loose mean mg mb PL TP sf nx
end
end
section
open PySem PySem.W PyProof.Rows
set_option Elab.async false
set_option maxRecDepth 100000
section
variable {prog : Program} {w : World} {K : Frag} {p : Program} {loose : List Str} {mean : ExcName → Option Value} {mg mb : Str → Option Value}
variable {A : Around} {dp un : Nat} {fr : Option (List Env)} {gd : Option (List Code)} {h₀ : Heap} {L : Addr} {m : Str → Option Value} {news : List (Addr × Obj)} {s : Shared} {E : Value → Shared → Prop}
theorem nSub {h : Heap} {l l' : List (Addr × Obj)} (N : News h₀ L h l) (hs : ∀ q ∈ l', q ∈ l) : News h₀ L h l' := fun q hq => N q (hs q hq)
theorem nApp {h : Heap} {l l' : List (Addr × Obj)} (N : News h₀ L h l) (N' : News h₀ L h l') : News h₀ L h (l ++ l') := fun q hq => (List.mem_append.mp hq).elim (N q) (N' q)
theorem keeps_hide {h : Heap} {l : List (Addr × Obj)} (F : Fr h₀ L h m) (N : News h₀ L h l) (b : Addr) (o : Obj) (e : h₀.get? b = some o) : (hideAll h (l.map (·.1))).get? b = some o :=
  hideAll_get _ (F.keep b o e) fun hm => by
    obtain ⟨r, hr, e2⟩ := List.mem_map.mp hm
    rw [← e2, (N r hr).2.2] at e; cases e
theorem getL_one {nm : Str} {hsh : Int} {tk : Tok} {v : Value} : getL nm [⟨hsh, .str nm tk, v⟩] = some (some v) := by simp [getL, Value.isStr]
theorem FnIn.at {q : Addr} {h : Heap} {Z : List (Addr × Obj)} (f : FnIn q Z) (N : News h₀ L h news) (hs : ∀ q ∈ Z, q ∈ news) : FnAt q h := by
  obtain ⟨oc, od, fd, sl, hm⟩ := f
  exact ⟨oc, od, fd, sl, (N _ (hs _ hm)).1⟩
theorem use_prog {Q : Value × List Value → Shared → Prop} {pl : Sem Bool} {PL : List (Addr × Obj)} {TP : List (Addr × Obj) → Prop} {pg : Addr} {nx : List Nat → Nat → Option (Nat × Nat)}
    (hP : ProgL prog w K p loose mean mg mb PL TP pg nx) (N : News h₀ L s.heap news) (hs : ∀ q ∈ PL, q ∈ news)
    (h : ∀ sf, FnIn sf PL → SearchOk prog w K p loose mean mg mb PL TP sf nx → Q (.ref sf, []) { s with toks := s.toks + 1 }) : wpAny (model prog w) A (getMethod (.ref pg) (Str.ofString "search") pl) Q E s := by
  obtain ⟨pd, fd, sl, hsh, tk, n, sf, h1, h2, _, h4, h3⟩ := hP
  exact fn_getMethod (N _ (hs _ h1)).1 (N _ (hs _ h2)).1 getL_one lk_fn_search rfl (h sf h4 h3)
theorem use_hit {Q : Value × List Value → Shared → Prop} {pl : Sem Bool} {HL : List (Addr × Obj)} {hit : Addr} {i j : Int}
    (hP : HitL prog w K p loose mean mg mb HL hit i j) (N : News h₀ L s.heap news) (hs : ∀ q ∈ HL, q ∈ news)
    (h : ∀ sf, FnIn sf HL → SpanOk prog w K p loose mean mg mb HL sf i j → Q (.ref sf, []) { s with toks := s.toks + 1 }) : wpAny (model prog w) A (getMethod (.ref hit) (Str.ofString "span") pl) Q E s := by
  obtain ⟨pd, fd, sl, hsh, tk, n, sf, h1, h2, _, h4, h3⟩ := hP
  exact fn_getMethod (N _ (hs _ h1)).1 (N _ (hs _ h2)).1 getL_one lk_fn_span rfl (h sf h4 h3)
theorem use_true {Q : Bool → Shared → Prop} {HL : List (Addr × Obj)} {hit : Addr} {i j : Int}
    (hP : HitL prog w K p loose mean mg mb HL hit i j) (N : News h₀ L s.heap news) (hs : ∀ q ∈ HL, q ∈ news)
    (h : Q true s) : wpAny (model prog w) A (truthy (.ref hit)) Q E s := by
  obtain ⟨pd, fd, sl, hsh, tk, n, sf, h1, h2, _, h4, h3⟩ := hP
  exact fn_truthy (N _ (hs _ h1)).1 h
theorem use_span {Q : Value → Shared → Prop} {HL : List (Addr × Obj)} {sp : Addr} {i j : Int}
    (hP : SpanOk prog w K p loose mean mg mb HL sp i j) (F : Fr h₀ L s.heap m) (X : K.In h₀) (N : News h₀ L s.heap news) (T : Top p loose mean mg mb h₀) (hd : dp + 10 < 1000) (hu : un + 100 < 9900) (hs : ∀ q ∈ HL, q ∈ news)
    (h : ∀ (T : Addr) (ti tj : Tok) (h' : Heap) (tk : Nat), Fr h₀ L h' m → News h₀ L h' ((T, { cls := .type "tuple", data := .seq #[.int i ti, .int j tj] }) :: news) → Q (.ref T) { s with heap := h', toks := tk }) :
    wpAny (model prog w) (arA dp un fr gd) (call (.ref sp) []) Q E s := by
  refine hP dp un fr gd s Q E (X.keeps F.keep) (T.keeps F.keep) hd hu (fun q hq => (N q (hs q hq)).1) fun T ti tj h' tk st hT hg => h T ti tj h' tk ⟨F.ns.keeps st, fun b o e => st b o (F.keep b o e), F.above⟩ fun q hq => ?_
  rcases List.mem_cons.mp hq with rfl | hq
  · refine ⟨hg, fun e => ?_, ?_⟩
    · obtain ⟨oL, _, _, hL, _⟩ := F.ns
      dsimp only at e
      rw [e] at hT; rw [hT] at hL; cases hL
    cases q1 : h₀.get? T with
    | none => rfl
    | some o => rw [F.keep _ _ q1] at hT; cases hT
  · exact ⟨st _ _ (N q hq).1, (N q hq).2⟩
theorem use_search {Q : Value → Shared → Prop} {PL : List (Addr × Obj)} {TP : List (Addr × Obj) → Prop} {sf : Addr} {nx : List Nat → Nat → Option (Nat × Nat)} {A0 : List Addr} {n0 : Nat} (TL rest : List (Addr × Obj)) {l : List Nat} (st : Nat) {args : List Value}
    (hS : SearchOk prog w K p loose mean mg mb PL TP sf nx) (ha : (st = 0 ∧ ∃ t, args = [.str (S l) t]) ∨ ∃ t u, args = [.str (S l) t, .int (st : Int) u]) (hl : l.length < 300) (hst : st < 1000) (hPT : ∀ q ∈ PL, isTab q.2 = false)
    (F : Fr h₀ L s.heap m) (X : K.In h₀) (N : News h₀ L s.heap news) (T : Top p loose mean mg mb h₀) (hd : dp + 60 < 1000) (hu : un + 600 < 9900) (tp : TP TL) (hTL : ∀ q ∈ TL, q ∈ news) (hPL : ∀ q ∈ PL, q ∈ news) (hr : ∀ q ∈ rest, q ∈ news ∧ isTab q.2 = false)
    (hn : n0 ≤ h₀.objs.size) (had : Adr A0 n0 TL)
    (h1 : nx l st = none → ∀ (h' : Heap) (tk : Nat) (TL' : List (Addr × Obj)), TP TL' → Adr A0 n0 TL' → Fr h₀ L h' m → News h₀ L h' (TL' ++ (PL ++ rest)) → Q .none { s with heap := h', toks := tk })
    (h2 : ∀ i j, nx l st = some (i, j) → ∀ (hit : Addr) (HL : List (Addr × Obj)) (h' : Heap) (tk : Nat) (TL' : List (Addr × Obj)), TP TL' → Adr A0 n0 TL' → Adr A0 n0 HL → HitL prog w K p loose mean mg mb HL hit (i : Int) (j : Int) → Fr h₀ L h' m → News h₀ L h' (TL' ++ (PL ++ (HL ++ rest))) → Q (.ref hit) { s with heap := h', toks := tk }) :
    wpAny (model prog w) (arA dp un fr gd) (call (.ref sf) args) Q E s := by
  have NT := nSub N hTL
  have NP := nSub N hPL
  have NR := nSub N fun q hq => (hr q hq).1
  have hz : n0 ≤ s.heap.objs.size := Nat.le_trans hn (Nat.le_trans F.above (Nat.le_of_lt F.ns.lt))
  refine hS l st args TL dp un fr gd s Q E ha hl hst (X.keeps (keeps_hide F (nApp NT NP))) (T.keeps (keeps_hide F (nApp NT NP))) hd hu (News.has NP) tp (News.has NT) ⟨fun e h' tk TL' k t' => ?_, fun i j e hit HL h' tk TL' k t' hH hh ad => ?_⟩
  · obtain ⟨a, b, c⟩ := k.news F NT (nApp NP NR) fun q hq => .inr ((List.mem_append.mp hq).elim (hPT q) fun z => (hr q z).2)
    exact h1 e h' tk TL' t' (had.trans hz k.adr) a (nApp b c)
  · obtain ⟨a, b, c⟩ := k.news F NT (nApp NP NR) fun q hq => .inr ((List.mem_append.mp hq).elim (hPT q) fun z => (hr q z).2)
    have d := fresh_news F NT hh ad
    exact h2 i j e hit HL h' tk TL' t' (had.trans hz k.adr) (had.trans hz ad) hH a (nApp b (nApp (nSub c fun q hq => List.mem_append.mpr (.inl hq)) (nApp d (nSub c fun q hq => List.mem_append.mpr (.inr hq)))))
end
end
section
open PySem PySem.W PyProof.Rows
set_option Elab.async false
set_option maxRecDepth 100000
set_option maxHeartbeats 8000000
open_top hd for PySem.Challenge.rw_mr0049_01
end
section
open PySem PySem.W PyProof.Rows
set_option maxRecDepth 100000
set_option maxHeartbeats 40000000
local macro_rules | `(tactic| walk_at $s:str) => `(tactic| k_extra $s)
local macro_rules | `(tactic| k_room) => `(tactic| ((try simp only [depth_mark, depth_under_make, depth_under_kw, depth_in1, depth_deeper, depth_caller]); (try dsimp only [arA]); (show (_ : Nat) < 1000); omega))
local macro_rules | `(tactic| k_units) => `(tactic| ((try simp only [units_in1, units_deeper, Around.mark_units, units_caller]); (try dsimp only [arA]); (show (_ : Nat) < 9900); omega))
section
open PySem PySem.W PyProof.Rows
set_option Elab.async false
set_option maxRecDepth 100000
set_option maxHeartbeats 40000000

theorem ln_1 : True := by
  k_with_none
  k_with "mI" => (first | omega | (simp only [List.length_cons, List.length_nil, List.length_append, List.length_take, List.length_drop, List.length_replicate, List.length_map, List.length_range, S_len, sizeLine_eq]; omega) | (simp only [List.length_cons, List.length_nil, List.length_append, List.length_take, List.length_drop, List.length_replicate, List.length_map, List.length_range, S_len, sizeLine_eq] at *; omega))
  k_with "mItem" => (first
  | ((with_reducible show wpAny _ _ (subscriptTail _ _ (Value.str (S (_ :: _)) _) (Value.int 0 _)) _ _ _); refine r_it0 (by walk_at "mI") ?_)
  | ((with_reducible show wpAny _ _ (subscriptTail _ _ (Value.str (S (_ :: _ :: _)) _) (Value.int 1 _)) _ _ _); refine r_it1 (by walk_at "mI") ?_)
  | ((with_reducible show wpAny _ _ (subscriptTail _ _ (Value.str (S _) _) (Value.int _ _)) _ _ _); refine r_item (by walk_at "mI") (by walk_at "mI") (by walk_at "mI") ?_))
  k_with "mSlice" => (((with_reducible rename Fr _ _ _ _ => F'); (with_reducible rename News _ _ _ _ => N'); (first
  | ((with_reducible show wpAny _ _ (subscriptTail _ (Expr.Slice (some _) none none _) (Value.str (S (_ :: _)) _) _) _ _ _); refine r_sl1 (s := ⟨_, _, _, _, _⟩) F' N' (by walk_at "mI") ?_)
  | refine r_ss (s := ⟨_, _, _, _, _⟩) F' N' (by walk_at "mI") (by walk_at "mI") (by walk_at "mI") ?_
  | refine r_sn (s := ⟨_, _, _, _, _⟩) F' N' (by walk_at "mI") (by walk_at "mI") ?_
  | refine r_ns (s := ⟨_, _, _, _, _⟩) F' N' (by walk_at "mI") (by walk_at "mI") ?_); intro _ _ _ _ _))
  k_with "subscriptTail" => (first | walk_at "mItem" | walk_at "mSlice")
  k_with "subscriptTail Name Name str int" => (walk_at "mItem")
  k_with "subscriptTail Name Constant str int" => (walk_at "mItem")
  k_with "subscriptTail Name Slice str ref" => (walk_at "mSlice")
  k_with "eval Constant str" => ((with_reducible first | refine r_const lit_bang ?_ | refine r_const lit_hat ?_ | refine r_const lit_q ?_ | refine r_const lit_thorn ?_ | refine r_const lit_del ?_ | refine r_const lit_ff ?_ | refine r_const lit_A ?_ | refine r_const lit_hq ?_ | refine r_const lit_h9 ?_ | refine r_const lit_sp ?_ | refine r_const lit_tilde ?_ | refine r_const lit_fe ?_ | refine r_const lit_hT ?_ | refine r_const lit_e ?_ | refine r_const lit_marks ?_))
  k_with "call builtin:len" => (first
  | ((with_reducible show wpAny _ _ (call (Value.builtin "len") [Value.str (S [_]) _]) _ _ _); refine r_len1 ?_)
  | ((with_reducible show wpAny _ _ (call (Value.builtin "len") [Value.str (S [_, _]) _]) _ _ _); refine r_len2 ?_)
  | ((with_reducible show wpAny _ _ (call (Value.builtin "len") [Value.str (S [_, _, _]) _]) _ _ _); refine r_len3 ?_)
  | ((with_reducible show wpAny _ _ (call (Value.builtin "len") [Value.str (S _) _]) _ _ _); refine r_len (by walk_at "mI") ?_))
  k_with "compareOp Eq str str" => (((with_reducible show wpAny _ _ (compareOp _ (Value.str (S _) _) (Value.str (S _) _)) _ _ _); refine r_eq ?_))
  k_with "compareOp NotEq str str" => (((with_reducible show wpAny _ _ (compareOp _ (Value.str (S _) _) (Value.str (S _) _)) _ _ _); refine r_ne ?_))
  k_with "compareOp In str str" => (((with_reducible show wpAny _ _ (compareOp _ (Value.str (S _) _) (Value.str (S _) _)) _ _ _); refine r_in ?_))
  k_with "compareOp Gt str str" => (((with_reducible show wpAny _ _ (compareOp _ (Value.str (S _) _) (Value.str (S _) _)) _ _ _); refine r_gt ?_))
  k_with "compareOp LtE str str" => (((with_reducible show wpAny _ _ (compareOp _ (Value.str (S _) _) (Value.str (S _) _)) _ _ _); refine r_le ?_))
  k_with "binaryOp Add str str" => (((with_reducible show wpAny _ _ (binaryOp _ (Value.str (S _) _) (Value.str (S _) _)) _ _ _); refine r_add ?_ (by walk_at "mI"); intro _ _))
  k_with "inplaceOp Add str str" => (((with_reducible show wpAny _ _ (inplaceOp _ (Value.str (S _) _) (Value.str (S _) _)) _ _ _); refine r_iadd ?_ (by walk_at "mI"); intro _ _))
  k_with "call builtin:ord" => (((with_reducible show wpAny _ _ (call (Value.builtin "ord") [Value.str (S _) _]) _ _ _); refine r_ord ?_))
  k_with "call builtin:chr" => ((refine r_chr (by walk_at "mChr") (by walk_at "mChr") ?_))
  k_with "mChr" => (first | omega | (split <;> omega))
  k_with "mRoom" => (((try simp only [depth_mark, depth_under_make, depth_under_kw, depth_in1, depth_deeper, depth_caller, units_in1, units_deeper, Around.mark_units, units_caller]); (try dsimp only [arA]); omega))
  k_with "mClean" => (((try clear hret); (repeat (with_reducible rename Fr _ _ _ _ => x9; clear x9)); (repeat (with_reducible rename News _ _ _ _ => x9; clear x9)); (repeat (with_reducible rename Below _ _ _ _ => x9; clear x9)); (repeat (with_reducible rename Top _ _ _ _ _ _ => x9; clear x9)); (repeat (with_reducible rename Frag.In _ _ => x9; clear x9))))
  k_with "mUse2" => (((intro t9 h9 tk9 F9 N9); (try dsimp only); (try k_fold)))
  k_with "binaryOp BitAnd int int" => (first
  | ((with_reducible show wpAny _ _ (binaryOp _ (Value.int _ _) (Value.int 127 _)) _ _ _); refine r_and127 ?_)
  | ((with_reducible show wpAny _ _ (binaryOp _ (Value.int _ _) (Value.int 31 _)) _ _ _); refine r_and31 ?_)
  | ((with_reducible show wpAny _ _ (binaryOp _ (Value.int _ _) (Value.int 128 _)) _ _ _); refine r_and128 (by omega) ?_ ?_ <;> intro _))
  k_with "binaryOp BitOr int int" => (first
  | ((with_reducible show wpAny _ _ (binaryOp _ (Value.int _ _) (Value.int 32 _)) _ _ _); refine r_or32 (by omega) ?_ ?_ <;> intro _)
  | ((with_reducible show wpAny _ _ (binaryOp _ (Value.int _ _) (Value.int 128 _)) _ _ _); refine r_or128 (by omega) ?_ ?_ <;> intro _))
  trivial
theorem ctoi_s (w : World) (p : Program) (loose : List Str) (mean : ExcName → Option Value) (mg mb : Str → Option Value) (c : Nat) (t : Tok) :
  PCl 5 PySem.Challenge.rw_mr0049_01.prog w (hd.heap_39 w.params) p loose mean mg mb 21 [.str (S [c]) t] (fun t => .int (c : Nat) t) := by
  w_top off
  dsimp only [PCl]
  k_fill
  intro dp un fr gd s Q E X T hdp hun hret
  refine wpAny_call ?_
  k_dflt (refine' code_pure ?k3 ?k5 ?k6 ?k7 ?k8 ?k9 ?kB ?_ ?c2 ?c3 ?c4 ?c5; (case k3 => assumption); (case k5 => assumption); (case k6 => k_is); (case k7 => k_is); (case k8 => (show dp < 1000); omega); (case k9 => exact BindsTo.of_eq rfl); (case c5 => decide); (case kB => exact locs rfl); (case c2 => exact rfl); (case c3 => exact rfl); (case c4 => exact rfl); k_whole; intro L' h' F' N')
  k_steps
  all_goals refine pc_retI (s := s) hret ?_ (by k_asm)
  all_goals walk_at "mClean"
  all_goals rfl

theorem ctoi_i (w : World) (p : Program) (loose : List Str) (mean : ExcName → Option Value) (mg mb : Str → Option Value) (c : Int) (t : Tok) :
  PCl 5 PySem.Challenge.rw_mr0049_01.prog w (hd.heap_39 w.params) p loose mean mg mb 21 [.int c t] (fun t => .int c t) := by
  w_top off
  dsimp only [PCl]
  k_fill
  intro dp un fr gd s Q E X T hdp hun hret
  refine wpAny_call ?_
  k_dflt (refine' code_pure ?k3 ?k5 ?k6 ?k7 ?k8 ?k9 ?kB ?_ ?c2 ?c3 ?c4 ?c5; (case k3 => assumption); (case k5 => assumption); (case k6 => k_is); (case k7 => k_is); (case k8 => (show dp < 1000); omega); (case k9 => exact BindsTo.of_eq rfl); (case c5 => decide); (case kB => exact locs rfl); (case c2 => exact rfl); (case c3 => exact rfl); (case c4 => exact rfl); k_whole; intro L' h' F' N')
  k_steps
  all_goals refine pc_retI (s := s) hret ?_ (by k_asm)
  all_goals walk_at "mClean"
  all_goals rfl
end
section
open PySem PySem.W PyProof.Rows
set_option Elab.async false
set_option maxRecDepth 100000
set_option maxHeartbeats 40000000

theorem ln_2 : True := by
  k_with_none
  k_with "mI" => (first | omega | (simp only [List.length_cons, List.length_nil, List.length_append, List.length_take, List.length_drop, List.length_replicate, List.length_map, List.length_range, S_len, sizeLine_eq]; omega) | (simp only [List.length_cons, List.length_nil, List.length_append, List.length_take, List.length_drop, List.length_replicate, List.length_map, List.length_range, S_len, sizeLine_eq] at *; omega))
  k_with "mItem" => (first
  | ((with_reducible show wpAny _ _ (subscriptTail _ _ (Value.str (S (_ :: _)) _) (Value.int 0 _)) _ _ _); refine r_it0 (by walk_at "mI") ?_)
  | ((with_reducible show wpAny _ _ (subscriptTail _ _ (Value.str (S (_ :: _ :: _)) _) (Value.int 1 _)) _ _ _); refine r_it1 (by walk_at "mI") ?_)
  | ((with_reducible show wpAny _ _ (subscriptTail _ _ (Value.str (S _) _) (Value.int _ _)) _ _ _); refine r_item (by walk_at "mI") (by walk_at "mI") (by walk_at "mI") ?_))
  k_with "mSlice" => (((with_reducible rename Fr _ _ _ _ => F'); (with_reducible rename News _ _ _ _ => N'); (first
  | ((with_reducible show wpAny _ _ (subscriptTail _ (Expr.Slice (some _) none none _) (Value.str (S (_ :: _)) _) _) _ _ _); refine r_sl1 (s := ⟨_, _, _, _, _⟩) F' N' (by walk_at "mI") ?_)
  | refine r_ss (s := ⟨_, _, _, _, _⟩) F' N' (by walk_at "mI") (by walk_at "mI") (by walk_at "mI") ?_
  | refine r_sn (s := ⟨_, _, _, _, _⟩) F' N' (by walk_at "mI") (by walk_at "mI") ?_
  | refine r_ns (s := ⟨_, _, _, _, _⟩) F' N' (by walk_at "mI") (by walk_at "mI") ?_); intro _ _ _ _ _))
  k_with "subscriptTail" => (first | walk_at "mItem" | walk_at "mSlice")
  k_with "subscriptTail Name Name str int" => (walk_at "mItem")
  k_with "subscriptTail Name Constant str int" => (walk_at "mItem")
  k_with "subscriptTail Name Slice str ref" => (walk_at "mSlice")
  k_with "eval Constant str" => ((with_reducible first | refine r_const lit_bang ?_ | refine r_const lit_hat ?_ | refine r_const lit_q ?_ | refine r_const lit_thorn ?_ | refine r_const lit_del ?_ | refine r_const lit_ff ?_ | refine r_const lit_A ?_ | refine r_const lit_hq ?_ | refine r_const lit_h9 ?_ | refine r_const lit_sp ?_ | refine r_const lit_tilde ?_ | refine r_const lit_fe ?_ | refine r_const lit_hT ?_ | refine r_const lit_e ?_ | refine r_const lit_marks ?_))
  k_with "call builtin:len" => (first
  | ((with_reducible show wpAny _ _ (call (Value.builtin "len") [Value.str (S [_]) _]) _ _ _); refine r_len1 ?_)
  | ((with_reducible show wpAny _ _ (call (Value.builtin "len") [Value.str (S [_, _]) _]) _ _ _); refine r_len2 ?_)
  | ((with_reducible show wpAny _ _ (call (Value.builtin "len") [Value.str (S [_, _, _]) _]) _ _ _); refine r_len3 ?_)
  | ((with_reducible show wpAny _ _ (call (Value.builtin "len") [Value.str (S _) _]) _ _ _); refine r_len (by walk_at "mI") ?_))
  k_with "compareOp Eq str str" => (((with_reducible show wpAny _ _ (compareOp _ (Value.str (S _) _) (Value.str (S _) _)) _ _ _); refine r_eq ?_))
  k_with "compareOp NotEq str str" => (((with_reducible show wpAny _ _ (compareOp _ (Value.str (S _) _) (Value.str (S _) _)) _ _ _); refine r_ne ?_))
  k_with "compareOp In str str" => (((with_reducible show wpAny _ _ (compareOp _ (Value.str (S _) _) (Value.str (S _) _)) _ _ _); refine r_in ?_))
  k_with "compareOp Gt str str" => (((with_reducible show wpAny _ _ (compareOp _ (Value.str (S _) _) (Value.str (S _) _)) _ _ _); refine r_gt ?_))
  k_with "compareOp LtE str str" => (((with_reducible show wpAny _ _ (compareOp _ (Value.str (S _) _) (Value.str (S _) _)) _ _ _); refine r_le ?_))
  k_with "binaryOp Add str str" => (((with_reducible show wpAny _ _ (binaryOp _ (Value.str (S _) _) (Value.str (S _) _)) _ _ _); refine r_add ?_ (by walk_at "mI"); intro _ _))
  k_with "inplaceOp Add str str" => (((with_reducible show wpAny _ _ (inplaceOp _ (Value.str (S _) _) (Value.str (S _) _)) _ _ _); refine r_iadd ?_ (by walk_at "mI"); intro _ _))
  k_with "call builtin:ord" => (((with_reducible show wpAny _ _ (call (Value.builtin "ord") [Value.str (S _) _]) _ _ _); refine r_ord ?_))
  k_with "call builtin:chr" => ((refine r_chr (by walk_at "mChr") (by walk_at "mChr") ?_))
  k_with "mChr" => (first | omega | (split <;> omega))
  k_with "mRoom" => (((try simp only [depth_mark, depth_under_make, depth_under_kw, depth_in1, depth_deeper, depth_caller, units_in1, units_deeper, Around.mark_units, units_caller]); (try dsimp only [arA]); omega))
  k_with "mClean" => (((try clear hret); (repeat (with_reducible rename Fr _ _ _ _ => x9; clear x9)); (repeat (with_reducible rename News _ _ _ _ => x9; clear x9)); (repeat (with_reducible rename Below _ _ _ _ => x9; clear x9)); (repeat (with_reducible rename Top _ _ _ _ _ _ => x9; clear x9)); (repeat (with_reducible rename Frag.In _ _ => x9; clear x9))))
  k_with "mUse2" => (((intro t9 h9 tk9 F9 N9); (try dsimp only); (try k_fold)))
  k_with "binaryOp BitAnd int int" => (first
  | ((with_reducible show wpAny _ _ (binaryOp _ (Value.int _ _) (Value.int 127 _)) _ _ _); refine r_and127 ?_)
  | ((with_reducible show wpAny _ _ (binaryOp _ (Value.int _ _) (Value.int 31 _)) _ _ _); refine r_and31 ?_)
  | ((with_reducible show wpAny _ _ (binaryOp _ (Value.int _ _) (Value.int 128 _)) _ _ _); refine r_and128 (by omega) ?_ ?_ <;> intro _))
  k_with "binaryOp BitOr int int" => (first
  | ((with_reducible show wpAny _ _ (binaryOp _ (Value.int _ _) (Value.int 32 _)) _ _ _); refine r_or32 (by omega) ?_ ?_ <;> intro _)
  | ((with_reducible show wpAny _ _ (binaryOp _ (Value.int _ _) (Value.int 128 _)) _ _ _); refine r_or128 (by omega) ?_ ?_ <;> intro _))
  k_with "call ref" => ((k_here; (with_reducible show wpAny _ _ (call (Value.ref 21) [Value.str (S [_]) _]) _ _ _); k_dflt (refine PCl.use (ctoi_s _ _ _ _ _ _ _ _ ) (by k_asm) (by k_asm) (by k_asm) (by k_asm) (by walk_at "mRoom") (by walk_at "mRoom") ?_; k_whole); walk_at "mUse2"))
  k_with "call ref" => ((k_here; (with_reducible show wpAny _ _ (call (Value.ref 21) [Value.int _ _]) _ _ _); k_dflt (refine PCl.use (ctoi_i _ _ _ _ _ _ _ _ ) (by k_asm) (by k_asm) (by k_asm) (by k_asm) (by walk_at "mRoom") (by walk_at "mRoom") ?_; k_whole); walk_at "mUse2"))
  trivial
theorem isprint_s (w : World) (p : Program) (loose : List Str) (mean : ExcName → Option Value) (mg mb : Str → Option Value) (c : Nat) (t : Tok) :
  PCl 10 PySem.Challenge.rw_mr0049_01.prog w (hd.heap_39 w.params) p loose mean mg mb 28 [.str (S [c]) t] (fun _ => .bool (prB c)) := by
  w_top off
  dsimp only [PCl]
  k_fill
  intro dp un fr gd s Q E X T hdp hun hret
  refine wpAny_call ?_
  k_dflt (refine' code_pure ?k3 ?k5 ?k6 ?k7 ?k8 ?k9 ?kB ?_ ?c2 ?c3 ?c4 ?c5; (case k3 => assumption); (case k5 => assumption); (case k6 => k_is); (case k7 => k_is); (case k8 => (show dp < 1000); omega); (case k9 => exact BindsTo.of_eq rfl); (case c5 => decide); (case kB => exact locs rfl); (case c2 => exact rfl); (case c3 => exact rfl); (case c4 => exact rfl); k_whole; intro L' h' F' N')
  k_steps
  all_goals refine pc_retB (s := s) hret ?_ (by k_asm)
  all_goals walk_at "mClean"
  all_goals (simp only [prB]; rw [Bool.eq_iff_iff]; simp only [decide_eq_true_eq]; omega)

theorem isprint_i (w : World) (p : Program) (loose : List Str) (mean : ExcName → Option Value) (mg mb : Str → Option Value) (c : Int) (t : Tok) :
  PCl 10 PySem.Challenge.rw_mr0049_01.prog w (hd.heap_39 w.params) p loose mean mg mb 28 [.int c t] (fun _ => .bool (decide (32 ≤ c ∧ c ≤ 126))) := by
  w_top off
  dsimp only [PCl]
  k_fill
  intro dp un fr gd s Q E X T hdp hun hret
  refine wpAny_call ?_
  k_dflt (refine' code_pure ?k3 ?k5 ?k6 ?k7 ?k8 ?k9 ?kB ?_ ?c2 ?c3 ?c4 ?c5; (case k3 => assumption); (case k5 => assumption); (case k6 => k_is); (case k7 => k_is); (case k8 => (show dp < 1000); omega); (case k9 => exact BindsTo.of_eq rfl); (case c5 => decide); (case kB => exact locs rfl); (case c2 => exact rfl); (case c3 => exact rfl); (case c4 => exact rfl); k_whole; intro L' h' F' N')
  k_steps
  all_goals refine pc_retB (s := s) hret ?_ (by k_asm)
  all_goals walk_at "mClean"
  all_goals (rw [Bool.eq_iff_iff]; simp only [decide_eq_true_eq]; omega)

theorem ctrl_s (w : World) (p : Program) (loose : List Str) (mean : ExcName → Option Value) (mg mb : Str → Option Value) (c : Nat) (t : Tok) :
  PCl 10 PySem.Challenge.rw_mr0049_01.prog w (hd.heap_39 w.params) p loose mean mg mb 35 [.str (S [c]) t] (fun t => .str (S [c % 32]) t) := by
  w_top off
  dsimp only [PCl]
  k_fill
  intro dp un fr gd s Q E X T hdp hun hret
  refine wpAny_call ?_
  k_dflt (refine' code_pure ?k3 ?k5 ?k6 ?k7 ?k8 ?k9 ?kB ?_ ?c2 ?c3 ?c4 ?c5; (case k3 => assumption); (case k5 => assumption); (case k6 => k_is); (case k7 => k_is); (case k8 => (show dp < 1000); omega); (case k9 => exact BindsTo.of_eq rfl); (case c5 => decide); (case kB => exact locs rfl); (case c2 => exact rfl); (case c3 => exact rfl); (case c4 => exact rfl); k_whole; intro L' h' F' N')
  k_steps
  all_goals refine pc_retS (s := s) hret ?_ (by k_asm)
  all_goals walk_at "mClean"
  all_goals (rw [S_inj]; congr 1)

theorem alt_s (w : World) (p : Program) (loose : List Str) (mean : ExcName → Option Value) (mg mb : Str → Option Value) (c : Nat) (t : Tok) (hc : c < 1114112 - 128) :
  PCl 10 PySem.Challenge.rw_mr0049_01.prog w (hd.heap_39 w.params) p loose mean mg mb 42 [.str (S [c]) t] (fun t => .str (S [altN c]) t) := by
  w_top off
  dsimp only [PCl]
  k_fill
  intro dp un fr gd s Q E X T hdp hun hret
  refine wpAny_call ?_
  k_dflt (refine' code_pure ?k3 ?k5 ?k6 ?k7 ?k8 ?k9 ?kB ?_ ?c2 ?c3 ?c4 ?c5; (case k3 => assumption); (case k5 => assumption); (case k6 => k_is); (case k7 => k_is); (case k8 => (show dp < 1000); omega); (case k9 => exact BindsTo.of_eq rfl); (case c5 => decide); (case kB => exact locs rfl); (case c2 => exact rfl); (case c3 => exact rfl); (case c4 => exact rfl); k_whole; intro L' h' F' N')
  k_steps
  all_goals refine pc_retS (s := s) hret ?_ (by k_asm)
  all_goals walk_at "mClean"
  all_goals (rw [S_inj]; congr 1; unfold altN; split <;> omega)
end
section
open PySem PySem.W PyProof.Rows
set_option Elab.async false
set_option maxRecDepth 100000
set_option maxHeartbeats 40000000

theorem ln_3 : True := by
  k_with_none
  k_with "mI" => (first | omega | (simp only [List.length_cons, List.length_nil, List.length_append, List.length_take, List.length_drop, List.length_replicate, List.length_map, List.length_range, S_len, sizeLine_eq]; omega) | (simp only [List.length_cons, List.length_nil, List.length_append, List.length_take, List.length_drop, List.length_replicate, List.length_map, List.length_range, S_len, sizeLine_eq] at *; omega))
  k_with "mItem" => (first
  | ((with_reducible show wpAny _ _ (subscriptTail _ _ (Value.str (S (_ :: _)) _) (Value.int 0 _)) _ _ _); refine r_it0 (by walk_at "mI") ?_)
  | ((with_reducible show wpAny _ _ (subscriptTail _ _ (Value.str (S (_ :: _ :: _)) _) (Value.int 1 _)) _ _ _); refine r_it1 (by walk_at "mI") ?_)
  | ((with_reducible show wpAny _ _ (subscriptTail _ _ (Value.str (S _) _) (Value.int _ _)) _ _ _); refine r_item (by walk_at "mI") (by walk_at "mI") (by walk_at "mI") ?_))
  k_with "mSlice" => (((with_reducible rename Fr _ _ _ _ => F'); (with_reducible rename News _ _ _ _ => N'); (first
  | ((with_reducible show wpAny _ _ (subscriptTail _ (Expr.Slice (some _) none none _) (Value.str (S (_ :: _)) _) _) _ _ _); refine r_sl1 (s := ⟨_, _, _, _, _⟩) F' N' (by walk_at "mI") ?_)
  | refine r_ss (s := ⟨_, _, _, _, _⟩) F' N' (by walk_at "mI") (by walk_at "mI") (by walk_at "mI") ?_
  | refine r_sn (s := ⟨_, _, _, _, _⟩) F' N' (by walk_at "mI") (by walk_at "mI") ?_
  | refine r_ns (s := ⟨_, _, _, _, _⟩) F' N' (by walk_at "mI") (by walk_at "mI") ?_); intro _ _ _ _ _))
  k_with "subscriptTail" => (first | walk_at "mItem" | walk_at "mSlice")
  k_with "subscriptTail Name Name str int" => (walk_at "mItem")
  k_with "subscriptTail Name Constant str int" => (walk_at "mItem")
  k_with "subscriptTail Name Slice str ref" => (walk_at "mSlice")
  k_with "eval Constant str" => ((with_reducible first | refine r_const lit_bang ?_ | refine r_const lit_hat ?_ | refine r_const lit_q ?_ | refine r_const lit_thorn ?_ | refine r_const lit_del ?_ | refine r_const lit_ff ?_ | refine r_const lit_A ?_ | refine r_const lit_hq ?_ | refine r_const lit_h9 ?_ | refine r_const lit_sp ?_ | refine r_const lit_tilde ?_ | refine r_const lit_fe ?_ | refine r_const lit_hT ?_ | refine r_const lit_e ?_ | refine r_const lit_marks ?_))
  k_with "call builtin:len" => (first
  | ((with_reducible show wpAny _ _ (call (Value.builtin "len") [Value.str (S [_]) _]) _ _ _); refine r_len1 ?_)
  | ((with_reducible show wpAny _ _ (call (Value.builtin "len") [Value.str (S [_, _]) _]) _ _ _); refine r_len2 ?_)
  | ((with_reducible show wpAny _ _ (call (Value.builtin "len") [Value.str (S [_, _, _]) _]) _ _ _); refine r_len3 ?_)
  | ((with_reducible show wpAny _ _ (call (Value.builtin "len") [Value.str (S _) _]) _ _ _); refine r_len (by walk_at "mI") ?_))
  k_with "compareOp Eq str str" => (((with_reducible show wpAny _ _ (compareOp _ (Value.str (S _) _) (Value.str (S _) _)) _ _ _); refine r_eq ?_))
  k_with "compareOp NotEq str str" => (((with_reducible show wpAny _ _ (compareOp _ (Value.str (S _) _) (Value.str (S _) _)) _ _ _); refine r_ne ?_))
  k_with "compareOp In str str" => (((with_reducible show wpAny _ _ (compareOp _ (Value.str (S _) _) (Value.str (S _) _)) _ _ _); refine r_in ?_))
  k_with "compareOp Gt str str" => (((with_reducible show wpAny _ _ (compareOp _ (Value.str (S _) _) (Value.str (S _) _)) _ _ _); refine r_gt ?_))
  k_with "compareOp LtE str str" => (((with_reducible show wpAny _ _ (compareOp _ (Value.str (S _) _) (Value.str (S _) _)) _ _ _); refine r_le ?_))
  k_with "binaryOp Add str str" => (((with_reducible show wpAny _ _ (binaryOp _ (Value.str (S _) _) (Value.str (S _) _)) _ _ _); refine r_add ?_ (by walk_at "mI"); intro _ _))
  k_with "inplaceOp Add str str" => (((with_reducible show wpAny _ _ (inplaceOp _ (Value.str (S _) _) (Value.str (S _) _)) _ _ _); refine r_iadd ?_ (by walk_at "mI"); intro _ _))
  k_with "call builtin:ord" => (((with_reducible show wpAny _ _ (call (Value.builtin "ord") [Value.str (S _) _]) _ _ _); refine r_ord ?_))
  k_with "call builtin:chr" => ((refine r_chr (by walk_at "mChr") (by walk_at "mChr") ?_))
  k_with "mChr" => (first | omega | (split <;> omega))
  k_with "mRoom" => (((try simp only [depth_mark, depth_under_make, depth_under_kw, depth_in1, depth_deeper, depth_caller, units_in1, units_deeper, Around.mark_units, units_caller]); (try dsimp only [arA]); omega))
  k_with "mClean" => (((try clear hret); (repeat (with_reducible rename Fr _ _ _ _ => x9; clear x9)); (repeat (with_reducible rename News _ _ _ _ => x9; clear x9)); (repeat (with_reducible rename Below _ _ _ _ => x9; clear x9)); (repeat (with_reducible rename Top _ _ _ _ _ _ => x9; clear x9)); (repeat (with_reducible rename Frag.In _ _ => x9; clear x9))))
  k_with "mUse2" => (((intro t9 h9 tk9 F9 N9); (try dsimp only); (try k_fold)))
  k_with "binaryOp BitAnd int int" => (first
  | ((with_reducible show wpAny _ _ (binaryOp _ (Value.int _ _) (Value.int 127 _)) _ _ _); refine r_and127 ?_)
  | ((with_reducible show wpAny _ _ (binaryOp _ (Value.int _ _) (Value.int 31 _)) _ _ _); refine r_and31 ?_)
  | ((with_reducible show wpAny _ _ (binaryOp _ (Value.int _ _) (Value.int 128 _)) _ _ _); refine r_and128 (by omega) ?_ ?_ <;> intro _))
  k_with "binaryOp BitOr int int" => (first
  | ((with_reducible show wpAny _ _ (binaryOp _ (Value.int _ _) (Value.int 32 _)) _ _ _); refine r_or32 (by omega) ?_ ?_ <;> intro _)
  | ((with_reducible show wpAny _ _ (binaryOp _ (Value.int _ _) (Value.int 128 _)) _ _ _); refine r_or128 (by omega) ?_ ?_ <;> intro _))
  k_with "call ref" => ((k_here; (with_reducible show wpAny _ _ (call (Value.ref 21) [Value.str (S [_]) _]) _ _ _); k_dflt (refine PCl.use (ctoi_s _ _ _ _ _ _ _ _ ) (by k_asm) (by k_asm) (by k_asm) (by k_asm) (by walk_at "mRoom") (by walk_at "mRoom") ?_; k_whole); walk_at "mUse2"))
  k_with "call ref" => ((k_here; (with_reducible show wpAny _ _ (call (Value.ref 21) [Value.int _ _]) _ _ _); k_dflt (refine PCl.use (ctoi_i _ _ _ _ _ _ _ _ ) (by k_asm) (by k_asm) (by k_asm) (by k_asm) (by walk_at "mRoom") (by walk_at "mRoom") ?_; k_whole); walk_at "mUse2"))
  k_with "call ref" => ((k_here; (with_reducible show wpAny _ _ (call (Value.ref 28) [Value.str (S [_]) _]) _ _ _); k_dflt (refine PCl.use (isprint_s _ _ _ _ _ _ _ _ ) (by k_asm) (by k_asm) (by k_asm) (by k_asm) (by walk_at "mRoom") (by walk_at "mRoom") ?_; k_whole); walk_at "mUse2"))
  k_with "call ref" => ((k_here; (with_reducible show wpAny _ _ (call (Value.ref 28) [Value.int _ _]) _ _ _); k_dflt (refine PCl.use (isprint_i _ _ _ _ _ _ _ _ ) (by k_asm) (by k_asm) (by k_asm) (by k_asm) (by walk_at "mRoom") (by walk_at "mRoom") ?_; k_whole); walk_at "mUse2"))
  k_with "call ref" => ((k_here; (with_reducible show wpAny _ _ (call (Value.ref 35) [Value.str (S [_]) _]) _ _ _); k_dflt (refine PCl.use (ctrl_s _ _ _ _ _ _ _ _ ) (by k_asm) (by k_asm) (by k_asm) (by k_asm) (by walk_at "mRoom") (by walk_at "mRoom") ?_; k_whole); walk_at "mUse2"))
  k_with "call ref" => ((k_here; (with_reducible show wpAny _ _ (call (Value.ref 42) [Value.str (S [_]) _]) _ _ _); k_dflt (refine PCl.use (alt_s _ _ _ _ _ _ _ _ (by walk_at "mI")) (by k_asm) (by k_asm) (by k_asm) (by k_asm) (by walk_at "mRoom") (by walk_at "mRoom") ?_; k_whole); walk_at "mUse2"))
  trivial
theorem unctrl_s (w : World) (p : Program) (loose : List Str) (mean : ExcName → Option Value) (mg mb : Str → Option Value) (c : Nat) (t : Tok) :
  PCl 15 PySem.Challenge.rw_mr0049_01.prog w (hd.heap_39 w.params) p loose mean mg mb 49 [.str (S [c]) t] (fun t => .str (S (uncL c)) t) := by
  w_top off
  dsimp only [PCl]
  k_fill
  intro dp un fr gd s Q E X T hdp hun hret
  refine wpAny_call ?_
  k_dflt (refine' code_pure ?k3 ?k5 ?k6 ?k7 ?k8 ?k9 ?kB ?_ ?c2 ?c3 ?c4 ?c5; (case k3 => assumption); (case k5 => assumption); (case k6 => k_is); (case k7 => k_is); (case k8 => (show dp < 1000); omega); (case k9 => exact BindsTo.of_eq rfl); (case c5 => decide); (case kB => exact locs rfl); (case c2 => exact rfl); (case c3 => exact rfl); (case c4 => exact rfl); k_whole; intro L' h' F' N')
  k_steps
  all_goals refine pc_retS (s := s) hret ?_ (by k_asm)
  all_goals walk_at "mClean"
  all_goals first
    | exact u_1 (by assumption) (lo_a (by assumption))
    | exact u_0 (by assumption) (lo_a (by assumption))
    | exact u_1 (by assumption) (lo_b (by assumption))
    | exact u_0 (by assumption) (lo_b (by assumption))
    | exact u_1 (by assumption) (lo_c (by assumption) (by assumption) (by assumption))
    | exact u_0 (by assumption) (lo_c (by assumption) (by assumption) (by assumption))
    | exact u_1 (by assumption) (lo_d (by assumption) (by assumption) (by assumption))
    | exact u_0 (by assumption) (lo_d (by assumption) (by assumption) (by assumption))
end
section
open PySem PySem.W PyProof.Rows
set_option Elab.async false
set_option maxRecDepth 100000
set_option maxHeartbeats 40000000

theorem ln_4 : True := by
  k_with_none
  k_with "mI" => (first | omega | (simp only [List.length_cons, List.length_nil, List.length_append, List.length_take, List.length_drop, List.length_replicate, List.length_map, List.length_range, S_len, sizeLine_eq]; omega) | (simp only [List.length_cons, List.length_nil, List.length_append, List.length_take, List.length_drop, List.length_replicate, List.length_map, List.length_range, S_len, sizeLine_eq] at *; omega))
  k_with "mItem" => (first
  | ((with_reducible show wpAny _ _ (subscriptTail _ _ (Value.str (S (_ :: _)) _) (Value.int 0 _)) _ _ _); refine r_it0 (by walk_at "mI") ?_)
  | ((with_reducible show wpAny _ _ (subscriptTail _ _ (Value.str (S (_ :: _ :: _)) _) (Value.int 1 _)) _ _ _); refine r_it1 (by walk_at "mI") ?_)
  | ((with_reducible show wpAny _ _ (subscriptTail _ _ (Value.str (S _) _) (Value.int _ _)) _ _ _); refine r_item (by walk_at "mI") (by walk_at "mI") (by walk_at "mI") ?_))
  k_with "mSlice" => (((with_reducible rename Fr _ _ _ _ => F'); (with_reducible rename News _ _ _ _ => N'); (first
  | ((with_reducible show wpAny _ _ (subscriptTail _ (Expr.Slice (some _) none none _) (Value.str (S (_ :: _)) _) _) _ _ _); refine r_sl1 (s := ⟨_, _, _, _, _⟩) F' N' (by walk_at "mI") ?_)
  | refine r_ss (s := ⟨_, _, _, _, _⟩) F' N' (by walk_at "mI") (by walk_at "mI") (by walk_at "mI") ?_
  | refine r_sn (s := ⟨_, _, _, _, _⟩) F' N' (by walk_at "mI") (by walk_at "mI") ?_
  | refine r_ns (s := ⟨_, _, _, _, _⟩) F' N' (by walk_at "mI") (by walk_at "mI") ?_); intro _ _ _ _ _))
  k_with "subscriptTail" => (first | walk_at "mItem" | walk_at "mSlice")
  k_with "subscriptTail Name Name str int" => (walk_at "mItem")
  k_with "subscriptTail Name Constant str int" => (walk_at "mItem")
  k_with "subscriptTail Name Slice str ref" => (walk_at "mSlice")
  k_with "eval Constant str" => ((with_reducible first | refine r_const lit_bang ?_ | refine r_const lit_hat ?_ | refine r_const lit_q ?_ | refine r_const lit_thorn ?_ | refine r_const lit_del ?_ | refine r_const lit_ff ?_ | refine r_const lit_A ?_ | refine r_const lit_hq ?_ | refine r_const lit_h9 ?_ | refine r_const lit_sp ?_ | refine r_const lit_tilde ?_ | refine r_const lit_fe ?_ | refine r_const lit_hT ?_ | refine r_const lit_e ?_ | refine r_const lit_marks ?_))
  k_with "call builtin:len" => (first
  | ((with_reducible show wpAny _ _ (call (Value.builtin "len") [Value.str (S [_]) _]) _ _ _); refine r_len1 ?_)
  | ((with_reducible show wpAny _ _ (call (Value.builtin "len") [Value.str (S [_, _]) _]) _ _ _); refine r_len2 ?_)
  | ((with_reducible show wpAny _ _ (call (Value.builtin "len") [Value.str (S [_, _, _]) _]) _ _ _); refine r_len3 ?_)
  | ((with_reducible show wpAny _ _ (call (Value.builtin "len") [Value.str (S _) _]) _ _ _); refine r_len (by walk_at "mI") ?_))
  k_with "compareOp Eq str str" => (((with_reducible show wpAny _ _ (compareOp _ (Value.str (S _) _) (Value.str (S _) _)) _ _ _); refine r_eq ?_))
  k_with "compareOp NotEq str str" => (((with_reducible show wpAny _ _ (compareOp _ (Value.str (S _) _) (Value.str (S _) _)) _ _ _); refine r_ne ?_))
  k_with "compareOp In str str" => (((with_reducible show wpAny _ _ (compareOp _ (Value.str (S _) _) (Value.str (S _) _)) _ _ _); refine r_in ?_))
  k_with "compareOp Gt str str" => (((with_reducible show wpAny _ _ (compareOp _ (Value.str (S _) _) (Value.str (S _) _)) _ _ _); refine r_gt ?_))
  k_with "compareOp LtE str str" => (((with_reducible show wpAny _ _ (compareOp _ (Value.str (S _) _) (Value.str (S _) _)) _ _ _); refine r_le ?_))
  k_with "binaryOp Add str str" => (((with_reducible show wpAny _ _ (binaryOp _ (Value.str (S _) _) (Value.str (S _) _)) _ _ _); refine r_add ?_ (by walk_at "mI"); intro _ _))
  k_with "inplaceOp Add str str" => (((with_reducible show wpAny _ _ (inplaceOp _ (Value.str (S _) _) (Value.str (S _) _)) _ _ _); refine r_iadd ?_ (by walk_at "mI"); intro _ _))
  k_with "call builtin:ord" => (((with_reducible show wpAny _ _ (call (Value.builtin "ord") [Value.str (S _) _]) _ _ _); refine r_ord ?_))
  k_with "call builtin:chr" => ((refine r_chr (by walk_at "mChr") (by walk_at "mChr") ?_))
  k_with "mChr" => (first | omega | (split <;> omega))
  k_with "mRoom" => (((try simp only [depth_mark, depth_under_make, depth_under_kw, depth_in1, depth_deeper, depth_caller, units_in1, units_deeper, Around.mark_units, units_caller]); (try dsimp only [arA]); omega))
  k_with "mClean" => (((try clear hret); (repeat (with_reducible rename Fr _ _ _ _ => x9; clear x9)); (repeat (with_reducible rename News _ _ _ _ => x9; clear x9)); (repeat (with_reducible rename Below _ _ _ _ => x9; clear x9)); (repeat (with_reducible rename Top _ _ _ _ _ _ => x9; clear x9)); (repeat (with_reducible rename Frag.In _ _ => x9; clear x9))))
  k_with "mUse2" => (((intro t9 h9 tk9 F9 N9); (try dsimp only); (try k_fold)))
  k_with "binaryOp BitAnd int int" => (first
  | ((with_reducible show wpAny _ _ (binaryOp _ (Value.int _ _) (Value.int 127 _)) _ _ _); refine r_and127 ?_)
  | ((with_reducible show wpAny _ _ (binaryOp _ (Value.int _ _) (Value.int 31 _)) _ _ _); refine r_and31 ?_)
  | ((with_reducible show wpAny _ _ (binaryOp _ (Value.int _ _) (Value.int 128 _)) _ _ _); refine r_and128 (by omega) ?_ ?_ <;> intro _))
  k_with "binaryOp BitOr int int" => (first
  | ((with_reducible show wpAny _ _ (binaryOp _ (Value.int _ _) (Value.int 32 _)) _ _ _); refine r_or32 (by omega) ?_ ?_ <;> intro _)
  | ((with_reducible show wpAny _ _ (binaryOp _ (Value.int _ _) (Value.int 128 _)) _ _ _); refine r_or128 (by omega) ?_ ?_ <;> intro _))
  k_with "call ref" => ((k_here; (with_reducible show wpAny _ _ (call (Value.ref 21) [Value.str (S [_]) _]) _ _ _); k_dflt (refine PCl.use (ctoi_s _ _ _ _ _ _ _ _ ) (by k_asm) (by k_asm) (by k_asm) (by k_asm) (by walk_at "mRoom") (by walk_at "mRoom") ?_; k_whole); walk_at "mUse2"))
  k_with "call ref" => ((k_here; (with_reducible show wpAny _ _ (call (Value.ref 21) [Value.int _ _]) _ _ _); k_dflt (refine PCl.use (ctoi_i _ _ _ _ _ _ _ _ ) (by k_asm) (by k_asm) (by k_asm) (by k_asm) (by walk_at "mRoom") (by walk_at "mRoom") ?_; k_whole); walk_at "mUse2"))
  k_with "call ref" => ((k_here; (with_reducible show wpAny _ _ (call (Value.ref 28) [Value.str (S [_]) _]) _ _ _); k_dflt (refine PCl.use (isprint_s _ _ _ _ _ _ _ _ ) (by k_asm) (by k_asm) (by k_asm) (by k_asm) (by walk_at "mRoom") (by walk_at "mRoom") ?_; k_whole); walk_at "mUse2"))
  k_with "call ref" => ((k_here; (with_reducible show wpAny _ _ (call (Value.ref 28) [Value.int _ _]) _ _ _); k_dflt (refine PCl.use (isprint_i _ _ _ _ _ _ _ _ ) (by k_asm) (by k_asm) (by k_asm) (by k_asm) (by walk_at "mRoom") (by walk_at "mRoom") ?_; k_whole); walk_at "mUse2"))
  k_with "call ref" => ((k_here; (with_reducible show wpAny _ _ (call (Value.ref 35) [Value.str (S [_]) _]) _ _ _); k_dflt (refine PCl.use (ctrl_s _ _ _ _ _ _ _ _ ) (by k_asm) (by k_asm) (by k_asm) (by k_asm) (by walk_at "mRoom") (by walk_at "mRoom") ?_; k_whole); walk_at "mUse2"))
  k_with "call ref" => ((k_here; (with_reducible show wpAny _ _ (call (Value.ref 42) [Value.str (S [_]) _]) _ _ _); k_dflt (refine PCl.use (alt_s _ _ _ _ _ _ _ _ (by walk_at "mI")) (by k_asm) (by k_asm) (by k_asm) (by k_asm) (by walk_at "mRoom") (by walk_at "mRoom") ?_; k_whole); walk_at "mUse2"))
  trivial
theorem marks_ok (w : World) (p : Program) (loose : List Str) (mean : ExcName → Option Value) (mg mb : Str → Option Value)  :
  PCl 5 PySem.Challenge.rw_mr0049_01.prog w (hd.heap_39 w.params) p loose mean mg mb 70 [] (fun t => .str (S ((List.range 33).map (63 + ·))) t) := by
  w_top off
  dsimp only [PCl]
  k_fill
  intro dp un fr gd s Q E X T hdp hun hret
  refine wpAny_call ?_
  k_dflt (refine' code_pure ?k3 ?k5 ?k6 ?k7 ?k8 ?k9 ?kB ?_ ?c2 ?c3 ?c4 ?c5; (case k3 => assumption); (case k5 => assumption); (case k6 => k_is); (case k7 => k_is); (case k8 => (show dp < 1000); omega); (case k9 => exact BindsTo.of_eq rfl); (case c5 => decide); (case kB => exact locs rfl); (case c2 => exact rfl); (case c3 => exact rfl); (case c4 => exact rfl); k_whole; intro L' h' F' N')
  k_steps
  all_goals refine pc_retS (s := s) hret ?_ (by k_asm)
  all_goals walk_at "mClean"
  all_goals rfl

def widthL (l : List Nat) (k : Nat) : Nat :=
  let ahead := if l.getD k 0 = 33 ∧ k + 1 < l.length then 1 else 0
  let two := (l.drop (k + ahead)).take 2
  if two.length = 2 ∧ two.getD 0 0 = 94 ∧ (63 ≤ two.getD 1 0 ∧ two.getD 1 0 ≤ 95) then ahead + 2 else 2 * ahead
theorem width_1 (l : List Nat) (k : Int) (h0 : 0 ≤ k) : widthL l k.toNat = 
   if [l.getD k.toNat 0] = [33] ∧ k + 1 < l.length then 
     (if ((List.take ((k + 1 + 2).toNat - (k + 1).toNat) (List.drop (k + 1).toNat l)).length : Int) = 2 ∧ [(List.take ((k + 1 + 2).toNat - (k + 1).toNat) (List.drop (k + 1).toNat l)).getD (Int.toNat 0) 0] = [94] ∧ (List.take ((k + 1 + 2).toNat - (k + 1).toNat) (List.drop (k + 1).toNat l)).getD (Int.toNat 1) 0 ∈ (List.range 33).map (63 + ·) then 3 else 2)
   else (if ((List.take ((k + 0 + 2).toNat - (k + 0).toNat) (List.drop (k + 0).toNat l)).length : Int) = 2 ∧ [(List.take ((k + 0 + 2).toNat - (k + 0).toNat) (List.drop (k + 0).toNat l)).getD (Int.toNat 0) 0] = [94] ∧ (List.take ((k + 0 + 2).toNat - (k + 0).toNat) (List.drop (k + 0).toNat l)).getD (Int.toNat 1) 0 ∈ (List.range 33).map (63 + ·) then 2 else 0) := by
  obtain ⟨n, rfl⟩ := Int.eq_ofNat_of_zero_le h0
  unfold widthL
  have c : ∀ x : Nat, (((x : Nat) : Int) = 2) ↔ (x = 2) := fun x => by omega
  simp only [c, mem_marks, Int.toNat_natCast, Int.add_zero, show (((n : Int) + 1).toNat) = n + 1 by omega, show (((n : Int) + 1 + 2).toNat) - (n + 1) = 2 by omega, show (((n : Int) + 2).toNat) - n = 2 by omega, List.cons.injEq, and_true, Int.toNat_zero, Int.toNat_one, show ((n : Int) + 1 < (l.length : Int)) ↔ n + 1 < l.length by omega]
  split <;> simp
end
section
open PySem PySem.W PyProof.Rows
set_option Elab.async false
set_option maxRecDepth 100000
set_option maxHeartbeats 40000000

theorem ln_5 : True := by
  k_with_none
  k_with "mI" => (first | omega | (simp only [List.length_cons, List.length_nil, List.length_append, List.length_take, List.length_drop, List.length_replicate, List.length_map, List.length_range, S_len, sizeLine_eq]; omega) | (simp only [List.length_cons, List.length_nil, List.length_append, List.length_take, List.length_drop, List.length_replicate, List.length_map, List.length_range, S_len, sizeLine_eq] at *; omega))
  k_with "mItem" => (first
  | ((with_reducible show wpAny _ _ (subscriptTail _ _ (Value.str (S (_ :: _)) _) (Value.int 0 _)) _ _ _); refine r_it0 (by walk_at "mI") ?_)
  | ((with_reducible show wpAny _ _ (subscriptTail _ _ (Value.str (S (_ :: _ :: _)) _) (Value.int 1 _)) _ _ _); refine r_it1 (by walk_at "mI") ?_)
  | ((with_reducible show wpAny _ _ (subscriptTail _ _ (Value.str (S _) _) (Value.int _ _)) _ _ _); refine r_item (by walk_at "mI") (by walk_at "mI") (by walk_at "mI") ?_))
  k_with "mSlice" => (((with_reducible rename Fr _ _ _ _ => F'); (with_reducible rename News _ _ _ _ => N'); (first
  | ((with_reducible show wpAny _ _ (subscriptTail _ (Expr.Slice (some _) none none _) (Value.str (S (_ :: _)) _) _) _ _ _); refine r_sl1 (s := ⟨_, _, _, _, _⟩) F' N' (by walk_at "mI") ?_)
  | refine r_ss (s := ⟨_, _, _, _, _⟩) F' N' (by walk_at "mI") (by walk_at "mI") (by walk_at "mI") ?_
  | refine r_sn (s := ⟨_, _, _, _, _⟩) F' N' (by walk_at "mI") (by walk_at "mI") ?_
  | refine r_ns (s := ⟨_, _, _, _, _⟩) F' N' (by walk_at "mI") (by walk_at "mI") ?_); intro _ _ _ _ _))
  k_with "subscriptTail" => (first | walk_at "mItem" | walk_at "mSlice")
  k_with "subscriptTail Name Name str int" => (walk_at "mItem")
  k_with "subscriptTail Name Constant str int" => (walk_at "mItem")
  k_with "subscriptTail Name Slice str ref" => (walk_at "mSlice")
  k_with "eval Constant str" => ((with_reducible first | refine r_const lit_bang ?_ | refine r_const lit_hat ?_ | refine r_const lit_q ?_ | refine r_const lit_thorn ?_ | refine r_const lit_del ?_ | refine r_const lit_ff ?_ | refine r_const lit_A ?_ | refine r_const lit_hq ?_ | refine r_const lit_h9 ?_ | refine r_const lit_sp ?_ | refine r_const lit_tilde ?_ | refine r_const lit_fe ?_ | refine r_const lit_hT ?_ | refine r_const lit_e ?_ | refine r_const lit_marks ?_))
  k_with "call builtin:len" => (first
  | ((with_reducible show wpAny _ _ (call (Value.builtin "len") [Value.str (S [_]) _]) _ _ _); refine r_len1 ?_)
  | ((with_reducible show wpAny _ _ (call (Value.builtin "len") [Value.str (S [_, _]) _]) _ _ _); refine r_len2 ?_)
  | ((with_reducible show wpAny _ _ (call (Value.builtin "len") [Value.str (S [_, _, _]) _]) _ _ _); refine r_len3 ?_)
  | ((with_reducible show wpAny _ _ (call (Value.builtin "len") [Value.str (S _) _]) _ _ _); refine r_len (by walk_at "mI") ?_))
  k_with "compareOp Eq str str" => (((with_reducible show wpAny _ _ (compareOp _ (Value.str (S _) _) (Value.str (S _) _)) _ _ _); refine r_eq ?_))
  k_with "compareOp NotEq str str" => (((with_reducible show wpAny _ _ (compareOp _ (Value.str (S _) _) (Value.str (S _) _)) _ _ _); refine r_ne ?_))
  k_with "compareOp In str str" => (((with_reducible show wpAny _ _ (compareOp _ (Value.str (S _) _) (Value.str (S _) _)) _ _ _); refine r_in ?_))
  k_with "compareOp Gt str str" => (((with_reducible show wpAny _ _ (compareOp _ (Value.str (S _) _) (Value.str (S _) _)) _ _ _); refine r_gt ?_))
  k_with "compareOp LtE str str" => (((with_reducible show wpAny _ _ (compareOp _ (Value.str (S _) _) (Value.str (S _) _)) _ _ _); refine r_le ?_))
  k_with "binaryOp Add str str" => (((with_reducible show wpAny _ _ (binaryOp _ (Value.str (S _) _) (Value.str (S _) _)) _ _ _); refine r_add ?_ (by walk_at "mI"); intro _ _))
  k_with "inplaceOp Add str str" => (((with_reducible show wpAny _ _ (inplaceOp _ (Value.str (S _) _) (Value.str (S _) _)) _ _ _); refine r_iadd ?_ (by walk_at "mI"); intro _ _))
  k_with "call builtin:ord" => (((with_reducible show wpAny _ _ (call (Value.builtin "ord") [Value.str (S _) _]) _ _ _); refine r_ord ?_))
  k_with "call builtin:chr" => ((refine r_chr (by walk_at "mChr") (by walk_at "mChr") ?_))
  k_with "mChr" => (first | omega | (split <;> omega))
  k_with "mRoom" => (((try simp only [depth_mark, depth_under_make, depth_under_kw, depth_in1, depth_deeper, depth_caller, units_in1, units_deeper, Around.mark_units, units_caller]); (try dsimp only [arA]); omega))
  k_with "mClean" => (((try clear hret); (repeat (with_reducible rename Fr _ _ _ _ => x9; clear x9)); (repeat (with_reducible rename News _ _ _ _ => x9; clear x9)); (repeat (with_reducible rename Below _ _ _ _ => x9; clear x9)); (repeat (with_reducible rename Top _ _ _ _ _ _ => x9; clear x9)); (repeat (with_reducible rename Frag.In _ _ => x9; clear x9))))
  k_with "mUse2" => (((intro t9 h9 tk9 F9 N9); (try dsimp only); (try k_fold)))
  k_with "binaryOp BitAnd int int" => (first
  | ((with_reducible show wpAny _ _ (binaryOp _ (Value.int _ _) (Value.int 127 _)) _ _ _); refine r_and127 ?_)
  | ((with_reducible show wpAny _ _ (binaryOp _ (Value.int _ _) (Value.int 31 _)) _ _ _); refine r_and31 ?_)
  | ((with_reducible show wpAny _ _ (binaryOp _ (Value.int _ _) (Value.int 128 _)) _ _ _); refine r_and128 (by omega) ?_ ?_ <;> intro _))
  k_with "binaryOp BitOr int int" => (first
  | ((with_reducible show wpAny _ _ (binaryOp _ (Value.int _ _) (Value.int 32 _)) _ _ _); refine r_or32 (by omega) ?_ ?_ <;> intro _)
  | ((with_reducible show wpAny _ _ (binaryOp _ (Value.int _ _) (Value.int 128 _)) _ _ _); refine r_or128 (by omega) ?_ ?_ <;> intro _))
  k_with "call ref" => ((k_here; (with_reducible show wpAny _ _ (call (Value.ref 21) [Value.str (S [_]) _]) _ _ _); k_dflt (refine PCl.use (ctoi_s _ _ _ _ _ _ _ _ ) (by k_asm) (by k_asm) (by k_asm) (by k_asm) (by walk_at "mRoom") (by walk_at "mRoom") ?_; k_whole); walk_at "mUse2"))
  k_with "call ref" => ((k_here; (with_reducible show wpAny _ _ (call (Value.ref 21) [Value.int _ _]) _ _ _); k_dflt (refine PCl.use (ctoi_i _ _ _ _ _ _ _ _ ) (by k_asm) (by k_asm) (by k_asm) (by k_asm) (by walk_at "mRoom") (by walk_at "mRoom") ?_; k_whole); walk_at "mUse2"))
  k_with "call ref" => ((k_here; (with_reducible show wpAny _ _ (call (Value.ref 28) [Value.str (S [_]) _]) _ _ _); k_dflt (refine PCl.use (isprint_s _ _ _ _ _ _ _ _ ) (by k_asm) (by k_asm) (by k_asm) (by k_asm) (by walk_at "mRoom") (by walk_at "mRoom") ?_; k_whole); walk_at "mUse2"))
  k_with "call ref" => ((k_here; (with_reducible show wpAny _ _ (call (Value.ref 28) [Value.int _ _]) _ _ _); k_dflt (refine PCl.use (isprint_i _ _ _ _ _ _ _ _ ) (by k_asm) (by k_asm) (by k_asm) (by k_asm) (by walk_at "mRoom") (by walk_at "mRoom") ?_; k_whole); walk_at "mUse2"))
  k_with "call ref" => ((k_here; (with_reducible show wpAny _ _ (call (Value.ref 35) [Value.str (S [_]) _]) _ _ _); k_dflt (refine PCl.use (ctrl_s _ _ _ _ _ _ _ _ ) (by k_asm) (by k_asm) (by k_asm) (by k_asm) (by walk_at "mRoom") (by walk_at "mRoom") ?_; k_whole); walk_at "mUse2"))
  k_with "call ref" => ((k_here; (with_reducible show wpAny _ _ (call (Value.ref 42) [Value.str (S [_]) _]) _ _ _); k_dflt (refine PCl.use (alt_s _ _ _ _ _ _ _ _ (by walk_at "mI")) (by k_asm) (by k_asm) (by k_asm) (by k_asm) (by walk_at "mRoom") (by walk_at "mRoom") ?_; k_whole); walk_at "mUse2"))
  k_with "call ref" => ((k_here; (with_reducible show wpAny _ _ (call (Value.ref 49) [Value.str (S [_]) _]) _ _ _); k_dflt (refine PCl.use (unctrl_s _ _ _ _ _ _ _ _ ) (by k_asm) (by k_asm) (by k_asm) (by k_asm) (by walk_at "mRoom") (by walk_at "mRoom") ?_; k_whole); walk_at "mUse2"))
  k_with "call ref" => ((k_here; (with_reducible show wpAny _ _ (call (Value.ref 70) _) _ _ _); k_dflt (refine PCl.use (marks_ok _ _ _ _ _ _  ) (by k_asm) (by k_asm) (by k_asm) (by k_asm) (by walk_at "mRoom") (by walk_at "mRoom") ?_; k_whole); walk_at "mUse2"))
  trivial
theorem hat_list : (Str.ofString "^").1.toList = [94] := by decide +kernel

theorem width_ok (w : World) (p : Program) (loose : List Str) (mean : ExcName → Option Value) (mg mb : Str → Option Value) (l : List Nat) (t : Tok) (k : Int) (u : Tok) (h0 : 0 ≤ k) (h1 : k < (l.length : Int)) (hl : l.length < 1000) :
  PCl 10 PySem.Challenge.rw_mr0049_01.prog w (hd.heap_39 w.params) p loose mean mg mb 82 [.str (S l) t, .int k u] (fun t => .int (widthL l k.toNat) t) := by
  w_top off
  dsimp only [PCl]
  k_fill
  intro dp un fr gd s Q E X T hdp hun hret
  refine wpAny_call ?_
  k_dflt (refine' code_pure ?k3 ?k5 ?k6 ?k7 ?k8 ?k9 ?kB ?_ ?c2 ?c3 ?c4 ?c5; (case k3 => assumption); (case k5 => assumption); (case k6 => k_is); (case k7 => k_is); (case k8 => (show dp < 1000); omega); (case k9 => exact BindsTo.of_eq rfl); (case c5 => decide); (case kB => exact locs rfl); (case c2 => exact rfl); (case c3 => exact rfl); (case c4 => exact rfl); k_whole; intro L' h' F' N')
  k_steps
  all_goals refine pc_retI (s := s) hret ?_ (by k_asm)
  all_goals walk_at "mClean"
  all_goals rw [width_1 l k h0]
  all_goals (simp only [*, ne_eq, eq_self, not_false_eq_true, and_self, and_true, true_and, and_false, false_and, if_true, if_false, not_true_eq_false]; try rfl)

def rd2 (m : Nat) : Nat := if m = 63 then 127 else m % 32

theorem read_2 (w : World) (p : Program) (loose : List Str) (mean : ExcName → Option Value) (mg mb : Str → Option Value) (m : Nat) (t : Tok) :
  PCl 20 PySem.Challenge.rw_mr0049_01.prog w (hd.heap_39 w.params) p loose mean mg mb 89 [.str (S [94, m]) t] (fun t => .str (S [rd2 m]) t) := by
  w_top off
  dsimp only [PCl]
  k_fill
  intro dp un fr gd s Q E X T hdp hun hret
  refine wpAny_call ?_
  k_dflt (refine' code_pure ?k3 ?k5 ?k6 ?k7 ?k8 ?k9 ?kB ?_ ?c2 ?c3 ?c4 ?c5; (case k3 => assumption); (case k5 => assumption); (case k6 => k_is); (case k7 => k_is); (case k8 => (show dp < 1000); omega); (case k9 => exact BindsTo.of_eq rfl); (case c5 => decide); (case kB => exact locs rfl); (case c2 => exact rfl); (case c3 => exact rfl); (case c4 => exact rfl); k_whole; intro L' h' F' N')
  k_steps
  all_goals refine pc_retS (s := s) hret ?_ (by k_asm)
  all_goals walk_at "mClean"
  all_goals first | (exfalso; simp at *; done) | (rw [S_inj]; unfold rd2; simp_all; done)

theorem read_0 (w : World) (p : Program) (loose : List Str) (mean : ExcName → Option Value) (mg mb : Str → Option Value) (m : Nat) (t : Tok) :
  PCl 15 PySem.Challenge.rw_mr0049_01.prog w (hd.heap_39 w.params) p loose mean mg mb 89 [.str (S [m]) t] (fun t => .str (S [m]) t) := by
  w_top off
  dsimp only [PCl]
  k_fill
  intro dp un fr gd s Q E X T hdp hun hret
  refine wpAny_call ?_
  k_dflt (refine' code_pure ?k3 ?k5 ?k6 ?k7 ?k8 ?k9 ?kB ?_ ?c2 ?c3 ?c4 ?c5; (case k3 => assumption); (case k5 => assumption); (case k6 => k_is); (case k7 => k_is); (case k8 => (show dp < 1000); omega); (case k9 => exact BindsTo.of_eq rfl); (case c5 => decide); (case kB => exact locs rfl); (case c2 => exact rfl); (case c3 => exact rfl); (case c4 => exact rfl); k_whole; intro L' h' F' N')
  k_steps
  all_goals refine pc_retS (s := s) hret ?_ (by k_asm)
  all_goals walk_at "mClean"
  all_goals first | (exfalso; simp at *; done) | rfl
end
section
open PySem PySem.W PyProof.Rows
set_option Elab.async false
set_option maxRecDepth 100000
set_option maxHeartbeats 40000000

theorem ln_6 : True := by
  k_with_none
  k_with "mI" => (first | omega | (simp only [List.length_cons, List.length_nil, List.length_append, List.length_take, List.length_drop, List.length_replicate, List.length_map, List.length_range, S_len, sizeLine_eq]; omega) | (simp only [List.length_cons, List.length_nil, List.length_append, List.length_take, List.length_drop, List.length_replicate, List.length_map, List.length_range, S_len, sizeLine_eq] at *; omega))
  k_with "mItem" => (first
  | ((with_reducible show wpAny _ _ (subscriptTail _ _ (Value.str (S (_ :: _)) _) (Value.int 0 _)) _ _ _); refine r_it0 (by walk_at "mI") ?_)
  | ((with_reducible show wpAny _ _ (subscriptTail _ _ (Value.str (S (_ :: _ :: _)) _) (Value.int 1 _)) _ _ _); refine r_it1 (by walk_at "mI") ?_)
  | ((with_reducible show wpAny _ _ (subscriptTail _ _ (Value.str (S _) _) (Value.int _ _)) _ _ _); refine r_item (by walk_at "mI") (by walk_at "mI") (by walk_at "mI") ?_))
  k_with "mSlice" => (((with_reducible rename Fr _ _ _ _ => F'); (with_reducible rename News _ _ _ _ => N'); (first
  | ((with_reducible show wpAny _ _ (subscriptTail _ (Expr.Slice (some _) none none _) (Value.str (S (_ :: _)) _) _) _ _ _); refine r_sl1 (s := ⟨_, _, _, _, _⟩) F' N' (by walk_at "mI") ?_)
  | refine r_ss (s := ⟨_, _, _, _, _⟩) F' N' (by walk_at "mI") (by walk_at "mI") (by walk_at "mI") ?_
  | refine r_sn (s := ⟨_, _, _, _, _⟩) F' N' (by walk_at "mI") (by walk_at "mI") ?_
  | refine r_ns (s := ⟨_, _, _, _, _⟩) F' N' (by walk_at "mI") (by walk_at "mI") ?_); intro _ _ _ _ _))
  k_with "subscriptTail" => (first | walk_at "mItem" | walk_at "mSlice")
  k_with "subscriptTail Name Name str int" => (walk_at "mItem")
  k_with "subscriptTail Name Constant str int" => (walk_at "mItem")
  k_with "subscriptTail Name Slice str ref" => (walk_at "mSlice")
  k_with "eval Constant str" => ((with_reducible first | refine r_const lit_bang ?_ | refine r_const lit_hat ?_ | refine r_const lit_q ?_ | refine r_const lit_thorn ?_ | refine r_const lit_del ?_ | refine r_const lit_ff ?_ | refine r_const lit_A ?_ | refine r_const lit_hq ?_ | refine r_const lit_h9 ?_ | refine r_const lit_sp ?_ | refine r_const lit_tilde ?_ | refine r_const lit_fe ?_ | refine r_const lit_hT ?_ | refine r_const lit_e ?_ | refine r_const lit_marks ?_))
  k_with "call builtin:len" => (first
  | ((with_reducible show wpAny _ _ (call (Value.builtin "len") [Value.str (S [_]) _]) _ _ _); refine r_len1 ?_)
  | ((with_reducible show wpAny _ _ (call (Value.builtin "len") [Value.str (S [_, _]) _]) _ _ _); refine r_len2 ?_)
  | ((with_reducible show wpAny _ _ (call (Value.builtin "len") [Value.str (S [_, _, _]) _]) _ _ _); refine r_len3 ?_)
  | ((with_reducible show wpAny _ _ (call (Value.builtin "len") [Value.str (S _) _]) _ _ _); refine r_len (by walk_at "mI") ?_))
  k_with "compareOp Eq str str" => (((with_reducible show wpAny _ _ (compareOp _ (Value.str (S _) _) (Value.str (S _) _)) _ _ _); refine r_eq ?_))
  k_with "compareOp NotEq str str" => (((with_reducible show wpAny _ _ (compareOp _ (Value.str (S _) _) (Value.str (S _) _)) _ _ _); refine r_ne ?_))
  k_with "compareOp In str str" => (((with_reducible show wpAny _ _ (compareOp _ (Value.str (S _) _) (Value.str (S _) _)) _ _ _); refine r_in ?_))
  k_with "compareOp Gt str str" => (((with_reducible show wpAny _ _ (compareOp _ (Value.str (S _) _) (Value.str (S _) _)) _ _ _); refine r_gt ?_))
  k_with "compareOp LtE str str" => (((with_reducible show wpAny _ _ (compareOp _ (Value.str (S _) _) (Value.str (S _) _)) _ _ _); refine r_le ?_))
  k_with "binaryOp Add str str" => (((with_reducible show wpAny _ _ (binaryOp _ (Value.str (S _) _) (Value.str (S _) _)) _ _ _); refine r_add ?_ (by walk_at "mI"); intro _ _))
  k_with "inplaceOp Add str str" => (((with_reducible show wpAny _ _ (inplaceOp _ (Value.str (S _) _) (Value.str (S _) _)) _ _ _); refine r_iadd ?_ (by walk_at "mI"); intro _ _))
  k_with "call builtin:ord" => (((with_reducible show wpAny _ _ (call (Value.builtin "ord") [Value.str (S _) _]) _ _ _); refine r_ord ?_))
  k_with "call builtin:chr" => ((refine r_chr (by walk_at "mChr") (by walk_at "mChr") ?_))
  k_with "mChr" => (first | omega | (split <;> omega))
  k_with "mRoom" => (((try simp only [depth_mark, depth_under_make, depth_under_kw, depth_in1, depth_deeper, depth_caller, units_in1, units_deeper, Around.mark_units, units_caller]); (try dsimp only [arA]); omega))
  k_with "mClean" => (((try clear hret); (repeat (with_reducible rename Fr _ _ _ _ => x9; clear x9)); (repeat (with_reducible rename News _ _ _ _ => x9; clear x9)); (repeat (with_reducible rename Below _ _ _ _ => x9; clear x9)); (repeat (with_reducible rename Top _ _ _ _ _ _ => x9; clear x9)); (repeat (with_reducible rename Frag.In _ _ => x9; clear x9))))
  k_with "mUse2" => (((intro t9 h9 tk9 F9 N9); (try dsimp only); (try k_fold)))
  k_with "binaryOp BitAnd int int" => (first
  | ((with_reducible show wpAny _ _ (binaryOp _ (Value.int _ _) (Value.int 127 _)) _ _ _); refine r_and127 ?_)
  | ((with_reducible show wpAny _ _ (binaryOp _ (Value.int _ _) (Value.int 31 _)) _ _ _); refine r_and31 ?_)
  | ((with_reducible show wpAny _ _ (binaryOp _ (Value.int _ _) (Value.int 128 _)) _ _ _); refine r_and128 (by omega) ?_ ?_ <;> intro _))
  k_with "binaryOp BitOr int int" => (first
  | ((with_reducible show wpAny _ _ (binaryOp _ (Value.int _ _) (Value.int 32 _)) _ _ _); refine r_or32 (by omega) ?_ ?_ <;> intro _)
  | ((with_reducible show wpAny _ _ (binaryOp _ (Value.int _ _) (Value.int 128 _)) _ _ _); refine r_or128 (by omega) ?_ ?_ <;> intro _))
  k_with "call ref" => ((k_here; (with_reducible show wpAny _ _ (call (Value.ref 21) [Value.str (S [_]) _]) _ _ _); k_dflt (refine PCl.use (ctoi_s _ _ _ _ _ _ _ _ ) (by k_asm) (by k_asm) (by k_asm) (by k_asm) (by walk_at "mRoom") (by walk_at "mRoom") ?_; k_whole); walk_at "mUse2"))
  k_with "call ref" => ((k_here; (with_reducible show wpAny _ _ (call (Value.ref 21) [Value.int _ _]) _ _ _); k_dflt (refine PCl.use (ctoi_i _ _ _ _ _ _ _ _ ) (by k_asm) (by k_asm) (by k_asm) (by k_asm) (by walk_at "mRoom") (by walk_at "mRoom") ?_; k_whole); walk_at "mUse2"))
  k_with "call ref" => ((k_here; (with_reducible show wpAny _ _ (call (Value.ref 28) [Value.str (S [_]) _]) _ _ _); k_dflt (refine PCl.use (isprint_s _ _ _ _ _ _ _ _ ) (by k_asm) (by k_asm) (by k_asm) (by k_asm) (by walk_at "mRoom") (by walk_at "mRoom") ?_; k_whole); walk_at "mUse2"))
  k_with "call ref" => ((k_here; (with_reducible show wpAny _ _ (call (Value.ref 28) [Value.int _ _]) _ _ _); k_dflt (refine PCl.use (isprint_i _ _ _ _ _ _ _ _ ) (by k_asm) (by k_asm) (by k_asm) (by k_asm) (by walk_at "mRoom") (by walk_at "mRoom") ?_; k_whole); walk_at "mUse2"))
  k_with "call ref" => ((k_here; (with_reducible show wpAny _ _ (call (Value.ref 35) [Value.str (S [_]) _]) _ _ _); k_dflt (refine PCl.use (ctrl_s _ _ _ _ _ _ _ _ ) (by k_asm) (by k_asm) (by k_asm) (by k_asm) (by walk_at "mRoom") (by walk_at "mRoom") ?_; k_whole); walk_at "mUse2"))
  k_with "call ref" => ((k_here; (with_reducible show wpAny _ _ (call (Value.ref 42) [Value.str (S [_]) _]) _ _ _); k_dflt (refine PCl.use (alt_s _ _ _ _ _ _ _ _ (by walk_at "mI")) (by k_asm) (by k_asm) (by k_asm) (by k_asm) (by walk_at "mRoom") (by walk_at "mRoom") ?_; k_whole); walk_at "mUse2"))
  k_with "call ref" => ((k_here; (with_reducible show wpAny _ _ (call (Value.ref 49) [Value.str (S [_]) _]) _ _ _); k_dflt (refine PCl.use (unctrl_s _ _ _ _ _ _ _ _ ) (by k_asm) (by k_asm) (by k_asm) (by k_asm) (by walk_at "mRoom") (by walk_at "mRoom") ?_; k_whole); walk_at "mUse2"))
  k_with "call ref" => ((k_here; (with_reducible show wpAny _ _ (call (Value.ref 70) _) _ _ _); k_dflt (refine PCl.use (marks_ok _ _ _ _ _ _  ) (by k_asm) (by k_asm) (by k_asm) (by k_asm) (by walk_at "mRoom") (by walk_at "mRoom") ?_; k_whole); walk_at "mUse2"))
  k_with "call ref" => ((k_here; (with_reducible show wpAny _ _ (call (Value.ref 82) [Value.str (S _) _, Value.int _ _]) _ _ _); k_dflt (refine PCl.use (width_ok _ _ _ _ _ _ _ _ _ _ (by walk_at "mI") (by walk_at "mI") (by walk_at "mI")) (by k_asm) (by k_asm) (by k_asm) (by k_asm) (by walk_at "mRoom") (by walk_at "mRoom") ?_; k_whole); walk_at "mUse2"))
  k_with "call ref" => ((k_here; (with_reducible show wpAny _ _ (call (Value.ref 89) [Value.str (S [94, _]) _]) _ _ _); k_dflt (refine PCl.use (read_2 _ _ _ _ _ _ _ _ ) (by k_asm) (by k_asm) (by k_asm) (by k_asm) (by walk_at "mRoom") (by walk_at "mRoom") ?_; k_whole); walk_at "mUse2"))
  k_with "call ref" => ((k_here; (with_reducible show wpAny _ _ (call (Value.ref 89) [Value.str (S [_]) _]) _ _ _); k_dflt (refine PCl.use (read_0 _ _ _ _ _ _ _ _ ) (by k_asm) (by k_asm) (by k_asm) (by k_asm) (by walk_at "mRoom") (by walk_at "mRoom") ?_; k_whole); walk_at "mUse2"))
  trivial
theorem read_1 (w : World) (p : Program) (loose : List Str) (mean : ExcName → Option Value) (mg mb : Str → Option Value) (c : Nat) (t : Tok) (hc : c < 1000) :
  PCl 25 PySem.Challenge.rw_mr0049_01.prog w (hd.heap_39 w.params) p loose mean mg mb 89 [.str (S [33, c]) t] (fun t => .str (S [altN c]) t) := by
  w_top off
  dsimp only [PCl]
  k_fill
  intro dp un fr gd s Q E X T hdp hun hret
  refine wpAny_call ?_
  k_dflt (refine' code_pure ?k3 ?k5 ?k6 ?k7 ?k8 ?k9 ?kB ?_ ?c2 ?c3 ?c4 ?c5; (case k3 => assumption); (case k5 => assumption); (case k6 => k_is); (case k7 => k_is); (case k8 => (show dp < 1000); omega); (case k9 => exact BindsTo.of_eq rfl); (case c5 => decide); (case kB => exact locs rfl); (case c2 => exact rfl); (case c3 => exact rfl); (case c4 => exact rfl); k_whole; intro L' h' F' N')
  k_steps
  all_goals refine pc_retS (s := s) hret ?_ (by k_asm)
  all_goals walk_at "mClean"
  all_goals first | (exfalso; simp at *; done) | rfl

theorem read_3 (w : World) (p : Program) (loose : List Str) (mean : ExcName → Option Value) (mg mb : Str → Option Value) (m : Nat) (t : Tok) (hm : m < 1000) :
  PCl 25 PySem.Challenge.rw_mr0049_01.prog w (hd.heap_39 w.params) p loose mean mg mb 89 [.str (S [33, 94, m]) t] (fun t => .str (S [altN (rd2 m)]) t) := by
  w_top off
  dsimp only [PCl]
  k_fill
  intro dp un fr gd s Q E X T hdp hun hret
  have hr : rd2 m < 200 := by unfold rd2; split <;> omega
  refine wpAny_call ?_
  k_dflt (refine' code_pure ?k3 ?k5 ?k6 ?k7 ?k8 ?k9 ?kB ?_ ?c2 ?c3 ?c4 ?c5; (case k3 => assumption); (case k5 => assumption); (case k6 => k_is); (case k7 => k_is); (case k8 => (show dp < 1000); omega); (case k9 => exact BindsTo.of_eq rfl); (case c5 => decide); (case kB => exact locs rfl); (case c2 => exact rfl); (case c3 => exact rfl); (case c4 => exact rfl); k_whole; intro L' h' F' N')
  k_steps
  all_goals refine pc_retS (s := s) hret ?_ (by k_asm)
  all_goals walk_at "mClean"
  all_goals first | (exfalso; simp at *; done) | rfl
end
section
open PySem PySem.W PyProof.Rows
set_option Elab.async false
set_option maxRecDepth 100000
set_option maxHeartbeats 40000000

theorem ln_7 : True := by
  k_with_none
  k_with "mI" => (first | omega | (simp only [List.length_cons, List.length_nil, List.length_append, List.length_take, List.length_drop, List.length_replicate, List.length_map, List.length_range, S_len, sizeLine_eq]; omega) | (simp only [List.length_cons, List.length_nil, List.length_append, List.length_take, List.length_drop, List.length_replicate, List.length_map, List.length_range, S_len, sizeLine_eq] at *; omega))
  k_with "mItem" => (first
  | ((with_reducible show wpAny _ _ (subscriptTail _ _ (Value.str (S (_ :: _)) _) (Value.int 0 _)) _ _ _); refine r_it0 (by walk_at "mI") ?_)
  | ((with_reducible show wpAny _ _ (subscriptTail _ _ (Value.str (S (_ :: _ :: _)) _) (Value.int 1 _)) _ _ _); refine r_it1 (by walk_at "mI") ?_)
  | ((with_reducible show wpAny _ _ (subscriptTail _ _ (Value.str (S _) _) (Value.int _ _)) _ _ _); refine r_item (by walk_at "mI") (by walk_at "mI") (by walk_at "mI") ?_))
  k_with "mSlice" => (((with_reducible rename Fr _ _ _ _ => F'); (with_reducible rename News _ _ _ _ => N'); (first
  | ((with_reducible show wpAny _ _ (subscriptTail _ (Expr.Slice (some _) none none _) (Value.str (S (_ :: _)) _) _) _ _ _); refine r_sl1 (s := ⟨_, _, _, _, _⟩) F' N' (by walk_at "mI") ?_)
  | refine r_ss (s := ⟨_, _, _, _, _⟩) F' N' (by walk_at "mI") (by walk_at "mI") (by walk_at "mI") ?_
  | refine r_sn (s := ⟨_, _, _, _, _⟩) F' N' (by walk_at "mI") (by walk_at "mI") ?_
  | refine r_ns (s := ⟨_, _, _, _, _⟩) F' N' (by walk_at "mI") (by walk_at "mI") ?_); intro _ _ _ _ _))
  k_with "subscriptTail" => (first | walk_at "mItem" | walk_at "mSlice")
  k_with "subscriptTail Name Name str int" => (walk_at "mItem")
  k_with "subscriptTail Name Constant str int" => (walk_at "mItem")
  k_with "subscriptTail Name Slice str ref" => (walk_at "mSlice")
  k_with "eval Constant str" => ((with_reducible first | refine r_const lit_bang ?_ | refine r_const lit_hat ?_ | refine r_const lit_q ?_ | refine r_const lit_thorn ?_ | refine r_const lit_del ?_ | refine r_const lit_ff ?_ | refine r_const lit_A ?_ | refine r_const lit_hq ?_ | refine r_const lit_h9 ?_ | refine r_const lit_sp ?_ | refine r_const lit_tilde ?_ | refine r_const lit_fe ?_ | refine r_const lit_hT ?_ | refine r_const lit_e ?_ | refine r_const lit_marks ?_))
  k_with "call builtin:len" => (first
  | ((with_reducible show wpAny _ _ (call (Value.builtin "len") [Value.str (S [_]) _]) _ _ _); refine r_len1 ?_)
  | ((with_reducible show wpAny _ _ (call (Value.builtin "len") [Value.str (S [_, _]) _]) _ _ _); refine r_len2 ?_)
  | ((with_reducible show wpAny _ _ (call (Value.builtin "len") [Value.str (S [_, _, _]) _]) _ _ _); refine r_len3 ?_)
  | ((with_reducible show wpAny _ _ (call (Value.builtin "len") [Value.str (S _) _]) _ _ _); refine r_len (by walk_at "mI") ?_))
  k_with "compareOp Eq str str" => (((with_reducible show wpAny _ _ (compareOp _ (Value.str (S _) _) (Value.str (S _) _)) _ _ _); refine r_eq ?_))
  k_with "compareOp NotEq str str" => (((with_reducible show wpAny _ _ (compareOp _ (Value.str (S _) _) (Value.str (S _) _)) _ _ _); refine r_ne ?_))
  k_with "compareOp In str str" => (((with_reducible show wpAny _ _ (compareOp _ (Value.str (S _) _) (Value.str (S _) _)) _ _ _); refine r_in ?_))
  k_with "compareOp Gt str str" => (((with_reducible show wpAny _ _ (compareOp _ (Value.str (S _) _) (Value.str (S _) _)) _ _ _); refine r_gt ?_))
  k_with "compareOp LtE str str" => (((with_reducible show wpAny _ _ (compareOp _ (Value.str (S _) _) (Value.str (S _) _)) _ _ _); refine r_le ?_))
  k_with "binaryOp Add str str" => (((with_reducible show wpAny _ _ (binaryOp _ (Value.str (S _) _) (Value.str (S _) _)) _ _ _); refine r_add ?_ (by walk_at "mI"); intro _ _))
  k_with "inplaceOp Add str str" => (((with_reducible show wpAny _ _ (inplaceOp _ (Value.str (S _) _) (Value.str (S _) _)) _ _ _); refine r_iadd ?_ (by walk_at "mI"); intro _ _))
  k_with "call builtin:ord" => (((with_reducible show wpAny _ _ (call (Value.builtin "ord") [Value.str (S _) _]) _ _ _); refine r_ord ?_))
  k_with "call builtin:chr" => ((refine r_chr (by walk_at "mChr") (by walk_at "mChr") ?_))
  k_with "mChr" => (first | omega | (split <;> omega))
  k_with "mRoom" => (((try simp only [depth_mark, depth_under_make, depth_under_kw, depth_in1, depth_deeper, depth_caller, units_in1, units_deeper, Around.mark_units, units_caller]); (try dsimp only [arA]); omega))
  k_with "mClean" => (((try clear hret); (repeat (with_reducible rename Fr _ _ _ _ => x9; clear x9)); (repeat (with_reducible rename News _ _ _ _ => x9; clear x9)); (repeat (with_reducible rename Below _ _ _ _ => x9; clear x9)); (repeat (with_reducible rename Top _ _ _ _ _ _ => x9; clear x9)); (repeat (with_reducible rename Frag.In _ _ => x9; clear x9))))
  k_with "mUse2" => (((intro t9 h9 tk9 F9 N9); (try dsimp only); (try k_fold)))
  k_with "binaryOp BitAnd int int" => (first
  | ((with_reducible show wpAny _ _ (binaryOp _ (Value.int _ _) (Value.int 127 _)) _ _ _); refine r_and127 ?_)
  | ((with_reducible show wpAny _ _ (binaryOp _ (Value.int _ _) (Value.int 31 _)) _ _ _); refine r_and31 ?_)
  | ((with_reducible show wpAny _ _ (binaryOp _ (Value.int _ _) (Value.int 128 _)) _ _ _); refine r_and128 (by omega) ?_ ?_ <;> intro _))
  k_with "binaryOp BitOr int int" => (first
  | ((with_reducible show wpAny _ _ (binaryOp _ (Value.int _ _) (Value.int 32 _)) _ _ _); refine r_or32 (by omega) ?_ ?_ <;> intro _)
  | ((with_reducible show wpAny _ _ (binaryOp _ (Value.int _ _) (Value.int 128 _)) _ _ _); refine r_or128 (by omega) ?_ ?_ <;> intro _))
  k_with "inplaceOp Add ref ref" => ((k_here; k_dflt (refine iadd_K (by k_asm) (by k_asm) (by k_mem) (by k_upd) (by exact Nat.le_of_ble_eq_true rfl) (by exact Nat.le_of_ble_eq_true rfl) ?_; k_whole); intro h' F' N'; (try dsimp only [List.cons_append, List.nil_append] at N'); (try k_sweep)))
  k_with "call ref" => ((k_here; (with_reducible show wpAny _ _ (call (Value.ref 21) [Value.str (S [_]) _]) _ _ _); k_dflt (refine PCl.use (ctoi_s _ _ _ _ _ _ _ _ ) (by k_asm) (by k_asm) (by k_asm) (by k_asm) (by walk_at "mRoom") (by walk_at "mRoom") ?_; k_whole); walk_at "mUse2"))
  k_with "call ref" => ((k_here; (with_reducible show wpAny _ _ (call (Value.ref 21) [Value.int _ _]) _ _ _); k_dflt (refine PCl.use (ctoi_i _ _ _ _ _ _ _ _ ) (by k_asm) (by k_asm) (by k_asm) (by k_asm) (by walk_at "mRoom") (by walk_at "mRoom") ?_; k_whole); walk_at "mUse2"))
  k_with "call ref" => ((k_here; (with_reducible show wpAny _ _ (call (Value.ref 28) [Value.str (S [_]) _]) _ _ _); k_dflt (refine PCl.use (isprint_s _ _ _ _ _ _ _ _ ) (by k_asm) (by k_asm) (by k_asm) (by k_asm) (by walk_at "mRoom") (by walk_at "mRoom") ?_; k_whole); walk_at "mUse2"))
  k_with "call ref" => ((k_here; (with_reducible show wpAny _ _ (call (Value.ref 28) [Value.int _ _]) _ _ _); k_dflt (refine PCl.use (isprint_i _ _ _ _ _ _ _ _ ) (by k_asm) (by k_asm) (by k_asm) (by k_asm) (by walk_at "mRoom") (by walk_at "mRoom") ?_; k_whole); walk_at "mUse2"))
  k_with "call ref" => ((k_here; (with_reducible show wpAny _ _ (call (Value.ref 35) [Value.str (S [_]) _]) _ _ _); k_dflt (refine PCl.use (ctrl_s _ _ _ _ _ _ _ _ ) (by k_asm) (by k_asm) (by k_asm) (by k_asm) (by walk_at "mRoom") (by walk_at "mRoom") ?_; k_whole); walk_at "mUse2"))
  k_with "call ref" => ((k_here; (with_reducible show wpAny _ _ (call (Value.ref 42) [Value.str (S [_]) _]) _ _ _); k_dflt (refine PCl.use (alt_s _ _ _ _ _ _ _ _ (by walk_at "mI")) (by k_asm) (by k_asm) (by k_asm) (by k_asm) (by walk_at "mRoom") (by walk_at "mRoom") ?_; k_whole); walk_at "mUse2"))
  k_with "call ref" => ((k_here; (with_reducible show wpAny _ _ (call (Value.ref 49) [Value.str (S [_]) _]) _ _ _); k_dflt (refine PCl.use (unctrl_s _ _ _ _ _ _ _ _ ) (by k_asm) (by k_asm) (by k_asm) (by k_asm) (by walk_at "mRoom") (by walk_at "mRoom") ?_; k_whole); walk_at "mUse2"))
  k_with "call ref" => ((k_here; (with_reducible show wpAny _ _ (call (Value.ref 70) _) _ _ _); k_dflt (refine PCl.use (marks_ok _ _ _ _ _ _  ) (by k_asm) (by k_asm) (by k_asm) (by k_asm) (by walk_at "mRoom") (by walk_at "mRoom") ?_; k_whole); walk_at "mUse2"))
  k_with "call ref" => ((k_here; (with_reducible show wpAny _ _ (call (Value.ref 82) [Value.str (S _) _, Value.int _ _]) _ _ _); k_dflt (refine PCl.use (width_ok _ _ _ _ _ _ _ _ _ _ (by walk_at "mI") (by walk_at "mI") (by walk_at "mI")) (by k_asm) (by k_asm) (by k_asm) (by k_asm) (by walk_at "mRoom") (by walk_at "mRoom") ?_; k_whole); walk_at "mUse2"))
  k_with "call ref" => ((k_here; (with_reducible show wpAny _ _ (call (Value.ref 89) [Value.str (S [94, _]) _]) _ _ _); k_dflt (refine PCl.use (read_2 _ _ _ _ _ _ _ _ ) (by k_asm) (by k_asm) (by k_asm) (by k_asm) (by walk_at "mRoom") (by walk_at "mRoom") ?_; k_whole); walk_at "mUse2"))
  k_with "call ref" => ((k_here; (with_reducible show wpAny _ _ (call (Value.ref 89) [Value.str (S [_]) _]) _ _ _); k_dflt (refine PCl.use (read_0 _ _ _ _ _ _ _ _ ) (by k_asm) (by k_asm) (by k_asm) (by k_asm) (by walk_at "mRoom") (by walk_at "mRoom") ?_; k_whole); walk_at "mUse2"))
  trivial
def signL (x : Int) : List Nat :=
  ([[33], [94], [63], [222], [(x / 16 % 32).toNat], [127], [(128 + x / 16 % 32).toNat], [(160 + x / 16 % 95).toNat], [255], [(63 + x / 16 % 33).toNat], [(32 + x / 16 % 95).toNat], [33], [94], [65], [],
    [(if x / 16 % 1112064 < 55296 then x / 16 % 1112064 else x / 16 % 1112064 + 2048).toNat]] : List (List Nat)).getD (x % 16).toNat []

theorem cases16 {k : Nat} (h : k < 16) : k = 0 ∨ k = 1 ∨ k = 2 ∨ k = 3 ∨ k = 4 ∨ k = 5 ∨ k = 6 ∨ k = 7 ∨ k = 8 ∨ k = 9 ∨ k = 10 ∨ k = 11 ∨ k = 12 ∨ k = 13 ∨ k = 14 ∨ k = 15 := by omega
theorem sign_pick (x z : Int) {vs : List Value} {v : Value} (hv : vs[(x.fmod 16).toNat]? = some v)
  (hz : z = if (x.fdiv 16).fmod 1112064 < 55296 then (x.fdiv 16).fmod 1112064 else (x.fdiv 16).fmod 1112064 + 2048)
  (h : ∀ k, k < 16 → ∃ t, vs[k]? = some (.str (S (([[33], [94], [63], [222], [((x.fdiv 16).fmod 32).toNat], [127], [(128 + (x.fdiv 16).fmod 32).toNat], [(160 + (x.fdiv 16).fmod 95).toNat], [255], [(63 + (x.fdiv 16).fmod 33).toNat], [(32 + (x.fdiv 16).fmod 95).toNat], [33], [94], [65], [],
    [z.toNat]] : List (List Nat)).getD k [])) t)) : ∃ t, v = .str (S (signL x)) t := by
  have e : x.fmod 16 = x % 16 := Int.fmod_eq_emod_of_nonneg x (by omega)
  have e1 : x.fdiv 16 = x / 16 := Int.fdiv_eq_ediv_of_nonneg x (by omega)
  have e2 : ∀ y : Int, y.fmod 32 = y % 32 := fun y => Int.fmod_eq_emod_of_nonneg y (by omega)
  have e3 : ∀ y : Int, y.fmod 95 = y % 95 := fun y => Int.fmod_eq_emod_of_nonneg y (by omega)
  have e4 : ∀ y : Int, y.fmod 33 = y % 33 := fun y => Int.fmod_eq_emod_of_nonneg y (by omega)
  have e5 : ∀ y : Int, y.fmod 1112064 = y % 1112064 := fun y => Int.fmod_eq_emod_of_nonneg y (by omega)
  rw [e] at hv
  obtain ⟨t, ht⟩ := h (x % 16).toNat (by omega)
  rw [ht] at hv
  refine ⟨t, ?_⟩
  rw [← Option.some.inj hv]
  subst hz
  simp only [e1, e2, e3, e4, e5, signL]

theorem sign_ok (w : World) (p : Program) (loose : List Str) (mean : ExcName → Option Value) (mg mb : Str → Option Value) (x : Int) (t : Tok) :
  PCl 10 PySem.Challenge.rw_mr0049_01.prog w (hd.heap_39 w.params) p loose mean mg mb 63 [.int x t] (fun t => .str (S (signL x)) t) := by
  w_top off
  dsimp only [PCl]
  k_fill
  intro dp un fr gd s Q E X T hdp hun hret
  refine wpAny_call ?_
  k_dflt (refine' code_pure ?k3 ?k5 ?k6 ?k7 ?k8 ?k9 ?kB ?_ ?c2 ?c3 ?c4 ?c5; (case k3 => assumption); (case k5 => assumption); (case k6 => k_is); (case k7 => k_is); (case k8 => (show dp < 1000); omega); (case k9 => exact BindsTo.of_eq rfl); (case c5 => decide); (case kB => exact locs rfl); (case c2 => exact rfl); (case c3 => exact rfl); (case c4 => exact rfl); k_whole; intro L' h' F' N')
  k_steps

  all_goals (refine item_any (s := ⟨_, _, _, _, _⟩) (by k_asm) (by k_mem) (by have := Int.fmod_nonneg_of_pos x (b := 16) (by omega); omega) (by have := Int.fmod_lt_of_pos x (b := 16) (by omega); simp only [List.length_cons, List.length_nil]; omega) (by simp only [List.length_cons, List.length_nil]; omega) ?_)
  all_goals intro v hv
  · obtain ⟨t, rfl⟩ := sign_pick x ((x.fdiv 16).fmod 1112064) hv (by rw [if_pos (by assumption)]) (by
      intro k hk
      have := cases16 hk
      rcases this with rfl | rfl | rfl | rfl | rfl | rfl | rfl | rfl | rfl | rfl | rfl | rfl | rfl | rfl | rfl | rfl <;> exact ⟨_, rfl⟩)
    dsimp only
    exact pc_retS (s := s) hret rfl (by k_asm)
  · obtain ⟨t, rfl⟩ := sign_pick x ((x.fdiv 16).fmod 1112064 + 2048) hv (by rw [if_neg (by omega)]) (by
      intro k hk
      have := cases16 hk
      rcases this with rfl | rfl | rfl | rfl | rfl | rfl | rfl | rfl | rfl | rfl | rfl | rfl | rfl | rfl | rfl | rfl <;> exact ⟨_, rfl⟩)
    dsimp only
    exact pc_retS (s := s) hret rfl (by k_asm)
  all_goals refine pc_retS (s := s) hret ?_ (by k_asm)
  all_goals walk_at "mClean"
  all_goals rfl
end
section
open PySem PySem.W PyProof.Rows
set_option Elab.async false
set_option maxRecDepth 100000
set_option maxHeartbeats 40000000

def shownL (l : List Nat) : List Nat := l.flatMap uncL
theorem unc_len (c : Nat) : (uncL c).length ≤ 3 := by
  unfold uncL; (repeat' split) <;> simp
theorem shown_len (l : List Nat) : (shownL l).length ≤ 3 * l.length := by
  induction l with
  | nil => simp [shownL]
  | cons c r ih => have := unc_len c; simp only [shownL, List.flatMap_cons, List.length_append, List.length_cons] at *; omega
theorem shown_step (l : List Nat) (i c : Nat) (h : l[i]? = some c) : shownL (l.take (i + 1)) = shownL (l.take i) ++ uncL c := by
  unfold shownL
  rw [List.take_add_one, h, List.flatMap_append]; simp
theorem marks_at (k : Nat) (h : k < 33) : ((List.range 33).map (63 + ·)).getD k 0 = 63 + k := by
  simp [h]
theorem rep_if (c : Nat) : List.replicate (((c : Int) / 128 % 2).toNat) 33 = if c / 128 % 2 = 1 then [33] else [] := by
  by_cases h : c / 128 % 2 = 1
  · rw [if_pos h, show ((c : Int) / 128 % 2).toNat = 1 by omega]; rfl
  · rw [if_neg h, show ((c : Int) / 128 % 2).toNat = 0 by omega]; rfl
theorem told_end {X Y : List Nat} {t : Tok} {u : Str → Option Value} (e : X = Y) : ∃ (t' : Tok) (u' : Str → Option Value), (fun y => if y = Str.ofString "told" then some (Value.str (S X) t) else u y) = fun y => if y = Str.ofString "told" then some (.str (S Y) t') else u' y := ⟨t, u, by rw [e]⟩
theorem inv_end {h₀ : Heap} {L : Addr} {J : (Str → Option Value) → List (Addr × Obj) → Prop} {own own' : List (Addr × Obj)} {s : Shared} {h' : Heap} {m' : Str → Option Value} {tk : Nat} (F : Fr h₀ L h' m') (N : News h₀ L h' own') (ho : ∀ p ∈ own, p ∈ own') (hJ : J m' []) :
    InvEndN h₀ L J own [] s { s with heap := h', toks := tk } := ⟨h', tk, m', own', [], rfl, F, N, (fun _ h => nomatch h), ho, rfl, hJ⟩
theorem sh1 (c : Nat) (pre : List Nat) (h : (c : Int) % 128 < 32) : (pre ++ List.replicate (((c : Int) / 128 % 2).toNat) 33) ++ ([94] ++ [((List.range 33).map (63 + ·)).getD ((c : Int) % 128 + 1).toNat 0]) = pre ++ uncL c := by
  rw [rep_if, List.append_assoc, marks_at _ (by omega)]; congr 1; unfold uncL
  rw [if_neg (show ¬ c = 127 by omega), if_neg (show ¬ (32 ≤ c % 128 ∧ c % 128 ≤ 126) by omega), if_neg (show ¬ c % 128 = 127 by omega)]
  congr 1; simp; omega
theorem sh2 (c : Nat) (pre : List Nat) (h : (c : Int) = 127) : (pre ++ List.replicate (((c : Int) / 128 % 2).toNat) 33) ++ [94, 63] = pre ++ uncL c := by
  obtain rfl : c = 127 := by omega
  rw [rep_if, List.append_assoc]; rfl
theorem sh3 (c : Nat) (pre : List Nat) (h0 : (c : Int) % 128 = 127) (h : (c : Int) ≠ 127) : (pre ++ List.replicate (((c : Int) / 128 % 2).toNat) 33) ++ [94, 159] = pre ++ uncL c := by
  rw [rep_if, List.append_assoc]; congr 1; unfold uncL
  rw [if_neg (show ¬ c = 127 by omega), if_neg (show ¬ (32 ≤ c % 128 ∧ c % 128 ≤ 126) by omega), if_pos (show c % 128 = 127 by omega)]
theorem sh4 (c : Nat) (pre : List Nat) (h0 : (c : Int) % 128 ≠ 127) (h : 32 ≤ (c : Int) % 128) : (pre ++ List.replicate (((c : Int) / 128 % 2).toNat) 33) ++ [((c : Int) % 128).toNat] = pre ++ uncL c := by
  rw [rep_if, List.append_assoc]; congr 1; unfold uncL
  rw [if_neg (show ¬ c = 127 by omega), if_pos (show (32 ≤ c % 128 ∧ c % 128 ≤ 126) by omega)]
  congr 1
theorem pc_inv {h₀ : Heap} {L : Addr} {J : (Str → Option Value) → List (Addr × Obj) → Prop} {own : List (Addr × Obj)} {s : Shared} {Q : Flow → Shared → Prop} {h' : Heap} {m' : Str → Option Value} {tk : Nat} (F : Fr h₀ L h' m') (N : News h₀ L h' own) (hJ : J m' []) :
    InvPostN h₀ L J own [] s Q .next { s with heap := h', toks := tk } := ⟨h', tk, m', own, [], rfl, F, N, (fun _ h => nomatch h), (fun _ h => h), rfl, hJ⟩

def Hold (P : Prop) : Prop := P
theorem hold {P : Prop} (h : Hold P) : P := h
end
section
open PySem PySem.W PyProof.Rows
set_option Elab.async false
set_option maxRecDepth 100000
set_option maxHeartbeats 40000000

theorem ln_8 : True := by
  k_with_none
  k_with "mI" => (first | omega | (simp only [List.length_cons, List.length_nil, List.length_append, List.length_take, List.length_drop, List.length_replicate, List.length_map, List.length_range, S_len, sizeLine_eq]; omega) | (simp only [List.length_cons, List.length_nil, List.length_append, List.length_take, List.length_drop, List.length_replicate, List.length_map, List.length_range, S_len, sizeLine_eq] at *; omega))
  k_with "mItem" => (first
  | ((with_reducible show wpAny _ _ (subscriptTail _ _ (Value.str (S (_ :: _)) _) (Value.int 0 _)) _ _ _); refine r_it0 (by walk_at "mI") ?_)
  | ((with_reducible show wpAny _ _ (subscriptTail _ _ (Value.str (S (_ :: _ :: _)) _) (Value.int 1 _)) _ _ _); refine r_it1 (by walk_at "mI") ?_)
  | ((with_reducible show wpAny _ _ (subscriptTail _ _ (Value.str (S _) _) (Value.int _ _)) _ _ _); refine r_item (by walk_at "mI") (by walk_at "mI") (by walk_at "mI") ?_))
  k_with "mSlice" => (((with_reducible rename Fr _ _ _ _ => F'); (with_reducible rename News _ _ _ _ => N'); (first
  | ((with_reducible show wpAny _ _ (subscriptTail _ (Expr.Slice (some _) none none _) (Value.str (S (_ :: _)) _) _) _ _ _); refine r_sl1 (s := ⟨_, _, _, _, _⟩) F' N' (by walk_at "mI") ?_)
  | refine r_ss (s := ⟨_, _, _, _, _⟩) F' N' (by walk_at "mI") (by walk_at "mI") (by walk_at "mI") ?_
  | refine r_sn (s := ⟨_, _, _, _, _⟩) F' N' (by walk_at "mI") (by walk_at "mI") ?_
  | refine r_ns (s := ⟨_, _, _, _, _⟩) F' N' (by walk_at "mI") (by walk_at "mI") ?_); intro _ _ _ _ _))
  k_with "subscriptTail" => (first | walk_at "mItem" | walk_at "mSlice")
  k_with "subscriptTail Name Name str int" => (walk_at "mItem")
  k_with "subscriptTail Name Constant str int" => (walk_at "mItem")
  k_with "subscriptTail Name Slice str ref" => (walk_at "mSlice")
  k_with "eval Constant str" => ((with_reducible first | refine r_const lit_bang ?_ | refine r_const lit_hat ?_ | refine r_const lit_q ?_ | refine r_const lit_thorn ?_ | refine r_const lit_del ?_ | refine r_const lit_ff ?_ | refine r_const lit_A ?_ | refine r_const lit_hq ?_ | refine r_const lit_h9 ?_ | refine r_const lit_sp ?_ | refine r_const lit_tilde ?_ | refine r_const lit_fe ?_ | refine r_const lit_hT ?_ | refine r_const lit_e ?_ | refine r_const lit_marks ?_))
  k_with "call builtin:len" => (first
  | ((with_reducible show wpAny _ _ (call (Value.builtin "len") [Value.str (S [_]) _]) _ _ _); refine r_len1 ?_)
  | ((with_reducible show wpAny _ _ (call (Value.builtin "len") [Value.str (S [_, _]) _]) _ _ _); refine r_len2 ?_)
  | ((with_reducible show wpAny _ _ (call (Value.builtin "len") [Value.str (S [_, _, _]) _]) _ _ _); refine r_len3 ?_)
  | ((with_reducible show wpAny _ _ (call (Value.builtin "len") [Value.str (S _) _]) _ _ _); refine r_len (by walk_at "mI") ?_))
  k_with "compareOp Eq str str" => (((with_reducible show wpAny _ _ (compareOp _ (Value.str (S _) _) (Value.str (S _) _)) _ _ _); refine r_eq ?_))
  k_with "compareOp NotEq str str" => (((with_reducible show wpAny _ _ (compareOp _ (Value.str (S _) _) (Value.str (S _) _)) _ _ _); refine r_ne ?_))
  k_with "compareOp In str str" => (((with_reducible show wpAny _ _ (compareOp _ (Value.str (S _) _) (Value.str (S _) _)) _ _ _); refine r_in ?_))
  k_with "compareOp Gt str str" => (((with_reducible show wpAny _ _ (compareOp _ (Value.str (S _) _) (Value.str (S _) _)) _ _ _); refine r_gt ?_))
  k_with "compareOp LtE str str" => (((with_reducible show wpAny _ _ (compareOp _ (Value.str (S _) _) (Value.str (S _) _)) _ _ _); refine r_le ?_))
  k_with "binaryOp Add str str" => (((with_reducible show wpAny _ _ (binaryOp _ (Value.str (S _) _) (Value.str (S _) _)) _ _ _); refine r_add ?_ (by walk_at "mI"); intro _ _))
  k_with "inplaceOp Add str str" => (((with_reducible show wpAny _ _ (inplaceOp _ (Value.str (S _) _) (Value.str (S _) _)) _ _ _); refine r_iadd ?_ (by walk_at "mI"); intro _ _))
  k_with "call builtin:ord" => (((with_reducible show wpAny _ _ (call (Value.builtin "ord") [Value.str (S _) _]) _ _ _); refine r_ord ?_))
  k_with "call builtin:chr" => ((refine r_chr (by walk_at "mChr") (by walk_at "mChr") ?_))
  k_with "mChr" => (first | omega | (split <;> omega))
  k_with "mRoom" => (((try simp only [depth_mark, depth_under_make, depth_under_kw, depth_in1, depth_deeper, depth_caller, units_in1, units_deeper, Around.mark_units, units_caller]); (try dsimp only [arA]); omega))
  k_with "mClean" => (((try clear hret); (repeat (with_reducible rename Fr _ _ _ _ => x9; clear x9)); (repeat (with_reducible rename News _ _ _ _ => x9; clear x9)); (repeat (with_reducible rename Below _ _ _ _ => x9; clear x9)); (repeat (with_reducible rename Top _ _ _ _ _ _ => x9; clear x9)); (repeat (with_reducible rename Frag.In _ _ => x9; clear x9))))
  k_with "mUse2" => (((intro t9 h9 tk9 F9 N9); (try dsimp only); (try k_fold)))
  k_with "binaryOp BitAnd int int" => (first
  | ((with_reducible show wpAny _ _ (binaryOp _ (Value.int _ _) (Value.int 127 _)) _ _ _); refine r_and127 ?_)
  | ((with_reducible show wpAny _ _ (binaryOp _ (Value.int _ _) (Value.int 31 _)) _ _ _); refine r_and31 ?_)
  | ((with_reducible show wpAny _ _ (binaryOp _ (Value.int _ _) (Value.int 128 _)) _ _ _); refine r_and128 (by omega) ?_ ?_ <;> intro _))
  k_with "binaryOp BitOr int int" => (first
  | ((with_reducible show wpAny _ _ (binaryOp _ (Value.int _ _) (Value.int 32 _)) _ _ _); refine r_or32 (by omega) ?_ ?_ <;> intro _)
  | ((with_reducible show wpAny _ _ (binaryOp _ (Value.int _ _) (Value.int 128 _)) _ _ _); refine r_or128 (by omega) ?_ ?_ <;> intro _))
  k_with "inplaceOp Add ref ref" => ((k_here; k_dflt (refine iadd_K (by k_asm) (by k_asm) (by k_mem) (by k_upd) (by exact Nat.le_of_ble_eq_true rfl) (by exact Nat.le_of_ble_eq_true rfl) ?_; k_whole); intro h' F' N'; (try dsimp only [List.cons_append, List.nil_append] at N'); (try k_sweep)))
  k_with "binaryOp Mod int int" => (refine r_mod (by decide) ?_)
  k_with "binaryOp FloorDiv int int" => (refine r_fdiv (by decide) (by decide) ?_)
  k_with "binaryOp Mult str int" => (((with_reducible show wpAny _ _ (binaryOp _ (Value.str (S [_]) _) (Value.int _ _)) _ _ _); refine r_mul (by walk_at "mI") (by walk_at "mI") ?_; intro _ _))
  k_with "exec For" => (refine hold ?_)
  k_with "exec For Name ListComp cons nil" => (refine hold ?_)
  k_with "exec For Name Call cons nil" => (refine hold ?_)
  k_with "call ref" => ((k_here; (with_reducible show wpAny _ _ (call (Value.ref 21) [Value.str (S [_]) _]) _ _ _); k_dflt (refine PCl.use (ctoi_s _ _ _ _ _ _ _ _ ) (by k_asm) (by k_asm) (by k_asm) (by k_asm) (by walk_at "mRoom") (by walk_at "mRoom") ?_; k_whole); walk_at "mUse2"))
  k_with "call ref" => ((k_here; (with_reducible show wpAny _ _ (call (Value.ref 21) [Value.int _ _]) _ _ _); k_dflt (refine PCl.use (ctoi_i _ _ _ _ _ _ _ _ ) (by k_asm) (by k_asm) (by k_asm) (by k_asm) (by walk_at "mRoom") (by walk_at "mRoom") ?_; k_whole); walk_at "mUse2"))
  k_with "call ref" => ((k_here; (with_reducible show wpAny _ _ (call (Value.ref 28) [Value.str (S [_]) _]) _ _ _); k_dflt (refine PCl.use (isprint_s _ _ _ _ _ _ _ _ ) (by k_asm) (by k_asm) (by k_asm) (by k_asm) (by walk_at "mRoom") (by walk_at "mRoom") ?_; k_whole); walk_at "mUse2"))
  k_with "call ref" => ((k_here; (with_reducible show wpAny _ _ (call (Value.ref 28) [Value.int _ _]) _ _ _); k_dflt (refine PCl.use (isprint_i _ _ _ _ _ _ _ _ ) (by k_asm) (by k_asm) (by k_asm) (by k_asm) (by walk_at "mRoom") (by walk_at "mRoom") ?_; k_whole); walk_at "mUse2"))
  k_with "call ref" => ((k_here; (with_reducible show wpAny _ _ (call (Value.ref 35) [Value.str (S [_]) _]) _ _ _); k_dflt (refine PCl.use (ctrl_s _ _ _ _ _ _ _ _ ) (by k_asm) (by k_asm) (by k_asm) (by k_asm) (by walk_at "mRoom") (by walk_at "mRoom") ?_; k_whole); walk_at "mUse2"))
  k_with "call ref" => ((k_here; (with_reducible show wpAny _ _ (call (Value.ref 42) [Value.str (S [_]) _]) _ _ _); k_dflt (refine PCl.use (alt_s _ _ _ _ _ _ _ _ (by walk_at "mI")) (by k_asm) (by k_asm) (by k_asm) (by k_asm) (by walk_at "mRoom") (by walk_at "mRoom") ?_; k_whole); walk_at "mUse2"))
  k_with "call ref" => ((k_here; (with_reducible show wpAny _ _ (call (Value.ref 49) [Value.str (S [_]) _]) _ _ _); k_dflt (refine PCl.use (unctrl_s _ _ _ _ _ _ _ _ ) (by k_asm) (by k_asm) (by k_asm) (by k_asm) (by walk_at "mRoom") (by walk_at "mRoom") ?_; k_whole); walk_at "mUse2"))
  k_with "call ref" => ((k_here; (with_reducible show wpAny _ _ (call (Value.ref 70) _) _ _ _); k_dflt (refine PCl.use (marks_ok _ _ _ _ _ _  ) (by k_asm) (by k_asm) (by k_asm) (by k_asm) (by walk_at "mRoom") (by walk_at "mRoom") ?_; k_whole); walk_at "mUse2"))
  k_with "call ref" => ((k_here; (with_reducible show wpAny _ _ (call (Value.ref 82) [Value.str (S _) _, Value.int _ _]) _ _ _); k_dflt (refine PCl.use (width_ok _ _ _ _ _ _ _ _ _ _ (by walk_at "mI") (by walk_at "mI") (by walk_at "mI")) (by k_asm) (by k_asm) (by k_asm) (by k_asm) (by walk_at "mRoom") (by walk_at "mRoom") ?_; k_whole); walk_at "mUse2"))
  k_with "call ref" => ((k_here; (with_reducible show wpAny _ _ (call (Value.ref 89) [Value.str (S [94, _]) _]) _ _ _); k_dflt (refine PCl.use (read_2 _ _ _ _ _ _ _ _ ) (by k_asm) (by k_asm) (by k_asm) (by k_asm) (by walk_at "mRoom") (by walk_at "mRoom") ?_; k_whole); walk_at "mUse2"))
  k_with "call ref" => ((k_here; (with_reducible show wpAny _ _ (call (Value.ref 89) [Value.str (S [_]) _]) _ _ _); k_dflt (refine PCl.use (read_0 _ _ _ _ _ _ _ _ ) (by k_asm) (by k_asm) (by k_asm) (by k_asm) (by walk_at "mRoom") (by walk_at "mRoom") ?_; k_whole); walk_at "mUse2"))
  trivial
theorem shown_ok (w : World) (p : Program) (loose : List Str) (mean : ExcName → Option Value) (mg mb : Str → Option Value) (l : List Nat) (t : Tok) (hl : l.length < 300) (hc : ∀ c ∈ l, c < 1114112) :
  PCl 30 PySem.Challenge.rw_mr0049_01.prog w (hd.heap_39 w.params) p loose mean mg mb 75 [.str (S l) t] (fun t => .str (S (shownL l)) t) := by
  w_top off
  dsimp only [PCl]
  k_fill
  intro dp un fr gd s Q E X T hdp hun hret
  refine wpAny_call ?_
  k_dflt (refine' code_pure ?k3 ?k5 ?k6 ?k7 ?k8 ?k9 ?kB ?_ ?c2 ?c3 ?c4 ?c5; (case k3 => assumption); (case k5 => assumption); (case k6 => k_is); (case k7 => k_is); (case k8 => (show dp < 1000); omega); (case k9 => exact BindsTo.of_eq rfl); (case c5 => decide); (case kB => exact locs rfl); (case c2 => exact rfl); (case c3 => exact rfl); (case c4 => exact rfl); k_whole; intro L' h' F' N')
  k_steps

  unfold Hold
  refine For_invV s.heap rfl rfl ?_
  rename_i h1 F1 N1
  refine comp_str (l := l) (t := t) (R := fun c y => ∃ t, y = .int (c : Nat) t) F1 N1 rfl (by decide) (by decide) rfl (by decide) (by decide) ?_ (by rw [sizeLine_eq]; omega) ?_ ?_
  · intro Q' hq
    exact ld F1 rfl hq
  · intro C c u s₃ m₃ E' _ hn hm st
    refine elt_b1 (K := hd.heap_39 w.params) X T (fun b o e => st b o (F1.keep b o e)) (by k_is) rfl (by decide) rfl rfl rfl rfl rfl hn hm ?_
    exact r_ord ⟨⟨_, rfl⟩, s₃.heap, _, rfl, fun _ _ e => e⟩
  · intro D ys kk h2 tk2 F2 N2 hlen hys
    have hls : h2.IsList D ys.toArray := ⟨_, (N2 _ (List.Mem.head _)).1, rfl, _, rfl⟩
    have hD := Heap.lt_size (N2 _ (List.Mem.head _)).1
    refine wpAny_pyIter_list hls ?_
    refine loop_invN (news := []) (fun i m₁ _ => ∃ (t : Tok) (u : Str → Option Value), m₁ = fun y => if y = Str.ofString "told" then some (.str (S (shownL (l.take i))) t) else u y) (Walks.list rfl h2.objs.size D (Nat.ne_of_lt hD) ys.toArray) ?_ ?_ ?_ ?_ ?_ (F2.push _) News.nil ?_ ?_ ?_
    · intro hm
      rcases List.mem_cons.mp hm with e | hm
      · exact absurd F2.ns.lt (e ▸ Nat.lt_irrefl _)
      · exact (N2 _ (List.Mem.head _)).2.1 (List.mem_singleton.mp hm).symm
    · intro b hb
      rw [List.mem_singleton.mp hb]
      exact next_is_new F2
    · intro p hp; exact nomatch hp
    · intro p hp; exact nomatch hp
    · exact ⟨⟨_, Heap.get?_push_size _ rfl, rfl, rfl⟩, hls.at fun o e => Heap.get?_push_of_some _ e⟩
    · exact ⟨_, _, rfl⟩
    · rintro i v m₁ news₁ h3 tk3 own hi hv hadr _ ⟨t4, u4, rfl⟩ F3 N3
      obtain rfl : news₁ = [] := by simpa using hadr
      have hi' : i < l.length := by rw [← hlen]; simpa using hi
      have hv' : ys[i]? = some v := by simpa using hv
      obtain ⟨t5, rfl⟩ := hys i l[i] v (by simp [hi']) hv'
      have hcc : l[i] < 1114112 := hc _ (List.getElem_mem hi')
      have hst := shown_step l i l[i] (by simp [hi'])
      have hsl := shown_len (l.take i)
      have htl : (l.take i).length ≤ 300 := by simp; omega
      generalize hcv : l[i] = c at *
      generalize hpre : shownL (l.take i) = pre at *
      have hpl : pre.length ≤ 900 := by omega
      clear hys hv hv' hls N2 F2
      dsimp only at F3
      k_steps
      all_goals (refine inv_end (by k_asm) (by k_asm) (fun _ h => by simpa using h) ?_)
      all_goals (rw [hst])
      · exact told_end (sh1 c pre (by omega))
      · exact told_end (sh2 c pre (by omega))
      · exact told_end (sh3 c pre (by omega) (by omega))
      · exact told_end (sh4 c pre (by omega) (by omega))
    · rintro m₁ news₁ h3 tk3 ⟨t4, u4, rfl⟩ F3 N3
      rw [List.take_of_length_le (by rw [← hlen]; simp)] at F3
      dsimp only
      k_steps
      exact pc_retS (s := s) hret rfl (by k_asm)
  all_goals refine pc_retS (s := s) hret ?_ (by k_asm)
  all_goals walk_at "mClean"
  all_goals rfl
end
section
open PySem PySem.W PyProof.Rows
set_option Elab.async false
set_option maxRecDepth 100000
set_option maxHeartbeats 40000000

def okAt (l : List Nat) (k : Nat) : Bool :=
  let c := l.getD k 0
  let f := (l.drop (k + 1)).take 1
  !(decide (254 < c) || (decide (c = 33) && decide (f ≠ []))) && !(decide (c = 94 ∨ c = 222) && (decide (f ≠ []) && decide (63 ≤ (shownL f).getD 0 0 ∧ (shownL f).getD 0 0 ≤ 95)))
def comesB (l : List Nat) : Bool := (List.range l.length).all (okAt l)
theorem ex_map {m : Str → Option Value} {x : Str} {v : Value} (h : m x = some v) : ∃ u : Str → Option Value, m = fun y => if y = x then some v else u y := ⟨m, funext fun y => by
  by_cases e : y = x
  · rw [if_pos e, e, h]
  · rw [if_neg e]⟩
def ComesJ (l : List Nat) (t : Tok) (i : Nat) (m₁ : Str → Option Value) : Prop := (∀ j, j < i → okAt l j = true) ∧ ∃ u : Str → Option Value, m₁ = fun y => if y = Str.ofString "line" then some (.str (S l) t) else u y
theorem comes_true {l : List Nat} (h : ∀ j, j < l.length → okAt l j = true) : comesB l = true := by
  unfold comesB; rw [List.all_eq_true]; intro x hx; exact h x (List.mem_range.mp hx)
theorem comes_false {l : List Nat} {i : Nat} (hi : i < l.length) (h : okAt l i = false) : comesB l = false := by
  unfold comesB; rw [List.all_eq_false]; exact ⟨i, List.mem_range.mpr hi, by simp [h]⟩
theorem all_sub {l : List Nat} {N a b : Nat} (h : ∀ c ∈ l, c < N) : ∀ c ∈ (l.drop a).take b, c < N := fun c hc => h c (List.mem_of_mem_drop (List.mem_of_mem_take hc))
theorem unc_ne (c : Nat) : uncL c ≠ [] := by unfold uncL; (repeat' split) <;> simp
theorem shown_pos {f : List Nat} (h : ¬ f = []) : (0 : Int) < ((shownL f).length : Int) := by
  cases f with
  | nil => exact absurd rfl h
  | cons c r =>
    have := List.length_pos_iff.mpr (unc_ne c)
    simp only [shownL, List.flatMap_cons, List.length_append]; omega
theorem shown_small {f : List Nat} (h : f.length < 300) : (shownL f).length < 2 ^ 62 := by have := shown_len f; omega
def okP (l : List Nat) (i : Nat) (hi : i < l.length) : Prop :=
  ¬ 254 < l[i] ∧ ¬ ([l[i]] = [33] ∧ ¬ List.take (((i : Int) + 2).toNat - ((i : Int) + 1).toNat) (List.drop ((i : Int) + 1).toNat l) = []) ∧
  ¬ (l[i] ∈ [94, 222] ∧ ¬ List.take (((i : Int) + 2).toNat - ((i : Int) + 1).toNat) (List.drop ((i : Int) + 1).toNat l) = [] ∧ (shownL (List.take (((i : Int) + 2).toNat - ((i : Int) + 1).toNat) (List.drop ((i : Int) + 1).toNat l))).getD (Int.toNat 0) 0 ∈ List.map (fun x => 63 + x) (List.range 33))
theorem ok_iff (l : List Nat) (i : Nat) (hi : i < l.length) : okAt l i = true ↔ okP l i hi := by
  unfold okAt okP
  simp only [mem_marks, show ((i : Int) + 1).toNat = i + 1 by omega, show ((i : Int) + 2).toNat - (i + 1) = 1 by omega, Int.toNat_zero, List.cons.injEq, and_true, List.mem_cons, List.not_mem_nil, or_false]
  have e : l[i]?.getD 0 = l[i] := by simp [hi]
  simp [e]
  omega
theorem comes_next {l : List Nat} {t : Tok} {i : Nat} {m' : Str → Option Value} (hJ : ∀ j, j < i → okAt l j = true) (hi : i < l.length) (hok : okP l i hi) (hm : m' (Str.ofString "line") = some (.str (S l) t)) : ComesJ l t (i + 1) m' :=
  ⟨fun j hj => by
    by_cases e : j = i
    · rw [e]; exact (ok_iff l i hi).mpr hok
    · exact hJ j (by omega), ex_map hm⟩
theorem comes_stop {l : List Nat} {i : Nat} (hi : i < l.length) (hok : ¬ okP l i hi) : false = comesB l :=
  (comes_false hi (by cases h : okAt l i with | false => rfl | true => exact absurd ((ok_iff l i hi).mp h) hok)).symm
theorem sign_at (l : List Nat) (i : Nat) (hi : i < l.length) : (signs (S l))[i]? = some (S [l[i]]) := by
  simp [signs, hi]
end
section
open PySem PySem.W PyProof.Rows
set_option Elab.async false
set_option maxRecDepth 100000
set_option maxHeartbeats 40000000


theorem ln_9 : True := by
  k_with_none
  k_with "mI" => (first | omega | (simp only [List.length_cons, List.length_nil, List.length_append, List.length_take, List.length_drop, List.length_replicate, List.length_map, List.length_range, S_len, sizeLine_eq]; omega) | (simp only [List.length_cons, List.length_nil, List.length_append, List.length_take, List.length_drop, List.length_replicate, List.length_map, List.length_range, S_len, sizeLine_eq] at *; omega))
  k_with "mItem" => (first
  | ((with_reducible show wpAny _ _ (subscriptTail _ _ (Value.str (S (_ :: _)) _) (Value.int 0 _)) _ _ _); refine r_it0 (by walk_at "mI") ?_)
  | ((with_reducible show wpAny _ _ (subscriptTail _ _ (Value.str (S (_ :: _ :: _)) _) (Value.int 1 _)) _ _ _); refine r_it1 (by walk_at "mI") ?_)
  | ((with_reducible show wpAny _ _ (subscriptTail _ _ (Value.str (S _) _) (Value.int _ _)) _ _ _); refine r_item (by walk_at "mI") (by walk_at "mI") (by walk_at "mI") ?_))
  k_with "mSlice" => (((with_reducible rename Fr _ _ _ _ => F'); (with_reducible rename News _ _ _ _ => N'); (first
  | ((with_reducible show wpAny _ _ (subscriptTail _ (Expr.Slice (some _) none none _) (Value.str (S (_ :: _)) _) _) _ _ _); refine r_sl1 (s := ⟨_, _, _, _, _⟩) F' N' (by walk_at "mI") ?_)
  | refine r_ss (s := ⟨_, _, _, _, _⟩) F' N' (by walk_at "mI") (by walk_at "mI") (by walk_at "mI") ?_
  | refine r_sn (s := ⟨_, _, _, _, _⟩) F' N' (by walk_at "mI") (by walk_at "mI") ?_
  | refine r_ns (s := ⟨_, _, _, _, _⟩) F' N' (by walk_at "mI") (by walk_at "mI") ?_); intro _ _ _ _ _))
  k_with "subscriptTail" => (first | walk_at "mItem" | walk_at "mSlice")
  k_with "subscriptTail Name Name str int" => (walk_at "mItem")
  k_with "subscriptTail Name Constant str int" => (walk_at "mItem")
  k_with "subscriptTail Name Slice str ref" => (walk_at "mSlice")
  k_with "eval Constant str" => ((with_reducible first | refine r_const lit_bang ?_ | refine r_const lit_hat ?_ | refine r_const lit_q ?_ | refine r_const lit_thorn ?_ | refine r_const lit_del ?_ | refine r_const lit_ff ?_ | refine r_const lit_A ?_ | refine r_const lit_hq ?_ | refine r_const lit_h9 ?_ | refine r_const lit_sp ?_ | refine r_const lit_tilde ?_ | refine r_const lit_fe ?_ | refine r_const lit_hT ?_ | refine r_const lit_e ?_ | refine r_const lit_marks ?_))
  k_with "call builtin:len" => (first
  | ((with_reducible show wpAny _ _ (call (Value.builtin "len") [Value.str (S [_]) _]) _ _ _); refine r_len1 ?_)
  | ((with_reducible show wpAny _ _ (call (Value.builtin "len") [Value.str (S [_, _]) _]) _ _ _); refine r_len2 ?_)
  | ((with_reducible show wpAny _ _ (call (Value.builtin "len") [Value.str (S [_, _, _]) _]) _ _ _); refine r_len3 ?_)
  | ((with_reducible show wpAny _ _ (call (Value.builtin "len") [Value.str (S _) _]) _ _ _); refine r_len (by walk_at "mI") ?_))
  k_with "compareOp Eq str str" => (((with_reducible show wpAny _ _ (compareOp _ (Value.str (S _) _) (Value.str (S _) _)) _ _ _); refine r_eq ?_))
  k_with "compareOp NotEq str str" => (((with_reducible show wpAny _ _ (compareOp _ (Value.str (S _) _) (Value.str (S _) _)) _ _ _); refine r_ne ?_))
  k_with "compareOp In str str" => (((with_reducible show wpAny _ _ (compareOp _ (Value.str (S _) _) (Value.str (S _) _)) _ _ _); refine r_in ?_))
  k_with "compareOp Gt str str" => (((with_reducible show wpAny _ _ (compareOp _ (Value.str (S _) _) (Value.str (S _) _)) _ _ _); refine r_gt ?_))
  k_with "compareOp LtE str str" => (((with_reducible show wpAny _ _ (compareOp _ (Value.str (S _) _) (Value.str (S _) _)) _ _ _); refine r_le ?_))
  k_with "binaryOp Add str str" => (((with_reducible show wpAny _ _ (binaryOp _ (Value.str (S _) _) (Value.str (S _) _)) _ _ _); refine r_add ?_ (by walk_at "mI"); intro _ _))
  k_with "inplaceOp Add str str" => (((with_reducible show wpAny _ _ (inplaceOp _ (Value.str (S _) _) (Value.str (S _) _)) _ _ _); refine r_iadd ?_ (by walk_at "mI"); intro _ _))
  k_with "call builtin:ord" => (((with_reducible show wpAny _ _ (call (Value.builtin "ord") [Value.str (S _) _]) _ _ _); refine r_ord ?_))
  k_with "call builtin:chr" => ((refine r_chr (by walk_at "mChr") (by walk_at "mChr") ?_))
  k_with "mChr" => (first | omega | (split <;> omega))
  k_with "mRoom" => (((try simp only [depth_mark, depth_under_make, depth_under_kw, depth_in1, depth_deeper, depth_caller, units_in1, units_deeper, Around.mark_units, units_caller]); (try dsimp only [arA]); omega))
  k_with "mClean" => (((try clear hret); (repeat (with_reducible rename Fr _ _ _ _ => x9; clear x9)); (repeat (with_reducible rename News _ _ _ _ => x9; clear x9)); (repeat (with_reducible rename Below _ _ _ _ => x9; clear x9)); (repeat (with_reducible rename Top _ _ _ _ _ _ => x9; clear x9)); (repeat (with_reducible rename Frag.In _ _ => x9; clear x9))))
  k_with "mUse2" => (((intro t9 h9 tk9 F9 N9); (try dsimp only); (try k_fold)))
  k_with "binaryOp BitAnd int int" => (first
  | ((with_reducible show wpAny _ _ (binaryOp _ (Value.int _ _) (Value.int 127 _)) _ _ _); refine r_and127 ?_)
  | ((with_reducible show wpAny _ _ (binaryOp _ (Value.int _ _) (Value.int 31 _)) _ _ _); refine r_and31 ?_)
  | ((with_reducible show wpAny _ _ (binaryOp _ (Value.int _ _) (Value.int 128 _)) _ _ _); refine r_and128 (by omega) ?_ ?_ <;> intro _))
  k_with "binaryOp BitOr int int" => (first
  | ((with_reducible show wpAny _ _ (binaryOp _ (Value.int _ _) (Value.int 32 _)) _ _ _); refine r_or32 (by omega) ?_ ?_ <;> intro _)
  | ((with_reducible show wpAny _ _ (binaryOp _ (Value.int _ _) (Value.int 128 _)) _ _ _); refine r_or128 (by omega) ?_ ?_ <;> intro _))
  k_with "inplaceOp Add ref ref" => ((k_here; k_dflt (refine iadd_K (by k_asm) (by k_asm) (by k_mem) (by k_upd) (by exact Nat.le_of_ble_eq_true rfl) (by exact Nat.le_of_ble_eq_true rfl) ?_; k_whole); intro h' F' N'; (try dsimp only [List.cons_append, List.nil_append] at N'); (try k_sweep)))
  k_with "binaryOp Mod int int" => (refine r_mod (by decide) ?_)
  k_with "binaryOp FloorDiv int int" => (refine r_fdiv (by decide) (by decide) ?_)
  k_with "binaryOp Mult str int" => (((with_reducible show wpAny _ _ (binaryOp _ (Value.str (S [_]) _) (Value.int _ _)) _ _ _); refine r_mul (by walk_at "mI") (by walk_at "mI") ?_; intro _ _))
  k_with "exec For" => (refine hold ?_)
  k_with "exec For Name ListComp cons nil" => (refine hold ?_)
  k_with "exec For Name Call cons nil" => (refine hold ?_)
  k_with "call ref" => ((k_here; (with_reducible show wpAny _ _ (call (Value.ref 21) [Value.str (S [_]) _]) _ _ _); k_dflt (refine PCl.use (ctoi_s _ _ _ _ _ _ _ _ ) (by k_asm) (by k_asm) (by k_asm) (by k_asm) (by walk_at "mRoom") (by walk_at "mRoom") ?_; k_whole); walk_at "mUse2"))
  k_with "call ref" => ((k_here; (with_reducible show wpAny _ _ (call (Value.ref 21) [Value.int _ _]) _ _ _); k_dflt (refine PCl.use (ctoi_i _ _ _ _ _ _ _ _ ) (by k_asm) (by k_asm) (by k_asm) (by k_asm) (by walk_at "mRoom") (by walk_at "mRoom") ?_; k_whole); walk_at "mUse2"))
  k_with "call ref" => ((k_here; (with_reducible show wpAny _ _ (call (Value.ref 28) [Value.str (S [_]) _]) _ _ _); k_dflt (refine PCl.use (isprint_s _ _ _ _ _ _ _ _ ) (by k_asm) (by k_asm) (by k_asm) (by k_asm) (by walk_at "mRoom") (by walk_at "mRoom") ?_; k_whole); walk_at "mUse2"))
  k_with "call ref" => ((k_here; (with_reducible show wpAny _ _ (call (Value.ref 28) [Value.int _ _]) _ _ _); k_dflt (refine PCl.use (isprint_i _ _ _ _ _ _ _ _ ) (by k_asm) (by k_asm) (by k_asm) (by k_asm) (by walk_at "mRoom") (by walk_at "mRoom") ?_; k_whole); walk_at "mUse2"))
  k_with "call ref" => ((k_here; (with_reducible show wpAny _ _ (call (Value.ref 35) [Value.str (S [_]) _]) _ _ _); k_dflt (refine PCl.use (ctrl_s _ _ _ _ _ _ _ _ ) (by k_asm) (by k_asm) (by k_asm) (by k_asm) (by walk_at "mRoom") (by walk_at "mRoom") ?_; k_whole); walk_at "mUse2"))
  k_with "call ref" => ((k_here; (with_reducible show wpAny _ _ (call (Value.ref 42) [Value.str (S [_]) _]) _ _ _); k_dflt (refine PCl.use (alt_s _ _ _ _ _ _ _ _ (by walk_at "mI")) (by k_asm) (by k_asm) (by k_asm) (by k_asm) (by walk_at "mRoom") (by walk_at "mRoom") ?_; k_whole); walk_at "mUse2"))
  k_with "call ref" => ((k_here; (with_reducible show wpAny _ _ (call (Value.ref 49) [Value.str (S [_]) _]) _ _ _); k_dflt (refine PCl.use (unctrl_s _ _ _ _ _ _ _ _ ) (by k_asm) (by k_asm) (by k_asm) (by k_asm) (by walk_at "mRoom") (by walk_at "mRoom") ?_; k_whole); walk_at "mUse2"))
  k_with "call ref" => ((k_here; (with_reducible show wpAny _ _ (call (Value.ref 70) _) _ _ _); k_dflt (refine PCl.use (marks_ok _ _ _ _ _ _  ) (by k_asm) (by k_asm) (by k_asm) (by k_asm) (by walk_at "mRoom") (by walk_at "mRoom") ?_; k_whole); walk_at "mUse2"))
  k_with "call ref" => ((k_here; (with_reducible show wpAny _ _ (call (Value.ref 82) [Value.str (S _) _, Value.int _ _]) _ _ _); k_dflt (refine PCl.use (width_ok _ _ _ _ _ _ _ _ _ _ (by walk_at "mI") (by walk_at "mI") (by walk_at "mI")) (by k_asm) (by k_asm) (by k_asm) (by k_asm) (by walk_at "mRoom") (by walk_at "mRoom") ?_; k_whole); walk_at "mUse2"))
  k_with "call ref" => ((k_here; (with_reducible show wpAny _ _ (call (Value.ref 89) [Value.str (S [94, _]) _]) _ _ _); k_dflt (refine PCl.use (read_2 _ _ _ _ _ _ _ _ ) (by k_asm) (by k_asm) (by k_asm) (by k_asm) (by walk_at "mRoom") (by walk_at "mRoom") ?_; k_whole); walk_at "mUse2"))
  k_with "call ref" => ((k_here; (with_reducible show wpAny _ _ (call (Value.ref 89) [Value.str (S [_]) _]) _ _ _); k_dflt (refine PCl.use (read_0 _ _ _ _ _ _ _ _ ) (by k_asm) (by k_asm) (by k_asm) (by k_asm) (by walk_at "mRoom") (by walk_at "mRoom") ?_; k_whole); walk_at "mUse2"))
  k_with "call ref" => ((k_here; (with_reducible show wpAny _ _ (call (Value.ref 75) [Value.str (S _) _]) _ _ _); k_dflt (refine PCl.use (shown_ok _ _ _ _ _ _ _ _ (by walk_at "mI") (by walk_at "mAll")) (by k_asm) (by k_asm) (by k_asm) (by k_asm) (by walk_at "mRoom") (by walk_at "mRoom") ?_; k_whole); walk_at "mUse2"))
  k_with "mItem" => (((with_reducible show wpAny _ _ (subscriptTail _ _ (Value.str (S (shownL _)) _) (Value.int 0 _)) _ _ _); refine r_item (by walk_at "mI") (by first | exact shown_pos (by assumption) | exact shown_pos (of_decide_eq_false (by assumption))) (by exact shown_small (by walk_at "mI")) ?_))
  k_with "mAll" => (first | assumption | exact all_sub (by assumption))
  trivial
theorem comes_ok (w : World) (p : Program) (loose : List Str) (mean : ExcName → Option Value) (mg mb : Str → Option Value) (l : List Nat) (t : Tok) (hl : l.length < 300) (hall : ∀ c ∈ l, c < 1114112) :
  PCl 50 PySem.Challenge.rw_mr0049_01.prog w (hd.heap_39 w.params) p loose mean mg mb 110 [.str (S l) t] (fun _ => .bool (comesB l)) := by
  w_top off
  dsimp only [PCl]
  k_fill
  intro dp un fr gd s Q E X T hdp hun hret
  refine wpAny_call ?_
  k_dflt (refine' code_pure ?k3 ?k5 ?k6 ?k7 ?k8 ?k9 ?kB ?_ ?c2 ?c3 ?c4 ?c5; (case k3 => assumption); (case k5 => assumption); (case k6 => k_is); (case k7 => k_is); (case k8 => (show dp < 1000); omega); (case k9 => exact BindsTo.of_eq rfl); (case c5 => decide); (case kB => exact locs rfl); (case c2 => exact rfl); (case c3 => exact rfl); (case c4 => exact rfl); k_whole; intro L' h' F' N')
  k_steps

  rename PairSrcL _ _ _ _ _ _ _ _ _ _ _ _ => PS
  refine PS _ rfl _ _ _ _ (fun i m₁ _ => ComesJ l t i m₁) ?_ ?_ ?_
  · exact ⟨fun j h => absurd h (Nat.not_lt_zero _), ex_map rfl⟩
  · rintro i a t5 v m₁ news₁ s₁ own ⟨h3, tk3, rfl⟩ ha ⟨t6, rfl⟩ ⟨hJ, u4, rfl⟩ hadr _ F3 N3
    obtain rfl : news₁ = [] := by simpa using hadr
    have hi : i < l.length := by
      have := (List.getElem?_eq_some_iff.mp ha).1
      simpa [signs_length, S_len] using this
    rw [sign_at l i hi] at ha
    obtain rfl := Option.some.inj ha
    clear PS ha
    dsimp only at F3
    k_steps
    all_goals first
      | (refine comes_next hJ hi ?_ rfl; unfold okP; (simp only [decide_eq_true_eq, decide_eq_false_iff_not] at *); (simp only [*, not_true_eq_false, not_false_eq_true, and_self, and_true, true_and, and_false, false_and]); done)
      | (refine pc_retB (s := s) hret (comes_stop hi ?_) (by k_asm); unfold okP; (simp only [decide_eq_true_eq, decide_eq_false_iff_not] at *); (simp only [*, not_true_eq_false, not_false_eq_true, and_self, and_true, true_and, and_false, false_and]); done)
      | skip
  · rintro h3 tk3 m₁ news₁ F3 N3 _ ⟨hJ, u4, rfl⟩
    have hJ' := comes_true (l := l) (fun j hj => hJ j (by simpa [signs_length, S_len] using hj))
    dsimp only
    k_steps
    exact pc_retB (s := s) hret hJ'.symm (by k_asm)
  all_goals refine pc_retB (s := s) hret ?_ (by k_asm)
  all_goals walk_at "mClean"
end
section
open PySem PySem.W PyProof.Rows
set_option Elab.async false
set_option maxRecDepth 100000
set_option maxHeartbeats 40000000

def prAt (l : List Nat) (k : Nat) : Bool :=
  decide (32 ≤ l.getD k 0 ∧ l.getD k 0 ≤ 126) && !(decide ((l.drop k).take 2 = [94, 63]) && decide (tailB (l.take k) % 2 = 1))
def printsB (l : List Nat) : Bool := (List.range l.length).all (prAt l)
def PrJ (l : List Nat) (t : Tok) (i : Nat) (m₁ : Str → Option Value) : Prop := (∀ j, j < i → prAt l j = true) ∧ ∃ u : Str → Option Value, m₁ = fun y => if y = Str.ofString "text" then some (.str (S l) t) else u y
theorem pr_true {l : List Nat} (h : ∀ j, j < l.length → prAt l j = true) : printsB l = true := by
  unfold printsB; rw [List.all_eq_true]; intro x hx; exact h x (List.mem_range.mp hx)
theorem tailB_le (l : List Nat) : tailB l ≤ l.length := by
  unfold tailB; have := (List.takeWhile_sublist (fun x => x == 33) (l := l.reverse)).length_le; simpa using this
def prP (l : List Nat) (i : Nat) (hi : i < l.length) : Prop :=
  (32 ≤ l[i] ∧ l[i] ≤ 126) ∧ ¬ (List.take (((i : Int) + 2).toNat - (i : Int).toNat) (List.drop (i : Int).toNat l) = [94, 63] ∧
   ((i : Int) - ((List.take ((List.take (i : Int).toNat l).length - tailB (List.take (i : Int).toNat l)) (List.take (i : Int).toNat l)).length : Nat)) % 2 = 1)
theorem pr_iff (l : List Nat) (i : Nat) (hi : i < l.length) : prAt l i = true ↔ prP l i hi := by
  unfold prAt prP
  have ht := tailB_le (l.take i)
  simp only [List.length_take] at ht
  have e : l[i]?.getD 0 = l[i] := by simp [hi]
  have e2 : ((i : Int) - ((min (min i l.length - tailB (l.take i)) (min i l.length) : Nat) : Int)) % 2 = 1 ↔ tailB (l.take i) % 2 = 1 := by omega
  simp only [Int.toNat_natCast, show ((i : Int) + 2).toNat - i = 2 by omega, List.length_take, e2]
  simp [e]
  intro _ _
  exact ⟨fun h h2 => h.resolve_left (fun q => q h2), fun h => by
    by_cases q : List.take 2 (List.drop i l) = [94, 63]
    · exact .inr (h q)
    · exact .inl q⟩
theorem pr_next {l : List Nat} {t : Tok} {i : Nat} {m' : Str → Option Value} (hJ : ∀ j, j < i → prAt l j = true) (hi : i < l.length) (hok : prP l i hi) (hm : m' (Str.ofString "text") = some (.str (S l) t)) : PrJ l t (i + 1) m' :=
  ⟨fun j hj => by
    by_cases e : j = i
    · rw [e]; exact (pr_iff l i hi).mpr hok
    · exact hJ j (by omega), ex_map hm⟩
theorem pr_stop {l : List Nat} {i : Nat} (hi : i < l.length) (hok : ¬ prP l i hi) : false = printsB l := by
  symm
  unfold printsB; rw [List.all_eq_false]
  refine ⟨i, List.mem_range.mpr hi, ?_⟩
  rw [pr_iff l i hi]; exact hok
end
section
open PySem PySem.W PyProof.Rows
set_option Elab.async false
set_option maxRecDepth 100000
set_option maxHeartbeats 40000000


theorem ln_10 : True := by
  k_with_none
  k_with "mI" => (first | omega | (simp only [List.length_cons, List.length_nil, List.length_append, List.length_take, List.length_drop, List.length_replicate, List.length_map, List.length_range, S_len, sizeLine_eq]; omega) | (simp only [List.length_cons, List.length_nil, List.length_append, List.length_take, List.length_drop, List.length_replicate, List.length_map, List.length_range, S_len, sizeLine_eq] at *; omega))
  k_with "mItem" => (first
  | ((with_reducible show wpAny _ _ (subscriptTail _ _ (Value.str (S (_ :: _)) _) (Value.int 0 _)) _ _ _); refine r_it0 (by walk_at "mI") ?_)
  | ((with_reducible show wpAny _ _ (subscriptTail _ _ (Value.str (S (_ :: _ :: _)) _) (Value.int 1 _)) _ _ _); refine r_it1 (by walk_at "mI") ?_)
  | ((with_reducible show wpAny _ _ (subscriptTail _ _ (Value.str (S _) _) (Value.int _ _)) _ _ _); refine r_item (by walk_at "mI") (by walk_at "mI") (by walk_at "mI") ?_))
  k_with "mSlice" => (((with_reducible rename Fr _ _ _ _ => F'); (with_reducible rename News _ _ _ _ => N'); (first
  | ((with_reducible show wpAny _ _ (subscriptTail _ (Expr.Slice (some _) none none _) (Value.str (S (_ :: _)) _) _) _ _ _); refine r_sl1 (s := ⟨_, _, _, _, _⟩) F' N' (by walk_at "mI") ?_)
  | refine r_ss (s := ⟨_, _, _, _, _⟩) F' N' (by walk_at "mI") (by walk_at "mI") (by walk_at "mI") ?_
  | refine r_sn (s := ⟨_, _, _, _, _⟩) F' N' (by walk_at "mI") (by walk_at "mI") ?_
  | refine r_ns (s := ⟨_, _, _, _, _⟩) F' N' (by walk_at "mI") (by walk_at "mI") ?_); intro _ _ _ _ _))
  k_with "subscriptTail" => (first | walk_at "mItem" | walk_at "mSlice")
  k_with "subscriptTail Name Name str int" => (walk_at "mItem")
  k_with "subscriptTail Name Constant str int" => (walk_at "mItem")
  k_with "subscriptTail Name Slice str ref" => (walk_at "mSlice")
  k_with "eval Constant str" => ((with_reducible first | refine r_const lit_bang ?_ | refine r_const lit_hat ?_ | refine r_const lit_q ?_ | refine r_const lit_thorn ?_ | refine r_const lit_del ?_ | refine r_const lit_ff ?_ | refine r_const lit_A ?_ | refine r_const lit_hq ?_ | refine r_const lit_h9 ?_ | refine r_const lit_sp ?_ | refine r_const lit_tilde ?_ | refine r_const lit_fe ?_ | refine r_const lit_hT ?_ | refine r_const lit_e ?_ | refine r_const lit_marks ?_))
  k_with "call builtin:len" => (first
  | ((with_reducible show wpAny _ _ (call (Value.builtin "len") [Value.str (S [_]) _]) _ _ _); refine r_len1 ?_)
  | ((with_reducible show wpAny _ _ (call (Value.builtin "len") [Value.str (S [_, _]) _]) _ _ _); refine r_len2 ?_)
  | ((with_reducible show wpAny _ _ (call (Value.builtin "len") [Value.str (S [_, _, _]) _]) _ _ _); refine r_len3 ?_)
  | ((with_reducible show wpAny _ _ (call (Value.builtin "len") [Value.str (S _) _]) _ _ _); refine r_len (by walk_at "mI") ?_))
  k_with "compareOp Eq str str" => (((with_reducible show wpAny _ _ (compareOp _ (Value.str (S _) _) (Value.str (S _) _)) _ _ _); refine r_eq ?_))
  k_with "compareOp NotEq str str" => (((with_reducible show wpAny _ _ (compareOp _ (Value.str (S _) _) (Value.str (S _) _)) _ _ _); refine r_ne ?_))
  k_with "compareOp In str str" => (((with_reducible show wpAny _ _ (compareOp _ (Value.str (S _) _) (Value.str (S _) _)) _ _ _); refine r_in ?_))
  k_with "compareOp Gt str str" => (((with_reducible show wpAny _ _ (compareOp _ (Value.str (S _) _) (Value.str (S _) _)) _ _ _); refine r_gt ?_))
  k_with "compareOp LtE str str" => (((with_reducible show wpAny _ _ (compareOp _ (Value.str (S _) _) (Value.str (S _) _)) _ _ _); refine r_le ?_))
  k_with "binaryOp Add str str" => (((with_reducible show wpAny _ _ (binaryOp _ (Value.str (S _) _) (Value.str (S _) _)) _ _ _); refine r_add ?_ (by walk_at "mI"); intro _ _))
  k_with "inplaceOp Add str str" => (((with_reducible show wpAny _ _ (inplaceOp _ (Value.str (S _) _) (Value.str (S _) _)) _ _ _); refine r_iadd ?_ (by walk_at "mI"); intro _ _))
  k_with "call builtin:ord" => (((with_reducible show wpAny _ _ (call (Value.builtin "ord") [Value.str (S _) _]) _ _ _); refine r_ord ?_))
  k_with "call builtin:chr" => ((refine r_chr (by walk_at "mChr") (by walk_at "mChr") ?_))
  k_with "mChr" => (first | omega | (split <;> omega))
  k_with "mRoom" => (((try simp only [depth_mark, depth_under_make, depth_under_kw, depth_in1, depth_deeper, depth_caller, units_in1, units_deeper, Around.mark_units, units_caller]); (try dsimp only [arA]); omega))
  k_with "mClean" => (((try clear hret); (repeat (with_reducible rename Fr _ _ _ _ => x9; clear x9)); (repeat (with_reducible rename News _ _ _ _ => x9; clear x9)); (repeat (with_reducible rename Below _ _ _ _ => x9; clear x9)); (repeat (with_reducible rename Top _ _ _ _ _ _ => x9; clear x9)); (repeat (with_reducible rename Frag.In _ _ => x9; clear x9))))
  k_with "mUse2" => (((intro t9 h9 tk9 F9 N9); (try dsimp only); (try k_fold)))
  k_with "binaryOp BitAnd int int" => (first
  | ((with_reducible show wpAny _ _ (binaryOp _ (Value.int _ _) (Value.int 127 _)) _ _ _); refine r_and127 ?_)
  | ((with_reducible show wpAny _ _ (binaryOp _ (Value.int _ _) (Value.int 31 _)) _ _ _); refine r_and31 ?_)
  | ((with_reducible show wpAny _ _ (binaryOp _ (Value.int _ _) (Value.int 128 _)) _ _ _); refine r_and128 (by omega) ?_ ?_ <;> intro _))
  k_with "binaryOp BitOr int int" => (first
  | ((with_reducible show wpAny _ _ (binaryOp _ (Value.int _ _) (Value.int 32 _)) _ _ _); refine r_or32 (by omega) ?_ ?_ <;> intro _)
  | ((with_reducible show wpAny _ _ (binaryOp _ (Value.int _ _) (Value.int 128 _)) _ _ _); refine r_or128 (by omega) ?_ ?_ <;> intro _))
  k_with "inplaceOp Add ref ref" => ((k_here; k_dflt (refine iadd_K (by k_asm) (by k_asm) (by k_mem) (by k_upd) (by exact Nat.le_of_ble_eq_true rfl) (by exact Nat.le_of_ble_eq_true rfl) ?_; k_whole); intro h' F' N'; (try dsimp only [List.cons_append, List.nil_append] at N'); (try k_sweep)))
  k_with "binaryOp Mod int int" => (refine r_mod (by decide) ?_)
  k_with "binaryOp FloorDiv int int" => (refine r_fdiv (by decide) (by decide) ?_)
  k_with "binaryOp Mult str int" => (((with_reducible show wpAny _ _ (binaryOp _ (Value.str (S [_]) _) (Value.int _ _)) _ _ _); refine r_mul (by walk_at "mI") (by walk_at "mI") ?_; intro _ _))
  k_with "exec For" => (refine hold ?_)
  k_with "exec For Name ListComp cons nil" => (refine hold ?_)
  k_with "exec For Name Call cons nil" => (refine hold ?_)
  k_with "call ref" => ((k_here; (with_reducible show wpAny _ _ (call (Value.ref 21) [Value.str (S [_]) _]) _ _ _); k_dflt (refine PCl.use (ctoi_s _ _ _ _ _ _ _ _ ) (by k_asm) (by k_asm) (by k_asm) (by k_asm) (by walk_at "mRoom") (by walk_at "mRoom") ?_; k_whole); walk_at "mUse2"))
  k_with "call ref" => ((k_here; (with_reducible show wpAny _ _ (call (Value.ref 21) [Value.int _ _]) _ _ _); k_dflt (refine PCl.use (ctoi_i _ _ _ _ _ _ _ _ ) (by k_asm) (by k_asm) (by k_asm) (by k_asm) (by walk_at "mRoom") (by walk_at "mRoom") ?_; k_whole); walk_at "mUse2"))
  k_with "call ref" => ((k_here; (with_reducible show wpAny _ _ (call (Value.ref 28) [Value.str (S [_]) _]) _ _ _); k_dflt (refine PCl.use (isprint_s _ _ _ _ _ _ _ _ ) (by k_asm) (by k_asm) (by k_asm) (by k_asm) (by walk_at "mRoom") (by walk_at "mRoom") ?_; k_whole); walk_at "mUse2"))
  k_with "call ref" => ((k_here; (with_reducible show wpAny _ _ (call (Value.ref 28) [Value.int _ _]) _ _ _); k_dflt (refine PCl.use (isprint_i _ _ _ _ _ _ _ _ ) (by k_asm) (by k_asm) (by k_asm) (by k_asm) (by walk_at "mRoom") (by walk_at "mRoom") ?_; k_whole); walk_at "mUse2"))
  k_with "call ref" => ((k_here; (with_reducible show wpAny _ _ (call (Value.ref 35) [Value.str (S [_]) _]) _ _ _); k_dflt (refine PCl.use (ctrl_s _ _ _ _ _ _ _ _ ) (by k_asm) (by k_asm) (by k_asm) (by k_asm) (by walk_at "mRoom") (by walk_at "mRoom") ?_; k_whole); walk_at "mUse2"))
  k_with "call ref" => ((k_here; (with_reducible show wpAny _ _ (call (Value.ref 42) [Value.str (S [_]) _]) _ _ _); k_dflt (refine PCl.use (alt_s _ _ _ _ _ _ _ _ (by walk_at "mI")) (by k_asm) (by k_asm) (by k_asm) (by k_asm) (by walk_at "mRoom") (by walk_at "mRoom") ?_; k_whole); walk_at "mUse2"))
  k_with "call ref" => ((k_here; (with_reducible show wpAny _ _ (call (Value.ref 49) [Value.str (S [_]) _]) _ _ _); k_dflt (refine PCl.use (unctrl_s _ _ _ _ _ _ _ _ ) (by k_asm) (by k_asm) (by k_asm) (by k_asm) (by walk_at "mRoom") (by walk_at "mRoom") ?_; k_whole); walk_at "mUse2"))
  k_with "call ref" => ((k_here; (with_reducible show wpAny _ _ (call (Value.ref 70) _) _ _ _); k_dflt (refine PCl.use (marks_ok _ _ _ _ _ _  ) (by k_asm) (by k_asm) (by k_asm) (by k_asm) (by walk_at "mRoom") (by walk_at "mRoom") ?_; k_whole); walk_at "mUse2"))
  k_with "call ref" => ((k_here; (with_reducible show wpAny _ _ (call (Value.ref 82) [Value.str (S _) _, Value.int _ _]) _ _ _); k_dflt (refine PCl.use (width_ok _ _ _ _ _ _ _ _ _ _ (by walk_at "mI") (by walk_at "mI") (by walk_at "mI")) (by k_asm) (by k_asm) (by k_asm) (by k_asm) (by walk_at "mRoom") (by walk_at "mRoom") ?_; k_whole); walk_at "mUse2"))
  k_with "call ref" => ((k_here; (with_reducible show wpAny _ _ (call (Value.ref 89) [Value.str (S [94, _]) _]) _ _ _); k_dflt (refine PCl.use (read_2 _ _ _ _ _ _ _ _ ) (by k_asm) (by k_asm) (by k_asm) (by k_asm) (by walk_at "mRoom") (by walk_at "mRoom") ?_; k_whole); walk_at "mUse2"))
  k_with "call ref" => ((k_here; (with_reducible show wpAny _ _ (call (Value.ref 89) [Value.str (S [_]) _]) _ _ _); k_dflt (refine PCl.use (read_0 _ _ _ _ _ _ _ _ ) (by k_asm) (by k_asm) (by k_asm) (by k_asm) (by walk_at "mRoom") (by walk_at "mRoom") ?_; k_whole); walk_at "mUse2"))
  k_with "call ref" => ((k_here; (with_reducible show wpAny _ _ (call (Value.ref 75) [Value.str (S _) _]) _ _ _); k_dflt (refine PCl.use (shown_ok _ _ _ _ _ _ _ _ (by walk_at "mI") (by walk_at "mAll")) (by k_asm) (by k_asm) (by k_asm) (by k_asm) (by walk_at "mRoom") (by walk_at "mRoom") ?_; k_whole); walk_at "mUse2"))
  k_with "call builtin:str.rstrip" => ((refine r_rstrip (by walk_at "mI") ?_; intro _ _))
  trivial
theorem prints_ok (w : World) (p : Program) (loose : List Str) (mean : ExcName → Option Value) (mg mb : Str → Option Value) (l : List Nat) (t : Tok) (hl : l.length < 300) :
  PCl 50 PySem.Challenge.rw_mr0049_01.prog w (hd.heap_39 w.params) p loose mean mg mb 117 [.str (S l) t] (fun _ => .bool (printsB l)) := by
  w_top off
  dsimp only [PCl]
  k_fill
  intro dp un fr gd s Q E X T hdp hun hret
  refine wpAny_call ?_
  k_dflt (refine' code_pure ?k3 ?k5 ?k6 ?k7 ?k8 ?k9 ?kB ?_ ?c2 ?c3 ?c4 ?c5; (case k3 => assumption); (case k5 => assumption); (case k6 => k_is); (case k7 => k_is); (case k8 => (show dp < 1000); omega); (case k9 => exact BindsTo.of_eq rfl); (case c5 => decide); (case kB => exact locs rfl); (case c2 => exact rfl); (case c3 => exact rfl); (case c4 => exact rfl); k_whole; intro L' h' F' N')
  k_steps

  rename PairSrcL _ _ _ _ _ _ _ _ _ _ _ _ => PS
  refine PS _ rfl _ _ _ _ (fun i m₁ _ => PrJ l t i m₁) ?_ ?_ ?_
  · exact ⟨fun j h => absurd h (Nat.not_lt_zero _), ex_map rfl⟩
  · rintro i a t5 v m₁ news₁ s₁ own ⟨h3, tk3, rfl⟩ ha ⟨t6, rfl⟩ ⟨hJ, u4, rfl⟩ hadr _ F3 N3
    obtain rfl : news₁ = [] := by simpa using hadr
    have hi : i < l.length := by
      have := (List.getElem?_eq_some_iff.mp ha).1
      simpa [signs_length, S_len] using this
    rw [sign_at l i hi] at ha
    obtain rfl := Option.some.inj ha
    clear PS ha
    dsimp only at F3
    k_steps
    all_goals first
      | (refine pr_next hJ hi ?_ rfl; unfold prP; (try simp only [decide_eq_true_eq, decide_eq_false_iff_not] at *); (simp only [*, not_true_eq_false, not_false_eq_true, and_self, and_true, true_and, and_false, false_and]); done)
      | (refine pc_retB (s := s) hret (pr_stop hi ?_) (by k_asm); unfold prP; (try simp only [decide_eq_true_eq, decide_eq_false_iff_not] at *); (simp only [*, not_true_eq_false, not_false_eq_true, and_self, and_true, true_and, and_false, false_and]); done)
      | skip
  · rintro h3 tk3 m₁ news₁ F3 N3 _ ⟨hJ, u4, rfl⟩
    have hJ' := pr_true (l := l) (fun j hj => hJ j (by simpa [signs_length, S_len] using hj))
    dsimp only
    k_steps
    exact pc_retB (s := s) hret hJ'.symm (by k_asm)
  all_goals refine pc_retB (s := s) hret ?_ (by k_asm)
  all_goals walk_at "mClean"
end
section
open PySem PySem.W PyProof.Rows
set_option Elab.async false
set_option maxRecDepth 100000
def srGo (nx : Nat → Option (Nat × Nat)) (col : Int) : Nat → Option (Nat × Nat) → Nat → Nat → Option (Nat × Nat)
  | 0, f, _, _ => f
  | k + 1, f, i, j => if (i : Int) < col ∧ (j : Int) ≤ col then
      (match nx (if i = j then j + 1 else j) with
      | none => some (i, j)
      | some (a, b) => srGo nx col k (some (i, j)) a b) else f
def srOf (nx : Nat → Option (Nat × Nat)) (col : Int) : Option (Nat × Nat) :=
  match nx 0 with
  | none => none
  | some (i, j) => srGo nx col (col.toNat + 1) none i j
theorem ex_map7 {m : Str → Option Value} {x1 x2 x3 x4 x5 x6 x7 : Str} {v1 v2 v3 v4 v5 v6 v7 : Value} (h1 : m x1 = some v1) (h2 : m x2 = some v2) (h3 : m x3 = some v3) (h4 : m x4 = some v4) (h5 : m x5 = some v5) (h6 : m x6 = some v6) (h7 : m x7 = some v7) :
    ∃ u : Str → Option Value, m = fun y => if y = x1 then some v1 else if y = x2 then some v2 else if y = x3 then some v3 else if y = x4 then some v4 else if y = x5 then some v5 else if y = x6 then some v6 else if y = x7 then some v7 else u y := ⟨m, funext fun y => by
  by_cases e1 : y = x1
  · subst e1; simp [h1]
  by_cases e2 : y = x2
  · subst e2; simp [e1, h2]
  by_cases e3 : y = x3
  · subst e3; simp [e1, e2, h3]
  by_cases e4 : y = x4
  · subst e4; simp [e1, e2, e3, h4]
  by_cases e5 : y = x5
  · subst e5; simp [e1, e2, e3, e4, h5]
  by_cases e6 : y = x6
  · subst e6; simp [e1, e2, e3, e4, e5, h6]
  by_cases e7 : y = x7
  · subst e7; simp [e1, e2, e3, e4, e5, e6, h7]
  simp [e1, e2, e3, e4, e5, e6, e7]⟩
section
variable {prog : Program} {w : World} {K : Frag} {p : Program} {loose : List Str} {mean : ExcName → Option Value} {mg mb : Str → Option Value}
theorem code_tab {A : Around} {s : Shared} {R : Result → Shared → Prop} {name qual : Str} {params : Arguments} {body : List Stmt} {scope : Scope} {dV kV doc pm cdv ct oc : Value} {an od : Option Addr} {osl : Array (Option Value)} {f : Addr} {args : Args} {binds : List (Str × Value)}
    (tabs : List (Addr × Obj)) (htab : Has tabs s.heap)
    (X : K.In (hideAll s.heap (tabs.map (·.1)))) (T : Top p loose mean mg mb (hideAll s.heap (tabs.map (·.1))))
    (ho : K.lookup f = some ⟨oc, od, .func (fnOf name qual params body scope dV kV doc pm an cdv ct), osl⟩) (hcd : codeIn K cdv qual = true) (hroom : A.depth < recursionLimit)
    (hbind : BindsTo s (fnOf name qual params body scope dV kV doc pm an cdv ct) args binds) (hloc : ∀ y ∈ binds, scope.names.lookup y.1 = some .local)
    (h : ∀ L' h₁, Fr (hideAll s.heap (tabs.map (·.1))) L' h₁ (fun y => binds.reverse.lookup y) → News (hideAll s.heap (tabs.map (·.1))) L' h₁ tabs →
      wpAny (model prog w) (A.deeper (envOf qual scope L' f cdv)) (execs body (envOf qual scope L' f cdv))
        (fun fl s' => R (.ok (.ret (match fl with | .ret v => v | _ => .none))) s') (fun _ _ => False)
        { s with heap := h₁, toks := s.toks + binds.length })
    (hco : scope.isCoroutine = false) (hgen : scope.isGenerator = false) (hk : scope.kind = .function)
    (hcell : ∀ x ∈ scope.names, x.2 ≠ .cell) : codeAny (model prog w) A (.call (.ref f) args) R s := by
  have X' : K.In s.heap := X.keeps fun b o e => of_hideAll _ e
  have T' : Top p loose mean mg mb s.heap := T.keeps fun b o e => of_hideAll _ e
  exact codeAny_call_def (fd := fnOf name qual params body scope dV kV doc pm an cdv ct) (body := body) (binds := binds) hroom (X' _ _ ho) rfl T'.nolimit (codeRec_of X' hcd) rfl hbind hcell hloc
    (fun h₁ hns hk₁ => wpAny_mono (h s.heap.objs.size h₁ ⟨hns, fun b o e => hk₁ b o (of_hideAll _ e), Nat.le_of_eq (hideAll_size _ _)⟩ fun q hq => ⟨hk₁ _ _ (htab q hq), Nat.ne_of_lt (Heap.lt_size (htab q hq)), hideAll_none _ (List.mem_map_of_mem hq)⟩) (fun _ _ x => x) fun _ _ x => x.elim) hco hgen hk
end
def recs (TL : List (Addr × Obj)) : List (Addr × Obj) := TL.filter fun q => !isTab q.2
theorem recs_isTab {TL : List (Addr × Obj)} : ∀ q ∈ recs TL, isTab q.2 = false := fun q hq => by
  have := (List.mem_filter.mp hq).2; simpa using this
theorem recs_sub {TL : List (Addr × Obj)} : ∀ q ∈ recs TL, q ∈ TL := fun _ hq => (List.mem_filter.mp hq).1
theorem kept_of {h h' : Heap} {L : Addr} {m : Str → Option Value} {TL PL TL' : List (Addr × Obj)} (hh : Has (TL ++ PL) h) (F : Fr (hideAll h ((TL ++ PL).map (·.1))) L h' m) (N : News (hideAll h ((TL ++ PL).map (·.1))) L h' (TL' ++ (PL ++ recs TL)))
    (ad : Adr (TL.map (·.1)) h.objs.size TL') : Kept h TL h' TL' where
  keep := fun b o hx e => by
    by_cases hb : b ∈ (TL ++ PL).map (·.1)
    · obtain ⟨r, hr, rfl⟩ := List.mem_map.mp hb
      have e2 := hh r hr
      obtain rfl : o = r.2 := Option.some.inj (e ▸ e2)
      rcases List.mem_append.mp hr with hr | hr
      · rcases hx with z | z
        · exact absurd (List.mem_map_of_mem hr) z
        · exact (N r (List.mem_append.mpr (.inr (List.mem_append.mpr (.inr (List.mem_filter.mpr ⟨hr, by simp [z]⟩)))))).1
      · exact (N r (List.mem_append.mpr (.inr (List.mem_append.mpr (.inl hr))))).1
    · exact F.keep b o (hideAll_get _ e hb)
  has := fun q hq => (N q (List.mem_append.mpr (.inl hq))).1
  adr := ad
  size := by
    have := F.above; rw [hideAll_size] at this
    exact Nat.le_trans this (Nat.le_of_lt F.ns.lt)
section
variable (prog : Program) (w : World) (K : Frag) (p : Program) (loose : List Str) (mean : ExcName → Option Value) (mg mb : Str → Option Value)
def FoundV (A0 : List Addr) (n0 : Nat) (f : Option (Nat × Nat)) (fv : Value) (FL : List (Addr × Obj)) : Prop :=
  (f = none ∧ fv = .none ∧ FL = []) ∨ ∃ a b fh, f = some (a, b) ∧ fv = .ref fh ∧ HitL prog w K p loose mean mg mb FL fh (a : Nat) (b : Nat) ∧ Adr A0 n0 FL
structure SrI (PL CL : List (Addr × Obj)) (TP : List (Addr × Obj) → Prop) (nx : Nat → Option (Nat × Nat)) (col : Int) (A0 : List Addr) (n0 : Nat) (R : Option (Nat × Nat)) (n : Nat) (f : Option (Nat × Nat)) (fv : Value) (FL : List (Addr × Obj)) (i j : Nat) (hit : Addr) (HL TL : List (Addr × Obj)) : Prop where
  found : FoundV prog w K p loose mean mg mb A0 n0 f fv FL
  hitl : HitL prog w K p loose mean mg mb HL hit (i : Int) (j : Int)
  tp : TP TL
  adT : Adr A0 n0 TL
  adH : Adr A0 n0 HL
  fuel : col < (i : Int) + n
  le : i ≤ j
  small : j < 500
  res : srGo nx col n f i j = R
def SrJ (PL CL : List (Addr × Obj)) (TP : List (Addr × Obj) → Prop) (nx : Nat → Option (Nat × Nat)) (col : Int) (A0 : List Addr) (n0 : Nat) (R : Option (Nat × Nat)) (pg : Addr) (l : List Nat) (tc tk : Tok) (n : Nat) (m : Str → Option Value) (news : List (Addr × Obj)) : Prop :=
  ∃ f fv FL i j hit HL TL, SrI prog w K p loose mean mg mb PL CL TP nx col A0 n0 R n f fv FL i j hit HL TL ∧ news = TL ++ (PL ++ (HL ++ (FL ++ CL))) ∧
    ∃ ti tj, ∃ u : Str → Option Value, m = fun y => if y = Str.ofString "prog" then some (.ref pg) else if y = Str.ofString "chars" then some (.str (S l) tc) else if y = Str.ofString "col" then some (.int col tk) else
      if y = Str.ofString "m" then some (.ref hit) else if y = Str.ofString "found" then some fv else if y = Str.ofString "i" then some (.int (i : Int) ti) else if y = Str.ofString "j" then some (.int (j : Int) tj) else u y
end
theorem srGo_stop {nx : Nat → Option (Nat × Nat)} {col : Int} {n : Nat} {f : Option (Nat × Nat)} {i j : Nat} (h : ¬ ((i : Int) < col ∧ (j : Int) ≤ col)) : srGo nx col n f i j = f := by
  cases n with
  | zero => rfl
  | succ k => simp only [srGo, h, if_false]
theorem srGo_step {nx : Nat → Option (Nat × Nat)} {col : Int} {k : Nat} {f : Option (Nat × Nat)} {i j st : Nat} (h1 : (i : Int) < col) (h2 : (j : Int) ≤ col) (hs : (if i = j then j + 1 else j) = st) :
    srGo nx col (k + 1) f i j = (match nx st with | none => some (i, j) | some (a, b) => srGo nx col k (some (i, j)) a b) := by
  simp only [srGo, h1, h2, and_self, if_true, hs]
section
variable {prog : Program} {w : World} {K : Frag} {p : Program} {loose : List Str} {mean : ExcName → Option Value} {mg mb : Str → Option Value}
theorem sr_ret {s : Shared} {TL PL FL TL' news : List (Addr × Obj)} {TP : List (Addr × Obj) → Prop} {R f : Option (Nat × Nat)} {fv : Value} {Q : Value → Shared → Prop} {L : Addr} {h : Heap} {m : Str → Option Value} {tk : Nat}
    (hret : Found prog w K p loose mean mg mb TP R s TL Q) (hh : Has (TL ++ PL) s.heap) (fnd : FoundV prog w K p loose mean mg mb (TL.map (·.1)) s.heap.objs.size f fv FL) (e : f = R) (tp' : TP TL') (adT : Adr (TL.map (·.1)) s.heap.objs.size TL')
    (F : Fr (hideAll s.heap ((TL ++ PL).map (·.1))) L h m) (N : News (hideAll s.heap ((TL ++ PL).map (·.1))) L h news) (hs : ∀ q ∈ TL' ++ (PL ++ (FL ++ recs TL)), q ∈ news) : Q fv { s with heap := h, toks := tk } := by
  have N2 := nSub N hs
  have k : Kept s.heap TL h TL' := kept_of hh F (nSub N2 fun q hq => by
    simp only [List.mem_append] at hq ⊢
    rcases hq with z | z | z <;> simp [z]) adT
  subst e
  rcases fnd with ⟨rfl, rfl, _⟩ | ⟨a, b, fh, rfl, rfl, hH, adF⟩
  · exact hret.1 rfl h tk TL' k tp'
  · exact hret.2 a b rfl fh FL h tk TL' k tp' hH (fun q hq => (N2 q (by simp [hq])).1) adF
end
end
section
open PySem PySem.W PyProof.Rows
set_option Elab.async false
set_option maxRecDepth 100000
set_option maxHeartbeats 40000000


theorem ln_11 : True := by
  k_with_none
  k_with "mI" => (first | omega | (simp only [List.length_cons, List.length_nil, List.length_append, List.length_take, List.length_drop, List.length_replicate, List.length_map, List.length_range, S_len, sizeLine_eq]; omega) | (simp only [List.length_cons, List.length_nil, List.length_append, List.length_take, List.length_drop, List.length_replicate, List.length_map, List.length_range, S_len, sizeLine_eq] at *; omega))
  k_with "mItem" => (first
  | ((with_reducible show wpAny _ _ (subscriptTail _ _ (Value.str (S (_ :: _)) _) (Value.int 0 _)) _ _ _); refine r_it0 (by walk_at "mI") ?_)
  | ((with_reducible show wpAny _ _ (subscriptTail _ _ (Value.str (S (_ :: _ :: _)) _) (Value.int 1 _)) _ _ _); refine r_it1 (by walk_at "mI") ?_)
  | ((with_reducible show wpAny _ _ (subscriptTail _ _ (Value.str (S _) _) (Value.int _ _)) _ _ _); refine r_item (by walk_at "mI") (by walk_at "mI") (by walk_at "mI") ?_))
  k_with "mSlice" => (((with_reducible rename Fr _ _ _ _ => F'); (with_reducible rename News _ _ _ _ => N'); (first
  | ((with_reducible show wpAny _ _ (subscriptTail _ (Expr.Slice (some _) none none _) (Value.str (S (_ :: _)) _) _) _ _ _); refine r_sl1 (s := ⟨_, _, _, _, _⟩) F' N' (by walk_at "mI") ?_)
  | refine r_ss (s := ⟨_, _, _, _, _⟩) F' N' (by walk_at "mI") (by walk_at "mI") (by walk_at "mI") ?_
  | refine r_sn (s := ⟨_, _, _, _, _⟩) F' N' (by walk_at "mI") (by walk_at "mI") ?_
  | refine r_ns (s := ⟨_, _, _, _, _⟩) F' N' (by walk_at "mI") (by walk_at "mI") ?_); intro _ _ _ _ _))
  k_with "subscriptTail" => (first | walk_at "mItem" | walk_at "mSlice")
  k_with "subscriptTail Name Name str int" => (walk_at "mItem")
  k_with "subscriptTail Name Constant str int" => (walk_at "mItem")
  k_with "subscriptTail Name Slice str ref" => (walk_at "mSlice")
  k_with "eval Constant str" => ((with_reducible first | refine r_const lit_bang ?_ | refine r_const lit_hat ?_ | refine r_const lit_q ?_ | refine r_const lit_thorn ?_ | refine r_const lit_del ?_ | refine r_const lit_ff ?_ | refine r_const lit_A ?_ | refine r_const lit_hq ?_ | refine r_const lit_h9 ?_ | refine r_const lit_sp ?_ | refine r_const lit_tilde ?_ | refine r_const lit_fe ?_ | refine r_const lit_hT ?_ | refine r_const lit_e ?_ | refine r_const lit_marks ?_))
  k_with "call builtin:len" => (first
  | ((with_reducible show wpAny _ _ (call (Value.builtin "len") [Value.str (S [_]) _]) _ _ _); refine r_len1 ?_)
  | ((with_reducible show wpAny _ _ (call (Value.builtin "len") [Value.str (S [_, _]) _]) _ _ _); refine r_len2 ?_)
  | ((with_reducible show wpAny _ _ (call (Value.builtin "len") [Value.str (S [_, _, _]) _]) _ _ _); refine r_len3 ?_)
  | ((with_reducible show wpAny _ _ (call (Value.builtin "len") [Value.str (S _) _]) _ _ _); refine r_len (by walk_at "mI") ?_))
  k_with "compareOp Eq str str" => (((with_reducible show wpAny _ _ (compareOp _ (Value.str (S _) _) (Value.str (S _) _)) _ _ _); refine r_eq ?_))
  k_with "compareOp NotEq str str" => (((with_reducible show wpAny _ _ (compareOp _ (Value.str (S _) _) (Value.str (S _) _)) _ _ _); refine r_ne ?_))
  k_with "compareOp In str str" => (((with_reducible show wpAny _ _ (compareOp _ (Value.str (S _) _) (Value.str (S _) _)) _ _ _); refine r_in ?_))
  k_with "compareOp Gt str str" => (((with_reducible show wpAny _ _ (compareOp _ (Value.str (S _) _) (Value.str (S _) _)) _ _ _); refine r_gt ?_))
  k_with "compareOp LtE str str" => (((with_reducible show wpAny _ _ (compareOp _ (Value.str (S _) _) (Value.str (S _) _)) _ _ _); refine r_le ?_))
  k_with "binaryOp Add str str" => (((with_reducible show wpAny _ _ (binaryOp _ (Value.str (S _) _) (Value.str (S _) _)) _ _ _); refine r_add ?_ (by walk_at "mI"); intro _ _))
  k_with "inplaceOp Add str str" => (((with_reducible show wpAny _ _ (inplaceOp _ (Value.str (S _) _) (Value.str (S _) _)) _ _ _); refine r_iadd ?_ (by walk_at "mI"); intro _ _))
  k_with "call builtin:ord" => (((with_reducible show wpAny _ _ (call (Value.builtin "ord") [Value.str (S _) _]) _ _ _); refine r_ord ?_))
  k_with "call builtin:chr" => ((refine r_chr (by walk_at "mChr") (by walk_at "mChr") ?_))
  k_with "mChr" => (first | omega | (split <;> omega))
  k_with "mRoom" => (((try simp only [depth_mark, depth_under_make, depth_under_kw, depth_in1, depth_deeper, depth_caller, units_in1, units_deeper, Around.mark_units, units_caller]); (try dsimp only [arA]); omega))
  k_with "mClean" => (((try clear hret); (repeat (with_reducible rename Fr _ _ _ _ => x9; clear x9)); (repeat (with_reducible rename News _ _ _ _ => x9; clear x9)); (repeat (with_reducible rename Below _ _ _ _ => x9; clear x9)); (repeat (with_reducible rename Top _ _ _ _ _ _ => x9; clear x9)); (repeat (with_reducible rename Frag.In _ _ => x9; clear x9))))
  k_with "mUse2" => (((intro t9 h9 tk9 F9 N9); (try dsimp only); (try k_fold)))
  k_with "mDrop" => (((with_reducible rename Fr _ _ _ _ => y1); (with_reducible rename News _ _ _ _ => y2); revert y1 y2; (repeat (with_reducible rename Fr _ _ _ _ => x9; clear x9)); (repeat (with_reducible rename News _ _ _ _ => x9; clear x9)); intro y1 y2))
  k_with "mSub" => ((intro q hq; simp only [List.mem_append, List.mem_cons, hq, true_or, or_true]))
  k_with "getMethod ref" => (first
  | (refine use_prog (by assumption) (by k_asm) (by walk_at "mSub") ?_; intro _ _ _; (try dsimp only))
  | (refine use_hit (by assumption) (by k_asm) (by walk_at "mSub") ?_; intro _ _ _; (try dsimp only)))
  k_with "FnAt" => ((refine FnIn.at (by assumption) (by k_asm) (by walk_at "mSub")))
  k_with "callWith ref" => ((k_here; k_dflt (first
  | (refine callWith_F (by walk_at "FnAt") ?_; k_whole)
  | (refine callWith_F0 (by walk_at "FnAt") ?_; k_whole; try dsimp only [List.nil_append, List.cons_append]))))
  k_with "truthy ref" => ((refine use_true (by assumption) (by k_asm) (by walk_at "mSub") ?_))
  k_with "call ref" => (((with_reducible show wpAny _ _ (call (Value.ref _) (Value.str _ _ :: _)) _ _ _); refine hold ?_))
  k_with "call ref" => ((k_here; (with_reducible show wpAny _ _ (call (Value.ref _) []) _ _ _); k_dflt (refine use_span (by assumption) (by k_asm) (by k_asm) (by k_asm) (by k_asm) (by walk_at "mRoom") (by walk_at "mRoom") (by walk_at "mSub") ?_; k_whole); (intro T9 ti9 tj9 h9 tk9 F9 N9); (try dsimp only)))
  k_with "exec While" => (refine hold ?_)
  k_with "exec While BoolOp" => (refine hold ?_)
  k_with "exec While Compare" => (refine hold ?_)
  trivial
theorem sr_ok (w : World) (p : Program) (loose : List Str) (mean : ExcName → Option Value) (mg mb : Str → Option Value) (PL : List (Addr × Obj)) (TP : List (Addr × Obj) → Prop) (pg : Addr) (nx : List Nat → Nat → Option (Nat × Nat)) (hP : ProgL PySem.Challenge.rw_mr0049_01.prog w (hd.heap_39 w.params) p loose mean mg mb PL TP pg nx) (l : List Nat) (hl : l.length < 300) (t u : Tok) (col : Int) (hcol : col < 400) (hcol0 : -5 < col)
    (hb : ∀ st a b, nx l st = some (a, b) → st ≤ a ∧ a ≤ b ∧ b < 500)
    (dp un : Nat) (fr : Option (List Env)) (gd : Option (List Code)) (s : Shared) (Q E : Value → Shared → Prop) (TL : List (Addr × Obj))
    (X : (hd.heap_39 w.params).In (hideAll s.heap ((TL ++ PL).map (·.1)))) (T : Top p loose mean mg mb (hideAll s.heap ((TL ++ PL).map (·.1)))) (hdp : dp + 70 < 1000) (hun : un + 700 < 9900) (tp : TP TL) (hh : Has (TL ++ PL) s.heap)
    (hret : Found PySem.Challenge.rw_mr0049_01.prog w (hd.heap_39 w.params) p loose mean mg mb TP (srOf (nx l) col) s TL Q) :
    wpAny (model PySem.Challenge.rw_mr0049_01.prog w) (arA dp un fr gd) (call (.ref 56) [.ref pg, .str (S l) t, .int col u]) Q E s := by
  w_top off
  revert X T hret hP
  k_fill
  intro hP X T hret
  have hPT : ∀ q ∈ PL, isTab q.2 = false := by
    obtain ⟨_, _, _, _, _, _, _, _, _, z, _, _⟩ := hP; exact z
  refine wpAny_call ?_
  k_dflt (refine' code_tab (TL ++ PL) hh ?k3 ?k5 ?k6 ?k7 ?k8 ?k9 ?kB ?_ ?c2 ?c3 ?c4 ?c5; (case k3 => assumption); (case k5 => assumption); (case k6 => k_is); (case k7 => k_is); (case k8 => (show dp < 1000); omega); (case k9 => exact BindsTo.of_eq rfl); (case c5 => decide); (case kB => exact locs rfl); (case c2 => exact rfl); (case c3 => exact rfl); (case c4 => exact rfl); k_whole; intro L' h' F' N')
  k_steps
  unfold Hold
  rename SearchOk _ _ _ _ _ _ _ _ _ _ _ _ => hS
  refine use_search (A0 := TL.map (·.1)) (n0 := s.heap.objs.size) (rest := recs TL) (TL := TL) (st := 0) hS (.inl ⟨rfl, _, rfl⟩) hl (by omega) hPT (by k_asm) X (by k_asm) T (by walk_at "mRoom") (by walk_at "mRoom") tp (by walk_at "mSub") (by walk_at "mSub") (fun q hq => ⟨List.mem_append.mpr (.inl (recs_sub q hq)), recs_isTab q hq⟩) (Nat.le_of_eq (hideAll_size _ _).symm) (fun q hq => .inl (List.mem_map_of_mem hq)) ?_ ?_
  · intro e h2 tk2 TL2 tp2 ad2 F2 N2
    clear F' N' hS
    dsimp only
    k_steps
    exact hret.1 (by unfold srOf; rw [e]) _ _ TL2 (kept_of hh (by k_asm) (by k_asm) ad2) tp2
  · intro i j e hit HL h2 tk2 TL2 tp2 ad2 adH hH F2 N2
    clear F' N' hS
    obtain ⟨b1, b2, b3⟩ := hb _ _ _ e
    dsimp only
    k_steps
    unfold Hold
    rename Fr _ _ _ _ => FF
    rename News _ _ _ _ => NN
    refine While_inv2 (SrJ PySem.Challenge.rw_mr0049_01.prog w (hd.heap_39 w.params) p loose mean mg mb PL (recs TL) TP (nx l) col (TL.map (·.1)) s.heap.objs.size (srOf (nx l) col) pg l t u) (n₀ := col.toNat + 1) FF (nSub NN (l' := TL2 ++ (PL ++ (HL ++ ([] ++ recs TL)))) (fun q hq => .tail _ hq)) ?_ ?_
    · exact ⟨none, .none, [], i, j, hit, HL, TL2, ⟨.inl ⟨rfl, rfl, rfl⟩, hH, tp2, ad2, adH, by omega, b2, b3, by unfold srOf; rw [e]⟩, rfl, _, _, ex_map7 rfl rfl rfl rfl rfl rfl rfl⟩
    clear FF NN hH adH tp2 ad2 b1 b2 b3 e
    rintro n m₁ news₁ h₁ tk₁ F₁ N₁ ⟨f, fv, FL, i, j, hit, HL, TL', ⟨fnd, hH, tp', adT, adH, fuel, le, small, res⟩, rfl, ti, tj, u', rfl⟩
    dsimp only
    k_steps
    · obtain ⟨k, rfl⟩ : ∃ k, n = k + 1 := ⟨n - 1, by omega⟩
      rw [srGo_step (st := j + 1) (by assumption) (by assumption) (by split <;> omega)] at res
      unfold Hold
      rename SearchOk _ _ _ _ _ _ _ _ _ _ _ _ => hS
      refine use_search (A0 := TL.map (·.1)) (n0 := s.heap.objs.size) (rest := HL ++ recs TL) (TL := TL') (st := j + 1) hS (.inr ⟨_, _, rfl⟩) hl (by omega) hPT (by k_asm) X (by k_asm) T (by walk_at "mRoom") (by walk_at "mRoom") tp' (by walk_at "mSub") (by walk_at "mSub") ?_ (Nat.le_of_eq (hideAll_size _ _).symm) adT ?_ ?_
      · intro q hq
        rcases List.mem_append.mp hq with z | z
        · exact ⟨by simp only [List.mem_append, z, true_or, or_true], (by obtain ⟨_, _, _, _, _, _, _, _, _, z2, _, _⟩ := hH; exact z2 q z)⟩
        · exact ⟨by simp only [List.mem_append, z, true_or, or_true], recs_isTab q z⟩
      · intro e h2 tk2 TL2 tp2 ad2 F2 N2
        rw [e] at res
        walk_at "mDrop"
        dsimp only
        k_steps
        dsimp only [WhileStep2]
        k_steps
        exact sr_ret (FL := HL) hret hh (.inr ⟨i, j, hit, rfl, rfl, hH, adH⟩) res tp2 ad2 (by k_asm) (by k_asm) (fun q hq => hq)
      · intro i' j' e hit' HL' h2 tk2 TL2 tp2 ad2 adH' hH' F2 N2
        rw [e] at res
        obtain ⟨b1, b2, b3⟩ := hb _ _ _ e
        walk_at "mDrop"
        dsimp only
        k_steps
        refine ⟨_, _, _, TL2 ++ (PL ++ (HL' ++ (HL ++ recs TL))), k, rfl, by k_asm, nSub (by k_asm) (fun q hq => .tail _ hq), by omega, ⟨some (i, j), .ref hit, HL, i', j', hit', HL', TL2, ⟨.inr ⟨i, j, hit, rfl, rfl, hH, adH⟩, hH', tp2, ad2, adH', by omega, b2, b3, res⟩, rfl, _, _, ex_map7 rfl rfl rfl rfl rfl rfl rfl⟩⟩
    · obtain ⟨k, rfl⟩ : ∃ k, n = k + 1 := ⟨n - 1, by omega⟩
      rw [srGo_step (st := j) (by assumption) (by assumption) (by split <;> omega)] at res
      unfold Hold
      rename SearchOk _ _ _ _ _ _ _ _ _ _ _ _ => hS
      refine use_search (A0 := TL.map (·.1)) (n0 := s.heap.objs.size) (rest := HL ++ recs TL) (TL := TL') (st := j) hS (.inr ⟨_, _, rfl⟩) hl (by omega) hPT (by k_asm) X (by k_asm) T (by walk_at "mRoom") (by walk_at "mRoom") tp' (by walk_at "mSub") (by walk_at "mSub") ?_ (Nat.le_of_eq (hideAll_size _ _).symm) adT ?_ ?_
      · intro q hq
        rcases List.mem_append.mp hq with z | z
        · exact ⟨by simp only [List.mem_append, z, true_or, or_true], (by obtain ⟨_, _, _, _, _, _, _, _, _, z2, _, _⟩ := hH; exact z2 q z)⟩
        · exact ⟨by simp only [List.mem_append, z, true_or, or_true], recs_isTab q z⟩
      · intro e h2 tk2 TL2 tp2 ad2 F2 N2
        rw [e] at res
        walk_at "mDrop"
        dsimp only
        k_steps
        dsimp only [WhileStep2]
        k_steps
        exact sr_ret (FL := HL) hret hh (.inr ⟨i, j, hit, rfl, rfl, hH, adH⟩) res tp2 ad2 (by k_asm) (by k_asm) (fun q hq => hq)
      · intro i' j' e hit' HL' h2 tk2 TL2 tp2 ad2 adH' hH' F2 N2
        rw [e] at res
        obtain ⟨b1, b2, b3⟩ := hb _ _ _ e
        walk_at "mDrop"
        dsimp only
        k_steps
        refine ⟨_, _, _, TL2 ++ (PL ++ (HL' ++ (HL ++ recs TL))), k, rfl, by k_asm, nSub (by k_asm) (fun q hq => .tail _ hq), by omega, ⟨some (i, j), .ref hit, HL, i', j', hit', HL', TL2, ⟨.inr ⟨i, j, hit, rfl, rfl, hH, adH⟩, hH', tp2, ad2, adH', by omega, b2, b3, res⟩, rfl, _, _, ex_map7 rfl rfl rfl rfl rfl rfl rfl⟩⟩
    · rw [srGo_stop (by omega)] at res
      exact sr_ret (FL := FL) hret hh fnd res tp' adT (by k_asm) (by k_asm) (fun q hq => by simp only [List.mem_append] at hq ⊢; rcases hq with z | z | z | z <;> simp [z])
    · rw [srGo_stop (by omega)] at res
      exact sr_ret (FL := FL) hret hh fnd res tp' adT (by k_asm) (by k_asm) (fun q hq => by simp only [List.mem_append] at hq ⊢; rcases hq with z | z | z | z <;> simp [z])
end
section
open PySem PySem.W PyProof.Rows
set_option Elab.async false
set_option maxRecDepth 100000
abbrev Led := List (Addr × Obj)
/-- o, laid at c, is a code record of that name with the table P -/
def CodeO (o : Obj) (c : Addr) (qual : Str) (P : Addr) : Prop := isTab o = false ∧ ∀ h : Heap, h.get? c = some o → h.CodeRec (.ref c) qual ∧ CodeHd h c P
theorem codeO_of {h : Heap} {c P : Addr} {o : Obj} {qual : Str} (hg : h.get? c = some o) (r : h.CodeRec (.ref c) qual) (d : CodeHd h c P) : CodeO o c qual P := by
  obtain ⟨c2, o2, vs2, t2, e0, e1, e2, e3⟩ := r
  cases e0
  rw [hg] at e1; cases e1
  obtain ⟨o3, vs, file, tf, flags, tg, inF, text, tt, f1, f2, f3, f4⟩ := d
  rw [hg] at f1; cases f1
  refine ⟨?_, fun h' hg' => ⟨⟨c, o, vs2, t2, rfl, hg', e2, e3⟩, ⟨o, vs, file, tf, flags, tg, inF, text, tt, hg', f2, f3, f4⟩⟩⟩
  unfold isTab; rw [f2]
theorem isTab_tab {ps : Array Value} : isTab (tabObj ps) = true := rfl
theorem among_snoc {q pos : Pos} {c v : Value} (l : List Value) (h : TriplesOk l) (e : codeAmong q (l ++ [rawInt pos.line, rawInt pos.col, c]) = some v) :
    codeAmong q l = some v ∨ (v = c ∧ q.line = pos.line ∧ q.col = pos.col) := by
  fun_induction TriplesOk l with
  | case1 =>
    simp only [List.nil_append, rawInt, codeAmong] at e
    split at e
    · rename_i hc
      simp only [Bool.and_eq_true, beq_iff_eq] at hc
      cases e
      exact .inr ⟨rfl, by omega, by omega⟩
    · cases e
  | case2 a t b u x rest ih =>
    simp only [List.cons_append, codeAmong] at e ⊢
    split at e
    · rename_i hc; rw [if_pos hc]; exact .inl e
    · rename_i hc; rw [if_neg hc]; exact ih h e
  | case3 l h1 h2 => exact h.elim
/-- the table P in Z: every code that it tells is a record in Z of which W holds -/
def TabOk (W : Pos → Obj → Addr → Prop) (Z : Led) (P : Addr) : Prop :=
  ∃ ps : Array Value, (P, tabObj ps) ∈ Z ∧ TriplesOk ps.toList ∧ ∀ q v, codeAmong q ps.toList = some v → ∃ c' o, v = .ref c' ∧ (c', o) ∈ Z ∧ isTab o = false ∧ W q o c'
def updZ (Z : Led) (P : Addr) (o : Obj) : Led := Z.map fun q => if q.1 = P then (P, o) else q
theorem updZ_ne {Z : Led} {P : Addr} {o : Obj} {q : Addr × Obj} (hq : q ∈ Z) (hn : q.1 ≠ P) : q ∈ updZ Z P o := List.mem_map.mpr ⟨q, hq, if_neg hn⟩
theorem updZ_at {Z : Led} {P : Addr} {o o' : Obj} (hq : (P, o) ∈ Z) : (P, o') ∈ updZ Z P o' := List.mem_map.mpr ⟨(P, o), hq, if_pos rfl⟩
theorem of_updZ {Z : Led} {P : Addr} {o : Obj} {q : Addr × Obj} (hq : q ∈ updZ Z P o) : q = (P, o) ∨ (q ∈ Z ∧ q.1 ≠ P) := by
  obtain ⟨r, hr, e⟩ := List.mem_map.mp hq
  split at e
  · exact .inl e.symm
  · rename_i hn; exact .inr (e ▸ ⟨hr, hn⟩)
/-- what a def or a lambda makes of the tables -/
structure Grew (Z : Led) (P : Addr) (ps : Array Value) (pos : Pos) (qual : Str) (n0 : Nat) (Z' : Led) (c' : Addr) (o : Obj) (P' : Addr) : Prop where
  sub : ∀ q ∈ Z, q.1 ≠ P → q ∈ Z'
  tab : ∃ ps', (P, tabObj ps') ∈ Z' ∧ TriplesOk ps'.toList ∧ ∀ q v, codeAmong q ps'.toList = some v → codeAmong q ps.toList = some v ∨ (v = .ref c' ∧ q.line = pos.line ∧ q.col = pos.col)
  mem : (c', o) ∈ Z'
  code : CodeO o c' qual P'
  new : (codeAmong pos ps.toList = some (.ref c') ∧ Z' = Z) ∨ ((P', tabObj #[]) ∈ Z' ∧ n0 ≤ P')
  adr : Adr (Z.map (·.1)) n0 Z'
section
variable {M : Model} {A : Around} {E : Value → Shared → Prop} {s : Shared} {name qual : Str} {params : Arguments} {body : FuncBody} {scope : Scope} {env : Env} {c P : Addr} {ps : Array Value} {pos : Pos} {firstLine : Nat}
  {p : Program} {loose : List Str} {mean : ExcName → Option Value} {mg mb : Str → Option Value} {m : Str → Option Value} {h₀ : Heap} {L : Addr} {Z rest : Led}
  {clos : List (Str × Addr)} {dV : Value} {Q : Value → Shared → Prop}
theorem mk_fn (F : Fr h₀ L s.heap m) (N : News h₀ L s.heap (Z ++ rest)) (T : Top p loose mean mg mb h₀) (hrest : ∀ q ∈ rest, isTab q.2 = false) (hcl : closureFor scope env = pure clos) (hge0 : env.globals = mainGlobals) (hcode : env.code = .ref c) (C : CodeHd s.heap c P) (hP : (P, tabObj ps) ∈ Z) (ht : TriplesOk ps.toList)
    (href : ∀ v, codeAmong pos ps.toList = some v → ∃ c' o P', v = .ref c' ∧ (c', o) ∈ Z ∧ CodeO o c' qual P')
    (h : ∀ f c' o P' ctv doc h' tk Z', Grew Z P ps pos qual s.heap.objs.size Z' c' o P' → s.heap.objs.size ≤ f → (∀ q ∈ Z' ++ rest, q.1 < f) → Fr h₀ L h' m →
      News h₀ L h' ((f, kdv_obj name qual params body scope clos dV doc ((mg "__name__").getD .none) c' ctv) :: (Z' ++ rest)) → Q (.ref f) { s with heap := h', toks := tk }) :
    wpAny M A (makeTail name qual params body scope env dV .none none pos firstLine) Q E s := by
  have hm := N (P, tabObj ps) (List.mem_append.mpr (.inl hP))
  have hgs := T.g.keeps F.keep
  obtain ⟨bm, ob, b1, b2, b3, b4, b5, b6⟩ := T.bmain
  have hgP : mainGlobals ≠ P := fun q => by
    obtain ⟨o, es, ep, e, hd, _⟩ := hgs
    rw [q, hm.1] at e; cases e; cases hd
  have hbP : bm ≠ P := fun q => by
    have e := F.keep _ _ b3
    rw [q, hm.1] at e; cases e; cases b4
  have hbG : bm ≠ mainGlobals := fun q => by
    obtain ⟨o, es, ep, e, hd, _⟩ := T.g
    rw [q, e] at b3; cases b3; rw [hd] at b6; cases b6
  have hLs : L < s.heap.objs.size := F.ns.lt
  have fresh : ∀ b, s.heap.objs.size ≤ b → b ≠ L ∧ h₀.get? b = none := fun b hb => ⟨Nat.ne_of_gt (Nat.lt_of_lt_of_le hLs hb), Heap.get?_none_of_le (Nat.le_trans F.above (Nat.le_of_lt (Nat.lt_of_lt_of_le hLs hb)))⟩
  have neP : ∀ q ∈ Z ++ rest, isTab q.2 = false → q.1 ≠ P := fun q hq ht e => by
    have := (N q hq).1
    rw [e, hm.1] at this
    rw [← Option.some.inj this] at ht; cases ht
  refine fn_tail (mg := mg) hcl hge0 hgs hcode C hm.1 ht hgP ⟨bm, ob, b1, b2, hbG, hbP, F.keep _ _ b3, b4, b5, b6⟩ ?_ ?_ fun v e => by
    obtain ⟨c', _, _, e, _⟩ := href v e; exact ⟨c', e⟩
  · intro hnf c' P' ctv doc h' tk hx hsz hc' hP' hrec hhd hT htb
    obtain ⟨c2, o, vs, t, e0, e1, e2, e3⟩ := id hrec
    cases e0
    have CO := codeO_of e1 hrec hhd
    have up : ∀ (x : Obj) b y, h'.get? b = some y → (h'.push x).get? b = some y := fun x b y e => Heap.get?_push_of_some x e
    have NN : ∀ q ∈ (updZ Z P (tabObj (ps ++ #[rawInt pos.line, rawInt pos.col, .ref c'])) ++ [(c', o), (P', tabObj #[])]) ++ rest, h'.get? q.1 = some q.2 ∧ q.1 ≠ L ∧ h₀.get? q.1 = none := by
      intro q hq
      rcases List.mem_append.mp hq with z | z
      · rcases List.mem_append.mp z with z | z
        · rcases of_updZ z with rfl | ⟨z, hn⟩
          · exact ⟨htb, hm.2⟩
          · have n := N q (List.mem_append.mpr (.inl z))
            exact ⟨hx _ _ hn n.1, n.2⟩
        · simp only [List.mem_cons, List.mem_nil_iff, or_false] at z
          rcases z with rfl | rfl
          · exact ⟨e1, fresh _ hc'⟩
          · exact ⟨hT, fresh _ hP'⟩
      · have n := N q (List.mem_append.mpr (.inr z))
        exact ⟨hx _ _ (neP q (List.mem_append.mpr (.inr z)) (hrest q z)) n.1, n.2⟩
    refine h h'.objs.size c' o P' ctv doc _ tk (updZ Z P (tabObj (ps ++ #[rawInt pos.line, rawInt pos.col, .ref c'])) ++ [(c', o), (P', tabObj #[])]) ?_ hsz (fun q hq => Heap.lt_size (NN q hq).1) ⟨(F.ns.extBut hx hm.2.1.symm).push _, fun b y e => up _ _ _ (hx b y (fun q => by rw [q, hm.2.2] at e; cases e) (F.keep b y e)), F.above⟩ ?_
    · refine ⟨fun q hq hn => List.mem_append.mpr (.inl (updZ_ne hq hn)), ⟨_, List.mem_append.mpr (.inl (updZ_at hP)), by simpa using TriplesOk_snoc _ _ _ _ ht, fun q v e => ?_⟩, by simp, CO, .inr ⟨by simp, hP'⟩, fun q hq => ?_⟩
      · have e' : codeAmong q (ps.toList ++ [rawInt pos.line, rawInt pos.col, .ref c']) = some v := by simpa using e
        exact among_snoc _ ht e'
      · rcases List.mem_append.mp hq with z | z
        · rcases of_updZ z with rfl | ⟨z, _⟩
          · exact .inl (List.mem_map.mpr ⟨_, hP, rfl⟩)
          · exact .inl (List.mem_map_of_mem z)
        · simp only [List.mem_cons, List.mem_nil_iff, or_false] at z
          rcases z with rfl | rfl
          · exact .inr hc'
          · exact .inr hP'
    · intro q hq
      rcases List.mem_cons.mp hq with rfl | hq
      · exact ⟨Heap.get?_push_size _ rfl, fresh _ hsz⟩
      · exact ⟨up _ _ _ (NN q hq).1, (NN q hq).2⟩
  · intro c' hf ctv doc h' tk hk hsz
    obtain ⟨c2, o, P', e, hz, CO⟩ := href _ hf
    cases e
    have up : ∀ (x : Obj) b y, s.heap.get? b = some y → (h'.push x).get? b = some y := fun x b y e => Heap.get?_push_of_some x (hk _ _ e)
    refine h h'.objs.size c' o P' ctv doc _ tk Z ⟨fun q hq _ => hq, ⟨ps, hP, ht, fun q v e => .inl e⟩, hz, CO, .inl ⟨hf, rfl⟩, fun q hq => .inl (List.mem_map_of_mem hq)⟩ hsz (fun q hq => Heap.lt_size (hk _ _ (N q hq).1)) ⟨(F.ns.keeps hk).push _, fun b y e => up _ _ _ (F.keep b y e), F.above⟩ ?_
    intro q hq
    rcases List.mem_cons.mp hq with rfl | hq
    · exact ⟨Heap.get?_push_size _ rfl, fresh _ hsz⟩
    · exact ⟨up _ _ _ (N q hq).1, (N q hq).2⟩
end
/-- a table stays well when another, or it itself, grows -/
theorem Grew.tabOk {W : Pos → Obj → Addr → Prop} {Z Z' : Led} {P P' P2 c' : Addr} {ps : Array Value} {pos : Pos} {qual : Str} {n0 : Nat} {o : Obj} {h : Heap} (g : Grew Z P ps pos qual n0 Z' c' o P') (x : Has Z h) (hP : (P, tabObj ps) ∈ Z)
    (hW : P2 = P → ∀ q : Pos, q.line = pos.line → q.col = pos.col → W q o c') (t : TabOk W Z P2) : TabOk W Z' P2 := by
  have uniq : ∀ o2, (P, o2) ∈ Z → o2 = tabObj ps := fun o2 h2 => by
    have a := x _ h2; have b := x _ hP
    simp only at a b
    rw [b] at a; exact (Option.some.inj a).symm
  have keep : ∀ q ∈ Z, isTab q.2 = false → q ∈ Z' := fun q hq hf => g.sub q hq fun e => by
    have := uniq q.2 (e ▸ hq)
    rw [this] at hf; cases hf
  obtain ⟨ps2, h1, h2, h3⟩ := t
  have h3' : ∀ q v, codeAmong q ps2.toList = some v → ∃ c' o, v = .ref c' ∧ (c', o) ∈ Z' ∧ isTab o = false ∧ W q o c' := fun q v e => by
    obtain ⟨c3, o3, a1, a2, a3, a4⟩ := h3 q v e
    exact ⟨c3, o3, a1, keep _ a2 a3, a3, a4⟩
  by_cases e : P2 = P
  · subst e
    have := uniq _ h1
    obtain rfl : ps2 = ps := by injection this with _ _ e3; injection e3
    obtain ⟨ps', k1, k2, k3⟩ := g.tab
    refine ⟨ps', k1, k2, fun q v e => ?_⟩
    rcases k3 q v e with z | ⟨rfl, z1, z2⟩
    · exact h3' q v z
    · exact ⟨c', o, rfl, g.mem, g.code.1, hW rfl q z1 z2⟩
  · exact ⟨ps2, g.sub _ h1 e, h2, h3'⟩
section
variable {prog : Program} {w : World} {K : Frag} {p : Program} {loose : List Str} {mean : ExcName → Option Value} {mg mb : Str → Option Value}
/-- a def of the text with cells of its own, the tables in the ledger -/
theorem code_cloK {A : Around} {s : Shared} {R : Result → Shared → Prop} {name qual : Str} {params : Arguments} {body : List Stmt} {scope : Scope} {dV kV doc pm cdv ct oc : Value} {an od : Option Addr} {osl : Array (Option Value)} {f : Addr} {args : Args} {binds : List (Str × Value)}
    (tabs : Led) (htab : Has tabs s.heap)
    (X : K.In (hideAll s.heap (tabs.map (·.1)))) (T : Top p loose mean mg mb (hideAll s.heap (tabs.map (·.1))))
    (ho : K.lookup f = some ⟨oc, od, .func (fnOf name qual params body scope dV kV doc pm an cdv ct), osl⟩) (hcd : codeIn K cdv qual = true) (hroom : A.depth < recursionLimit)
    (hbind : BindsTo s (fnOf name qual params body scope dV kV doc pm an cdv ct) args binds)
    (hkind : (binds.all fun y => scope.names.lookup y.1 == some .local || scope.names.lookup y.1 == some .cell) = true)
    (hnd : ((cellsFrom 0 scope.names []).map (·.1)).Nodup)
    (h : ∀ h₁ tk cells, Fr (hideAll s.heap (tabs.map (·.1))) s.heap.objs.size h₁ (bindL (envX qual scope s.heap.objs.size f cdv (cellsFrom (s.heap.objs.size + 1) scope.names [] ++ [])).kindOf binds fun _ => none) →
      News (hideAll s.heap (tabs.map (·.1))) s.heap.objs.size h₁ (cells ++ tabs) →
      CellsAre (bindC (envX qual scope s.heap.objs.size f cdv (cellsFrom (s.heap.objs.size + 1) scope.names [] ++ [])).kindOf binds fun _ => none) (cellsFrom (s.heap.objs.size + 1) scope.names []) cells →
      wpAny (model prog w) (A.deeper (envX qual scope s.heap.objs.size f cdv (cellsFrom (s.heap.objs.size + 1) scope.names [] ++ []))) (execs body (envX qual scope s.heap.objs.size f cdv (cellsFrom (s.heap.objs.size + 1) scope.names [] ++ [])))
        (fun fl s' => R (.ok (.ret (match fl with | .ret v => v | _ => .none))) s') (fun _ _ => False)
        { s with heap := h₁, toks := tk })
    (hco : scope.isCoroutine = false) (hgen : scope.isGenerator = false) (hk : scope.kind = .function) : codeAny (model prog w) A (.call (.ref f) args) R s := by
  have X' : K.In s.heap := X.keeps fun b o e => of_hideAll _ e
  have T' : Top p loose mean mg mb s.heap := T.keeps fun b o e => of_hideAll _ e
  exact code_clo tabs htab (X' _ _ ho) rfl T'.nolimit (codeRec_of X' hcd) hroom hbind hkind hnd h hco hgen hk
end
section
variable {prog : Program} {w : World} {A : Around} {E : Value → Shared → Prop} {s : Shared} {q : Addr} {fd : FuncData} {sl : Array (Option Value)} {name : Str} {v : Value} {h₀ : Heap} {L : Addr} {m : Str → Option Value} {rest news : Led}
theorem set_fn {Q : Unit → Shared → Prop} (F : Fr h₀ L s.heap m) (N : News h₀ L s.heap news) (hq : (q, (⟨.type "function", none, .func fd, sl⟩ : Obj)) ∈ news) (hs : ∀ x ∈ rest, x ∈ news) (hl : ∀ x ∈ rest, x.1 < q) (hn : typeLookup (.type "function") name = pure none)
    (h : ∀ d h' tk, q < d → Fr h₀ L h' m → News h₀ L h' ((q, ⟨.type "function", some d, .func fd, sl⟩) :: (d, dictOf [⟨PyData.keyHash w.params name, .str name tk, v⟩] 1) :: rest) → Q () { s with heap := h', toks := s.toks + 2 }) :
    wpAny (model prog w) A (setAttr (.ref q) name v) Q E s := by
  have hm := N _ hq
  have hLs : L < s.heap.objs.size := F.ns.lt
  refine fn_setAttr hm.1 hn fun h' tk hsz h1 h2 hk => h s.heap.objs.size h' tk (Heap.lt_size hm.1) ?_ fun x hx => ?_
  · obtain ⟨oL, a1, a2, hL, a3⟩ := F.ns
    refine ⟨⟨oL, a1, a2, by rw [hk _ hm.2.1.symm (Nat.ne_of_lt hLs)]; exact hL, a3⟩, fun b o e => ?_, F.above⟩
    have e2 := F.keep b o e
    rw [hk b (fun z => by have z2 := hm.2.2; rw [z] at e; rw [z2] at e; cases e) (Nat.ne_of_lt (Heap.lt_size e2))]; exact e2
  · rcases List.mem_cons.mp hx with rfl | hx
    · exact ⟨h1, hm.2⟩
    rcases List.mem_cons.mp hx with rfl | hx
    · exact ⟨h2, Nat.ne_of_gt hLs, Heap.get?_none_of_le (Nat.le_trans F.above (Nat.le_of_lt hLs))⟩
    · have n := N x (hs x hx)
      exact ⟨by rw [hk _ (Nat.ne_of_lt (hl x hx)) (Nat.ne_of_lt (Heap.lt_size n.1))]; exact n.1, n.2⟩
end
end
section
open PySem PySem.W PyProof.Rows
set_option Elab.async false
set_option maxRecDepth 100000
theorem isTab_cell {o : Obj} {x : Option Value} (h : o.data = .cell x) : isTab o = false := by
  unfold isTab; rw [h]; cases o.cls <;> rfl
def W1 (ql : Str) : Pos → Obj → Addr → Prop := fun _ o c' => ∃ P', CodeO o c' ql P'
def qS : Str := Str.ofString "_law_prog.<locals>.search"
def qP : Str := Str.ofString "_law_prog.<locals>.<lambda>"
def qH : Str := Str.ofString "_law_prog.<locals>.search.<locals>.<lambda>"
/-- what the table of _law_prog's code tells -/
def W0 (Z : Led) : Pos → Obj → Addr → Prop := fun q o c' => (q.line = 83 → ∃ P', P' ≠ 91 ∧ CodeO o c' qS P' ∧ TabOk (W1 qH) Z P') ∧ (q.line = 94 → ∃ P', CodeO o c' qP P')
def TP0 (Z : Led) : Prop := TabOk (W0 Z) Z 91
/-- the tables, with the one of the present search -/
def TPP (P : Addr) (Z : Led) : Prop := TP0 Z ∧ P ≠ 91 ∧ TabOk (W1 qH) Z P
theorem TabOk.mono {W W' : Pos → Obj → Addr → Prop} {Z : Led} {P : Addr} (h : ∀ q o c, W q o c → W' q o c) (t : TabOk W Z P) : TabOk W' Z P := by
  obtain ⟨ps, a, b, d⟩ := t
  exact ⟨ps, a, b, fun q v e => let ⟨c, o, x, y, z, u⟩ := d q v e; ⟨c, o, x, y, z, h q o c u⟩⟩
section
variable {Z Z' : Led} {P P' c' : Addr} {ps : Array Value} {pos : Pos} {qual : Str} {n0 : Nat} {o : Obj} {h : Heap}
/-- table 91 grows by the code of search -/
theorem grow_s (g : Grew Z 91 ps pos qS n0 Z' c' o P') (x : Has Z h) (hP : (91, tabObj ps) ∈ Z) (hn : 91 < n0) (hl : pos.line = 83) (t : TP0 Z) : ∃ P1, CodeO o c' qS P1 ∧ TPP P1 Z' := by
  have up : ∀ P2, P2 ≠ 91 → TabOk (W1 qH) Z P2 → TabOk (W1 qH) Z' P2 := fun P2 hne tk => g.tabOk x hP (fun e => absurd e hne) tk
  have up0 : ∀ q o c, W0 Z q o c → W0 Z' q o c := fun q o c w => ⟨fun e => let ⟨P2, a, b, d⟩ := w.1 e; ⟨P2, a, b, up P2 a d⟩, w.2⟩
  have key : ∃ P1, P1 ≠ 91 ∧ CodeO o c' qS P1 ∧ TabOk (W1 qH) Z' P1 := by
    rcases g.new with ⟨hf, rfl⟩ | ⟨hm, hge⟩
    · obtain ⟨ps2, h1, h2, h3⟩ := t
      have e1 := x _ h1; have e2 := x _ hP
      simp only at e1 e2
      rw [e2] at e1
      obtain rfl : ps = ps2 := by have := Option.some.inj e1; injection this with _ _ e3; injection e3
      obtain ⟨c2, o2, e, hm2, _, hw⟩ := h3 _ _ hf
      cases e
      have e3 := x _ hm2; have e4 := x _ g.mem
      simp only at e3 e4
      rw [e4] at e3
      obtain rfl := Option.some.inj e3
      exact hw.1 hl
    · exact ⟨P', Nat.ne_of_gt (Nat.lt_of_lt_of_le hn hge), g.code, ⟨#[], hm, trivial, fun q v e => by simp [codeAmong] at e⟩⟩
  obtain ⟨P1, k1, k2, k3⟩ := key
  refine ⟨P1, k2, ?_, k1, k3⟩
  refine g.tabOk x hP (fun _ q e1 e2 => ⟨fun _ => ⟨P1, k1, k2, k3⟩, fun e => by omega⟩) (t.mono up0)
/-- table 91 grows by the code of prog's lambda -/
theorem grow_p (g : Grew Z 91 ps pos qP n0 Z' c' o P') (x : Has Z h) (hP : (91, tabObj ps) ∈ Z) (hl : pos.line = 94) (t : TPP P Z) : TPP P Z' := by
  have up : ∀ P2, P2 ≠ 91 → TabOk (W1 qH) Z P2 → TabOk (W1 qH) Z' P2 := fun P2 hne tk => g.tabOk x hP (fun e => absurd e hne) tk
  have up0 : ∀ q o c, W0 Z q o c → W0 Z' q o c := fun q o c w => ⟨fun e => let ⟨P2, a, b, d⟩ := w.1 e; ⟨P2, a, b, up P2 a d⟩, w.2⟩
  refine ⟨g.tabOk x hP (fun _ q e1 e2 => ⟨fun e => by omega, fun _ => ⟨P', g.code⟩⟩) (t.1.mono up0), t.2.1, up P t.2.1 t.2.2⟩
/-- the table of search's code grows -/
theorem grow_h (g : Grew Z P ps pos qH n0 Z' c' o P') (x : Has Z h) (hP : (P, tabObj ps) ∈ Z) (t : TPP P Z) : TPP P Z' := by
  have up : ∀ P2, TabOk (W1 qH) Z P2 → TabOk (W1 qH) Z' P2 := fun P2 tk => g.tabOk x hP (fun _ q _ _ => ⟨P', g.code⟩) tk
  have up0 : ∀ q o c, W0 Z q o c → W0 Z' q o c := fun q o c w => ⟨fun e => let ⟨P2, a, b, d⟩ := w.1 e; ⟨P2, a, b, up P2 d⟩, w.2⟩
  exact ⟨g.tabOk x hP (fun e => absurd e.symm t.2.1) (t.1.mono up0), t.2.1, up P t.2.2⟩
end
section
variable {M : Model} {A : Around} {E : Value → Shared → Prop} {s : Shared} {params : Arguments} {body : Expr} {scope : Scope} {env : Env} {c P : Addr} {ps : Array Value} {pos : Pos} {qual : Str}
  {p : Program} {loose : List Str} {mean : ExcName → Option Value} {mg mb : Str → Option Value} {m : Str → Option Value} {h₀ : Heap} {L : Addr} {Z rest news : Led}
  {clos : List (Str × Addr)} {Q : Value → Shared → Prop}
theorem mk_lam (F : Fr h₀ L s.heap m) (N : News h₀ L s.heap news) (hs : ∀ q ∈ Z ++ rest, q ∈ news) (T : Top p loose mean mg mb h₀) (hrest : ∀ q ∈ rest, isTab q.2 = false) (hq : env.qual ++ Str.ofString "<lambda>" = qual) (hdef : defaultsOf params env = ([], [])) (hcl : closureFor scope env = pure clos) (hge0 : env.globals = mainGlobals) (hcode : env.code = .ref c) (C : CodeHd s.heap c P) (hP : (P, tabObj ps) ∈ Z) (ht : TriplesOk ps.toList)
    (href : ∀ v, codeAmong pos ps.toList = some v → ∃ c' o P', v = .ref c' ∧ (c', o) ∈ Z ∧ CodeO o c' qual P')
    (h : ∀ f c' o P' ctv doc h' tk Z', Grew Z P ps pos qual s.heap.objs.size Z' c' o P' → s.heap.objs.size ≤ f → (∀ q ∈ Z' ++ rest, q.1 < f) → Fr h₀ L h' m →
      News h₀ L h' ((f, kdv_obj (Str.ofString "<lambda>") qual params (.expr body) scope clos .none doc ((mg "__name__").getD .none) c' ctv) :: (Z' ++ rest)) → Q (.ref f) { s with heap := h', toks := tk }) :
    wpAny M A (eval (.Lambda params body scope pos) env) Q E s := by
  refine kla_eval hdef ?_
  rw [makeFunction_eq]
  simp only [List.zip_nil_right, List.filterMap_nil, List.isEmpty_nil, if_true, pure_bind]
  subst hq
  exact mk_fn F (nSub N hs) T hrest hcl hge0 hcode C hP ht href h
end
theorem Adr.mono {A : List Addr} {n k : Nat} {Z : Led} (a : Adr A n Z) (h : k ≤ n) : Adr A k Z := fun q hq => (a q hq).imp id fun z => Nat.le_trans h z
theorem kept_of0 {h h' : Heap} {L : Addr} {m : Str → Option Value} {Z Z' news : Led} (hh : Has Z h) (F : Fr (hideAll h (Z.map (·.1))) L h' m) (N : News (hideAll h (Z.map (·.1))) L h' news) (hs : ∀ q ∈ Z', q ∈ news) (hr : ∀ q ∈ Z, isTab q.2 = false → q ∈ news) (ad : Adr (Z.map (·.1)) h.objs.size Z') : Kept h Z h' Z' := by
  have e : (Z ++ ([] : Led)).map (·.1) = Z.map (·.1) := by simp
  refine kept_of (PL := []) (m := m) (L := L) (by simpa using hh) (by rw [e]; exact F) (by
    rw [e]; refine nSub N fun q hq => ?_
    simp only [List.nil_append, List.mem_append] at hq
    rcases hq with z | z
    · exact hs q z
    · exact hr q (recs_sub q z) (recs_isTab q z)) ad
theorem Grew.keepRec {Z Z' : Led} {P P' c' : Addr} {ps : Array Value} {pos : Pos} {qual : Str} {n0 : Nat} {o : Obj} {h : Heap} (g : Grew Z P ps pos qual n0 Z' c' o P') (x : Has Z h) (hP : (P, tabObj ps) ∈ Z) (q : Addr × Obj) (hq : q ∈ Z) (hf : isTab q.2 = false) : q ∈ Z' :=
  g.sub q hq fun e => by
    have a := x _ hq; have b := x _ hP
    simp only at a b
    rw [e, b] at a
    rw [← Option.some.inj a] at hf; cases hf
/-- the first place from st on at which wd is not 0 -/
def firstW (wd : Nat → Nat) : Nat → Nat → Option (Nat × Nat)
  | 0, _ => none
  | n + 1, k => if wd k = 0 then firstW wd n (k + 1) else some (k, k + wd k)
theorem ne_lt {r : Led} {L c : Nat} (h : ∀ q ∈ r, q.1 < L) (hc : L ≤ c) : ∀ q ∈ r, q.1 ≠ c := fun q hq => Nat.ne_of_lt (Nat.lt_of_lt_of_le (h q hq) hc)
/-- the search's loop: nothing found so far -/
def SeJ (wd : Nat → Nat) (st : Nat) (l : List Nat) (t : Tok) (tail : Led) (L9 : Nat) (i : Nat) (m : Str → Option Value) (nx : Led) : Prop :=
  (∀ j, j < i → wd (st + j) = 0) ∧ (∃ u : Str → Option Value, m = fun y => if y = Str.ofString "chars" then some (.str (S l) t) else u y) ∧
  ∃ ok ow x y, nx = (L9 + 1 + 1, ow) :: (L9 + 1, ok) :: tail ∧ ok.data = .cell x ∧ ow.data = .cell y
theorem range_len (st n : Nat) : Builtin.Range.rangeSize (st : Int) (n : Int) 1 = ((n - st : Nat) : Int) := by
  rw [rangeSize_one]; split <;> omega
theorem firstW_none {wd : Nat → Nat} : ∀ {n k : Nat}, (∀ j, j < n → wd (k + j) = 0) → firstW wd n k = none
  | 0, _, _ => rfl
  | n + 1, k, h => by
    unfold firstW
    rw [if_pos (show wd k = 0 from h 0 (Nat.succ_pos _))]
    exact firstW_none fun j hj => by have := h (j + 1) (by omega); rwa [show k + (j + 1) = k + 1 + j by omega] at this
theorem firstW_some {wd : Nat → Nat} : ∀ {n k i : Nat}, i < n → (∀ j, j < i → wd (k + j) = 0) → wd (k + i) ≠ 0 → firstW wd n k = some (k + i, k + i + wd (k + i))
  | 0, _, _, h, _, _ => absurd h (Nat.not_lt_zero _)
  | n + 1, k, 0, _, _, h2 => by
    unfold firstW
    rw [if_neg (show ¬ wd k = 0 from h2)]
    rfl
  | n + 1, k, i + 1, h, h1, h2 => by
    unfold firstW
    rw [if_pos (show wd k = 0 from h1 0 (Nat.succ_pos _))]
    have := firstW_some (wd := wd) (n := n) (k := k + 1) (i := i) (by omega) (fun j hj => by have := h1 (j + 1) (by omega); rwa [show k + (j + 1) = k + 1 + j by omega] at this) (by rwa [show k + (i + 1) = k + 1 + i by omega] at h2)
    rw [this, show k + 1 + i = k + (i + 1) by omega]
theorem Adr.self {n : Nat} {Z : Led} : Adr (Z.map (·.1)) n Z := fun _ hq => .inl (List.mem_map_of_mem hq)
section
variable {prog : Program} {w : World} {A : Around} {E : Value → Shared → Prop} {Q : Flow → Shared → Prop} {s : Shared} {env : Env} {h₀ : Heap} {L : Addr}
/-- for target in range(a, b), the range made on the spot -/
theorem for_range2 {target : Expr} {a b : Int} {t u : Tok} {n : Nat} {body : List Stmt} {m₀ : Str → Option Value} {news₀ : List (Addr × Obj)} (J : Nat → (Str → Option Value) → List (Addr × Obj) → Prop)
    (hh : A.handled = none) (F : Fr h₀ L s.heap m₀) (N : News h₀ L s.heap news₀) (hsmall : Builtin.Range.small a b 1 = true) (hn : Builtin.Range.rangeSize a b 1 = (n : Int)) (hJ0 : J 0 m₀ news₀)
    (hadr : ∀ i m nx, J i m nx → nx.map (·.1) = news₀.map (·.1))
    (turn : ∀ it : Nat, s.heap.objs.size < it → ∀ i m nx h tk o tx, i < n → J i m nx → Fr h₀ L h m → News h₀ L h ((it, o) :: nx) →
      wpAny (model prog w) A (assign target env (.int (a + (i : Int)) tx)) (fun _ s₂ => wpAny (model prog w) A (execs body env) (TurnEnd h₀ L s it o (J (i + 1)) Q) E s₂) E { s with heap := h, toks := tk })
    (done : ∀ m nx h tk, J n m nx → Fr h₀ L h m → News h₀ L h nx → Q .next { s with heap := h, toks := tk })
    (hE : PassesOwn (model prog w) A env E) (ht : ∀ it v, letOwnedTupleGo target it v = pure () := by intro _ _; rfl) :
    wpAny (model prog w) A (call (.type "range") [.int a t, .int b u]) (fun x s₁ => wpAny (model prog w) A (pyIter x) (fun it s₂ => codeAny (model prog w) A (.forLoop target it body [] env) (fun r s' => match r with | .ok f => Q f s' | .error e => cameBackBy (model prog w) A env E e s') s₂) E s₁) E s := by
  refine call_range_2 ?_
  refine for_range J hh (F.push _) (fun q hq => ⟨Heap.get?_push_of_some _ (N q hq).1, (N q hq).2⟩) (IsRange.new _ _ _ _ _ _ _) hsmall hn hJ0 hadr (fun i m nx h tk o tx hi hj f nn => turn _ ?_ i m nx h tk o tx hi hj f nn) done hE ht
  show s.heap.objs.size < (s.heap.push _).objs.size
  rw [Heap.size_push]; exact Nat.lt_succ_self _
end
theorem ne_fst {a c : Nat} {o : Obj} (h : a < c ∨ c < a) : ((a, o) : Addr × Obj).1 ≠ c := by
  rcases h with h | h
  · exact Nat.ne_of_lt h
  · exact Nat.ne_of_gt h
end
section
open PySem PySem.W PyProof.Rows
set_option Elab.async false
set_option maxRecDepth 100000
section
variable {prog : Program} {w : World} {A : Around} {s : Shared} {R : Result → Shared → Prop}
/-- a call of a lambda that lies in the ledger HL -/
theorem code_lam {name qual : Str} {params : Arguments} {body : Expr} {scope : Scope} {cl : List (Str × Addr)} {dV doc pm ctv : Value} {c' f : Addr} {args : Args} {HL : Led}
    (hh : Has HL s.heap) (hlim : s.heap.NoLimit) (ho : (f, kdv_obj name qual params (.expr body) scope cl dV doc pm c' ctv) ∈ HL) (hcd : s.heap.CodeRec (.ref c') qual) (hroom : A.depth < recursionLimit)
    (hbind : bindArgs (kdv_fn name qual params (.expr body) scope cl dV doc pm (.ref c') ctv) args = pure [])
    (h : ∀ L' h₁, Fr (hideAll s.heap (HL.map (·.1))) L' h₁ (fun _ => none) → News (hideAll s.heap (HL.map (·.1))) L' h₁ HL →
      wpAny (model prog w) (A.deeper (envX qual scope L' f (.ref c') cl)) (eval body (envX qual scope L' f (.ref c') cl)) (fun v s' => R (.ok (.ret v)) s') (fun _ _ => False) { s with heap := h₁, toks := s.toks })
    (hco : scope.isCoroutine = false) (hgen : scope.isGenerator = false) (hk : scope.kind = .function)
    (hcell : ∀ x ∈ scope.names, x.2 ≠ .cell) : codeAny (model prog w) A (.call (.ref f) args) R s := by
  refine kla_callFunE hroom (hh _ ho) rfl hco hgen rfl hcd ?_
  rw [hbind]
  refine wpAny_pure (wpAny_newFunctionEnv hcell (fun _ hy => absurd hy List.not_mem_nil) (fun h₁ hns hsb => ⟨hlim.fresh _ hsb, ?_⟩) hk)
  show codeAny _ _ (.expr body (envX qual scope s.heap.objs.size f (.ref c') cl)) _ _
  have hk₁ : ∀ b o, s.heap.get? b = some o → h₁.get? b = some o := fun b o e => hsb.extBut b o (Nat.ne_of_lt (Heap.lt_size e)) (Heap.get?_push_of_some _ e)
  exact kla_codeExpr (wpAny_mono (h s.heap.objs.size h₁ ⟨hns, fun b o e => hk₁ b o (of_hideAll _ e), Nat.le_of_eq (hideAll_size _ _)⟩
    (fun p hp => ⟨hk₁ _ _ (hh p hp), Nat.ne_of_lt (Heap.lt_size (hh p hp)), hideAll_none _ (List.mem_map_of_mem hp)⟩)) (fun v s' hl => hl) fun _ _ y => y.elim)
end
end
section
open PySem PySem.W PyProof.Rows
set_option Elab.async false
set_option maxRecDepth 100000
abbrev noArgs : Arguments := { posonlyargs := [], args := [], vararg := none, kwonlyargs := [], kw_defaults := [], kwarg := none, defaults := [] }
theorem Grew.adrTrans {A0 : List Addr} {n0 n1 : Nat} {Z Z' : Led} {P P' c' : Addr} {ps : Array Value} {pos : Pos} {qual : Str} {o : Obj} (a : Adr A0 n0 Z) (g : Grew Z P ps pos qual n1 Z' c' o P') (h : n0 ≤ n1) : Adr A0 n0 Z' := Adr.trans a h g.adr
section
variable {prog : Program} {w : World} {K : Frag} {p : Program} {loose : List Str} {mean : ExcName → Option Value} {mg mb : Str → Option Value}
variable {A : Around} {E : Value → Shared → Prop} {s : Shared} {m : Str → Option Value} {h₀ : Heap} {L sf c P : Addr} {Z rest news cells : Led} {qn qual : Str} {cs sc0 sc1 : Scope} {cl clos : List (Str × Addr)} {Q : Flow → Shared → Prop}
  {body0 body : Expr} {p1 p2 p3 p4 p5 p6 p7 p8 p9 : Pos} {i j : Int}
/-- hit = lambda: ..; hit.span = lambda: ..; return hit -/
theorem hit_ok (TP : Led → Prop) (F : Fr h₀ L s.heap m) (N : News h₀ L s.heap news) (hs : ∀ q ∈ Z ++ rest, q ∈ news) (T : Top p loose mean mg mb h₀) (hrest : ∀ q ∈ rest, isTab q.2 = false) (hcells : ∀ q ∈ cells, q ∈ rest)
    (hq : (qn ++ Str.ofString ".<locals>.") ++ Str.ofString "<lambda>" = qual) (hk : cs.kind = .function) (hloc : (envX qn cs L sf (.ref c) cl).kindOf (Str.ofString "hit") = some .local)
    (hcl0 : closureFor sc0 (envX qn cs L sf (.ref c) cl) = pure []) (hcl1 : closureFor sc1 (envX qn cs L sf (.ref c) cl) = pure clos) (C : CodeHd h₀ c P ∨ ∃ o, (c, o) ∈ rest ∧ ∃ q, CodeO o c q P)
    (tp : TP Z) (htab : ∀ Z, TP Z → TabOk (W1 qual) Z P)
    (hgrow : ∀ Z ps pos n0 Z' c' o P' h, Grew Z P ps pos qual n0 Z' c' o P' → Has Z h → (P, tabObj ps) ∈ Z → TP Z → TP Z')
    (hspan : ∀ (HL : Led) (sp c' : Addr) (o' : Obj) (P' : Addr) (doc ctv pm : Value), (sp, kdv_obj (Str.ofString "<lambda>") qual noArgs (.expr body) sc1 clos .none doc pm c' ctv) ∈ HL → (c', o') ∈ HL → CodeO o' c' qual P' → (∀ q ∈ cells, q ∈ HL) → SpanOk prog w K p loose mean mg mb HL sp i j)
    (h : ∀ hit HL h' tk Z' m', TP Z' → HitL prog w K p loose mean mg mb HL hit i j → Fr h₀ L h' m' → News h₀ L h' (Z' ++ (HL ++ rest)) → Adr (Z.map (·.1)) s.heap.objs.size Z' → (∀ q ∈ HL, q ∈ cells ∨ q.1 ∈ Z.map (·.1) ∨ s.heap.objs.size ≤ q.1) → (∀ q ∈ Z, isTab q.2 = false → q ∈ Z') →
      Q (.ret (.ref hit)) { s with heap := h', toks := tk }) 
    (hs1 : swapsWith (.Lambda noArgs body0 sc0 p2) (some (.Name (Str.ofString "hit") p1)) p3.line (envX qn cs L sf (.ref c) cl) = pure false := by rfl)
    (hs2 : swapsWith (.Lambda noArgs body sc1 p6) (some (.Attribute (.Name (Str.ofString "hit") p4) (Str.ofString "span") p5)) p7.line (envX qn cs L sf (.ref c) cl) = pure false := by rfl) :
    wpAny (model prog w) A (execs [.Assign [.Name (Str.ofString "hit") p1] (.Lambda noArgs body0 sc0 p2) p3, .Assign [.Attribute (.Name (Str.ofString "hit") p4) (Str.ofString "span") p5] (.Lambda noArgs body sc1 p6) p7, .Return (some (.Name (Str.ofString "hit") p8)) p9] (envX qn cs L sf (.ref c) cl)) Q E s := by
  have hc : ∀ h' : Heap, (∀ b o, h₀.get? b = some o → h'.get? b = some o) → Has rest h' → CodeHd h' c P := fun h' a b => by
    rcases C with C | ⟨o, ho, q, co⟩
    · exact C.keeps a
    · exact (co.2 h' (b _ ho)).2
  refine wpAny_execs_cons (wpAny_Assign_Name ?_ hs1)
  obtain ⟨ps, hP, ht, href⟩ := htab Z tp
  have hZ0 : Has Z s.heap := News.has (nSub N fun q hq => hs q (by simp [hq]))
  have hR0 : Has rest s.heap := News.has (nSub N fun q hq => hs q (by simp [hq]))
  refine mk_lam (P := P) (c := c) (Z := Z) (rest := rest) F N hs T hrest hq rfl hcl0 rfl rfl (hc _ F.keep hR0) hP ht (fun v e => ?_) ?_
  · obtain ⟨c', o, rfl, hm, _, P', hco⟩ := href _ v e
    exact ⟨c', o, P', rfl, hm, hco⟩
  intro f1 c1 o1 P1 ctv1 doc1 h1 tk1 Z1 G1 lf1 lt1 F1 N1
  have tp1 := hgrow _ _ _ _ _ _ _ _ _ G1 hZ0 hP tp
  refine storeX_L F1 N1 ?_ hk hloc
  intro h2 F2 N2
  dsimp only
  generalize hf1 : kdv_obj _ _ _ _ _ _ _ _ _ _ _ = fo1 at N1 N2
  have hfo1 : isTab fo1 = false := by rw [← hf1]; rfl
  refine wpAny_execs_cons (plainObj_wpAny_Assign_Attribute ?_ hs2)
  obtain ⟨ps2, hP2, ht2, href2⟩ := htab Z1 tp1
  have hZ1 : Has Z1 h2 := News.has (nSub N2 fun q hq => by simp [hq])
  have hR1 : Has rest h2 := News.has (nSub N2 fun q hq => by simp [hq])
  have hsz1 : s.heap.objs.size ≤ h2.objs.size := Nat.le_trans lf1 (Nat.le_of_lt (Heap.lt_size (N2 _ (List.mem_cons_self)).1))
  refine mk_lam (P := P) (c := c) (Z := Z1) (rest := (f1, fo1) :: rest) F2 N2 (fun q hq => by
      simp only [List.mem_append, List.mem_cons] at hq ⊢
      rcases hq with z | z | z <;> simp [z]) T (fun q hq => (List.mem_cons.mp hq).elim (fun e => by rw [e]; exact hfo1) (hrest q)) hq rfl hcl1 rfl rfl (hc _ F2.keep hR1) hP2 ht2 (fun v e => ?_) ?_
  · obtain ⟨c', o, rfl, hm, _, P', hco⟩ := href2 _ v e
    exact ⟨c', o, P', rfl, hm, hco⟩
  intro f2 c2 o2 P2 ctv2 doc2 h3 tk3 Z2 G2 lf2 lt2 F3 N3
  have tp2 := hgrow _ _ _ _ _ _ _ _ _ G2 hZ1 hP2 tp1
  dsimp only at lf2
  refine nameX_L F3 (v := .ref f1) (by simp) ?_ hk hloc
  generalize hf2 : kdv_obj _ _ _ _ _ _ _ _ _ _ _ = fo2 at N3
  have hfo2 : isTab fo2 = false := by rw [← hf2]; rfl
  subst hf1
  have lt3 : ∀ q ∈ Z1 ++ rest, q.1 < f1 := lt1
  -- all but f1 itself
  have ne2 : ∀ q ∈ (f2, fo2) :: (Z2 ++ rest), q.1 ≠ f1 := fun q hq e => by
    rcases List.mem_cons.mp hq with rfl | hq
    · have := lt2 (f1, _) (List.mem_append.mpr (.inr (.head _)))
      exact absurd this (by dsimp only at e ⊢; rw [e]; exact Nat.lt_irrefl _)
    rcases List.mem_append.mp hq with hq | hq
    · rcases G2.adr q hq with z | z
      · obtain ⟨r, hr, e2⟩ := List.mem_map.mp z
        have := lt3 r (by simp [hr])
        rw [e2, e] at this
        exact Nat.lt_irrefl _ this
      · have := Heap.lt_size (N2 _ (List.mem_cons_self)).1
        dsimp only at this z
        rw [e] at z
        exact Nat.lt_irrefl _ (Nat.lt_of_lt_of_le this z)
    · have := lt3 q (by simp [hq])
      rw [e] at this
      exact Nat.lt_irrefl _ this
  have hm := N3 (f1, _) (.tail _ (List.mem_append.mpr (.inr (.head _))))
  have hLs : L < h3.objs.size := F3.ns.lt
  refine fn_setAttr (q := f1) hm.1 lk_fn_span fun h4 tk4 hsz h41 h42 hk4 => ?_
  dsimp only at hsz h41 h42 hk4 hm
  obtain ⟨oL, a1, a2, hL, a3⟩ := F3.ns
  have F4 : Fr h₀ L h4 _ := ⟨⟨oL, a1, a2, by rw [hk4 _ hm.2.1.symm (Nat.ne_of_lt hLs)]; exact hL, a3⟩, fun b o e => by
    have e2 := F3.keep b o e
    rw [hk4 b (fun z => by have z2 := hm.2.2; rw [z] at e; rw [z2] at e; cases e) (Nat.ne_of_lt (Heap.lt_size e2))]; exact e2, F3.above⟩
  refine wpAny_execs_cons (wpAny_Return_some (nameX_L F4 (v := .ref f1) (by simp) ?_ hk hloc))
  dsimp only
  have hd0 : h3.objs.size ≠ L ∧ h₀.get? h3.objs.size = none := ⟨Nat.ne_of_gt hLs, Heap.get?_none_of_le (Nat.le_trans F3.above (Nat.le_of_lt hLs))⟩
  have hold : ∀ q ∈ (f2, fo2) :: (Z2 ++ rest), h4.get? q.1 = some q.2 ∧ q.1 ≠ L ∧ h₀.get? q.1 = none := fun q hq => by
    have n := N3 q (by
      simp only [List.mem_append, List.mem_cons] at hq ⊢
      rcases hq with z | z | z <;> simp [z])
    exact ⟨by rw [hk4 _ (ne2 q hq) (Nat.ne_of_lt (Heap.lt_size n.1))]; exact n.1, n.2⟩
  have hA : ∃ oA oB, h4.get? f1 = some oA ∧ h4.get? h3.objs.size = some oB ∧ (∃ fd sl, oA = (⟨.type "function", some h3.objs.size, .func fd, sl⟩ : Obj)) ∧ ∃ hsh tk n, oB = dictOf [⟨hsh, .str (Str.ofString "span") tk, .ref f2⟩] n := ⟨_, _, h41, h42, ⟨_, _, rfl⟩, ⟨_, _, _, rfl⟩⟩
  obtain ⟨oA, oB, g41, g42, ⟨fd, sl, rfl⟩, ⟨hsh, tkk, nn, rfl⟩⟩ := hA
  refine h f1 ((f1, ⟨.type "function", some h3.objs.size, .func fd, sl⟩) :: (h3.objs.size, dictOf [⟨hsh, .str (Str.ofString "span") tkk, .ref f2⟩] nn) :: (f2, fo2) :: (c2, o2) :: cells) h4 _ Z2 _ tp2 ⟨h3.objs.size, fd, sl, hsh, tkk, nn, f2, .head _, .tail _ (.head _), ?_, ?_, ?_⟩ F4 ?_ ?_ ?_ ?_
  · intro q hq
    simp only [List.mem_cons] at hq
    rcases hq with rfl | rfl | rfl | rfl | z
    · rfl
    · rfl
    · exact hfo2
    · exact G2.code.1
    · exact hrest q (hcells q z)
  · subst hf2
    exact ⟨_, _, _, _, .tail _ (.tail _ (.head _))⟩
  · subst hf2
    exact hspan _ f2 c2 o2 P2 _ _ _ (.tail _ (.tail _ (.head _))) (.tail _ (.tail _ (.tail _ (.head _)))) G2.code (fun q hq => by simp [hq])
  · intro q hq
    rcases List.mem_append.mp hq with hq | hq
    · exact hold q (by simp [hq])
    rcases List.mem_append.mp hq with hq | hq
    · simp only [List.mem_cons] at hq
      rcases hq with rfl | rfl | rfl | rfl | z
      · exact ⟨g41, hm.2⟩
      · exact ⟨g42, hd0⟩
      · exact hold _ (by simp)
      · exact hold _ (by simp [G2.mem])
      · exact hold q (by simp [hcells q z])
    · exact hold q (by simp [hq])
  · exact (G2.adrTrans G1.adr hsz1)
  · intro q hq
    have hf1 := lf1
    have s3 : s.heap.objs.size ≤ h3.objs.size := Nat.le_trans lf1 (Nat.le_of_lt (Heap.lt_size hm.1))
    simp only [List.mem_cons] at hq
    rcases hq with rfl | rfl | rfl | rfl | z
    · exact .inr (.inr hf1)
    · exact .inr (.inr s3)
    · exact .inr (.inr (Nat.le_trans hsz1 lf2))
    · exact .inr ((G2.adrTrans G1.adr hsz1) _ G2.mem)
    · exact .inl z
  · intro q hq hf
    exact G2.keepRec hZ1 hP2 _ (G1.keepRec hZ0 hP _ hq hf) hf
end
end
section
open PySem PySem.W PyProof.Rows
set_option Elab.async false
set_option maxRecDepth 100000
set_option maxHeartbeats 40000000

theorem ln_12 : True := by
  k_with_none
  k_with "mI" => (first | omega | (simp only [List.length_cons, List.length_nil, List.length_append, List.length_take, List.length_drop, List.length_replicate, List.length_map, List.length_range, S_len, sizeLine_eq]; omega) | (simp only [List.length_cons, List.length_nil, List.length_append, List.length_take, List.length_drop, List.length_replicate, List.length_map, List.length_range, S_len, sizeLine_eq] at *; omega))
  k_with "mItem" => (first
  | ((with_reducible show wpAny _ _ (subscriptTail _ _ (Value.str (S (_ :: _)) _) (Value.int 0 _)) _ _ _); refine r_it0 (by walk_at "mI") ?_)
  | ((with_reducible show wpAny _ _ (subscriptTail _ _ (Value.str (S (_ :: _ :: _)) _) (Value.int 1 _)) _ _ _); refine r_it1 (by walk_at "mI") ?_)
  | ((with_reducible show wpAny _ _ (subscriptTail _ _ (Value.str (S _) _) (Value.int _ _)) _ _ _); refine r_item (by walk_at "mI") (by walk_at "mI") (by walk_at "mI") ?_))
  k_with "mSlice" => (((with_reducible rename Fr _ _ _ _ => F'); (with_reducible rename News _ _ _ _ => N'); (first
  | ((with_reducible show wpAny _ _ (subscriptTail _ (Expr.Slice (some _) none none _) (Value.str (S (_ :: _)) _) _) _ _ _); refine r_sl1 (s := ⟨_, _, _, _, _⟩) F' N' (by walk_at "mI") ?_)
  | refine r_ss (s := ⟨_, _, _, _, _⟩) F' N' (by walk_at "mI") (by walk_at "mI") (by walk_at "mI") ?_
  | refine r_sn (s := ⟨_, _, _, _, _⟩) F' N' (by walk_at "mI") (by walk_at "mI") ?_
  | refine r_ns (s := ⟨_, _, _, _, _⟩) F' N' (by walk_at "mI") (by walk_at "mI") ?_); intro _ _ _ _ _))
  k_with "subscriptTail" => (first | walk_at "mItem" | walk_at "mSlice")
  k_with "subscriptTail Name Name str int" => (walk_at "mItem")
  k_with "subscriptTail Name Constant str int" => (walk_at "mItem")
  k_with "subscriptTail Name Slice str ref" => (walk_at "mSlice")
  k_with "eval Constant str" => ((with_reducible first | refine r_const lit_bang ?_ | refine r_const lit_hat ?_ | refine r_const lit_q ?_ | refine r_const lit_thorn ?_ | refine r_const lit_del ?_ | refine r_const lit_ff ?_ | refine r_const lit_A ?_ | refine r_const lit_hq ?_ | refine r_const lit_h9 ?_ | refine r_const lit_sp ?_ | refine r_const lit_tilde ?_ | refine r_const lit_fe ?_ | refine r_const lit_hT ?_ | refine r_const lit_e ?_ | refine r_const lit_marks ?_))
  k_with "call builtin:len" => (first
  | ((with_reducible show wpAny _ _ (call (Value.builtin "len") [Value.str (S [_]) _]) _ _ _); refine r_len1 ?_)
  | ((with_reducible show wpAny _ _ (call (Value.builtin "len") [Value.str (S [_, _]) _]) _ _ _); refine r_len2 ?_)
  | ((with_reducible show wpAny _ _ (call (Value.builtin "len") [Value.str (S [_, _, _]) _]) _ _ _); refine r_len3 ?_)
  | ((with_reducible show wpAny _ _ (call (Value.builtin "len") [Value.str (S _) _]) _ _ _); refine r_len (by walk_at "mI") ?_))
  k_with "compareOp Eq str str" => (((with_reducible show wpAny _ _ (compareOp _ (Value.str (S _) _) (Value.str (S _) _)) _ _ _); refine r_eq ?_))
  k_with "compareOp NotEq str str" => (((with_reducible show wpAny _ _ (compareOp _ (Value.str (S _) _) (Value.str (S _) _)) _ _ _); refine r_ne ?_))
  k_with "compareOp In str str" => (((with_reducible show wpAny _ _ (compareOp _ (Value.str (S _) _) (Value.str (S _) _)) _ _ _); refine r_in ?_))
  k_with "compareOp Gt str str" => (((with_reducible show wpAny _ _ (compareOp _ (Value.str (S _) _) (Value.str (S _) _)) _ _ _); refine r_gt ?_))
  k_with "compareOp LtE str str" => (((with_reducible show wpAny _ _ (compareOp _ (Value.str (S _) _) (Value.str (S _) _)) _ _ _); refine r_le ?_))
  k_with "binaryOp Add str str" => (((with_reducible show wpAny _ _ (binaryOp _ (Value.str (S _) _) (Value.str (S _) _)) _ _ _); refine r_add ?_ (by walk_at "mI"); intro _ _))
  k_with "inplaceOp Add str str" => (((with_reducible show wpAny _ _ (inplaceOp _ (Value.str (S _) _) (Value.str (S _) _)) _ _ _); refine r_iadd ?_ (by walk_at "mI"); intro _ _))
  k_with "call builtin:ord" => (((with_reducible show wpAny _ _ (call (Value.builtin "ord") [Value.str (S _) _]) _ _ _); refine r_ord ?_))
  k_with "call builtin:chr" => ((refine r_chr (by walk_at "mChr") (by walk_at "mChr") ?_))
  k_with "mChr" => (first | omega | (split <;> omega))
  k_with "mRoom" => (((try simp only [depth_mark, depth_under_make, depth_under_kw, depth_in1, depth_deeper, depth_caller, units_in1, units_deeper, Around.mark_units, units_caller]); (try dsimp only [arA]); omega))
  k_with "mClean" => (((try clear hret); (repeat (with_reducible rename Fr _ _ _ _ => x9; clear x9)); (repeat (with_reducible rename News _ _ _ _ => x9; clear x9)); (repeat (with_reducible rename Below _ _ _ _ => x9; clear x9)); (repeat (with_reducible rename Top _ _ _ _ _ _ => x9; clear x9)); (repeat (with_reducible rename Frag.In _ _ => x9; clear x9))))
  k_with "mUse2" => (((intro t9 h9 tk9 F9 N9); (try dsimp only); (try k_fold)))
  k_with "eval Name" => ((k_here; k_dflt (refine nameX_F (by k_asm) (by rfl) (by assumption) (by assumption) ?_ (by rfl) (by rfl); k_whole)))
  trivial
theorem span_end {h h' : Heap} {L D : Addr} {m : Str → Option Value} {HL : Led} {o : Obj} {G : Prop} (hh : Has HL h) (F : Fr (hideAll h (HL.map (·.1))) L h' m) (N : News (hideAll h (HL.map (·.1))) L h' ((D, o) :: HL)) (l1 : ∀ q ∈ HL, q.1 < D)
    (k : h.StaysIn h' → h.get? D = none → h'.get? D = some o → G) : G := by
  refine k (fun b x e => ?_) ?_ (N _ (.head _)).1
  · by_cases hb : b ∈ HL.map (·.1)
    · obtain ⟨r, hr, rfl⟩ := List.mem_map.mp hb
      rw [hh r hr] at e; cases e
      exact (N r (.tail _ hr)).1
    · exact F.keep b x (hideAll_get _ e hb)
  · cases q : h.get? D with
    | none => rfl
    | some x =>
      have := (N _ (.head _)).2.2
      dsimp only at this
      rw [hideAll_get _ q (fun hm => by
        obtain ⟨r, hr, e⟩ := List.mem_map.mp hm
        exact absurd (l1 r hr) (by rw [e]; exact Nat.lt_irrefl _))] at this
      cases this
section
variable (prog : Program) (w : World) (K : Frag) (p : Program) (loose : List Str) (mean : ExcName → Option Value) (mg mb : Str → Option Value)
theorem span_kw (HL : Led) (sp c' : Addr) (o' : Obj) (P' : Addr) (doc ctv pm : Value) (qual : Str) (ck cw : Addr) (ok ow : Obj) (i wv : Nat) (ti tw : Tok) (p1 p2 p3 p4 p5 : Pos)
   (hm : (sp, kdv_obj (Str.ofString "<lambda>") qual noArgs (.expr (.Tuple [.Name (Str.ofString "k") p1, .BinOp (.Name (Str.ofString "k") p2) .Add (.Name (Str.ofString "width") p3) p4] 0 p5)) { kind := ScopeKind.function, names := [(Str.ofString "k", NameKind.free), (Str.ofString "width", NameKind.free)], isGenerator := false, isCoroutine := false } [(Str.ofString "width", cw), (Str.ofString "k", ck)] .none doc pm c' ctv) ∈ HL)
   (hc : (c', o') ∈ HL) (co : CodeO o' c' qual P') (hk : (ck, ok) ∈ HL) (hw : (cw, ow) ∈ HL) (dk : ok.data = .cell (some (.int (i : Int) ti))) (dw : ow.data = .cell (some (.int (wv : Int) tw))) (hi : i < 1000) (hwv : wv < 1000) :
   SpanOk prog w K p loose mean mg mb HL sp (i : Int) ((i + wv : Nat) : Int) := by
  w_top off
  intro dp un fr gd s Q E X T hdp hun hh hret
  refine wpAny_call ?_
  refine code_lam (HL := HL) hh T.nolimit hm (co.2 _ (hh _ hc)).1 (by show dp < 1000; omega) rfl ?_ rfl rfl rfl (by decide)
  intro L' h1 F N
  k_steps
  rename Fr _ _ _ _ => F'
  rename News _ _ _ _ => N'
  rename ∀ (p : Addr × Obj), p ∈ HL → _ => l1
  refine span_end hh F' N' l1 fun a b c => hret _ _ _ _ _ a b (by rw [Int.natCast_add]; exact c)
end
end
section
open PySem PySem.W PyProof.Rows
set_option Elab.async false
set_option maxRecDepth 100000
set_option maxHeartbeats 40000000

theorem ln_13 : True := by
  k_with_none
  k_with "mI" => (first | omega | (simp only [List.length_cons, List.length_nil, List.length_append, List.length_take, List.length_drop, List.length_replicate, List.length_map, List.length_range, S_len, sizeLine_eq]; omega) | (simp only [List.length_cons, List.length_nil, List.length_append, List.length_take, List.length_drop, List.length_replicate, List.length_map, List.length_range, S_len, sizeLine_eq] at *; omega))
  k_with "mItem" => (first
  | ((with_reducible show wpAny _ _ (subscriptTail _ _ (Value.str (S (_ :: _)) _) (Value.int 0 _)) _ _ _); refine r_it0 (by walk_at "mI") ?_)
  | ((with_reducible show wpAny _ _ (subscriptTail _ _ (Value.str (S (_ :: _ :: _)) _) (Value.int 1 _)) _ _ _); refine r_it1 (by walk_at "mI") ?_)
  | ((with_reducible show wpAny _ _ (subscriptTail _ _ (Value.str (S _) _) (Value.int _ _)) _ _ _); refine r_item (by walk_at "mI") (by walk_at "mI") (by walk_at "mI") ?_))
  k_with "mSlice" => (((with_reducible rename Fr _ _ _ _ => F'); (with_reducible rename News _ _ _ _ => N'); (first
  | ((with_reducible show wpAny _ _ (subscriptTail _ (Expr.Slice (some _) none none _) (Value.str (S (_ :: _)) _) _) _ _ _); refine r_sl1 (s := ⟨_, _, _, _, _⟩) F' N' (by walk_at "mI") ?_)
  | refine r_ss (s := ⟨_, _, _, _, _⟩) F' N' (by walk_at "mI") (by walk_at "mI") (by walk_at "mI") ?_
  | refine r_sn (s := ⟨_, _, _, _, _⟩) F' N' (by walk_at "mI") (by walk_at "mI") ?_
  | refine r_ns (s := ⟨_, _, _, _, _⟩) F' N' (by walk_at "mI") (by walk_at "mI") ?_); intro _ _ _ _ _))
  k_with "subscriptTail" => (first | walk_at "mItem" | walk_at "mSlice")
  k_with "subscriptTail Name Name str int" => (walk_at "mItem")
  k_with "subscriptTail Name Constant str int" => (walk_at "mItem")
  k_with "subscriptTail Name Slice str ref" => (walk_at "mSlice")
  k_with "eval Constant str" => ((with_reducible first | refine r_const lit_bang ?_ | refine r_const lit_hat ?_ | refine r_const lit_q ?_ | refine r_const lit_thorn ?_ | refine r_const lit_del ?_ | refine r_const lit_ff ?_ | refine r_const lit_A ?_ | refine r_const lit_hq ?_ | refine r_const lit_h9 ?_ | refine r_const lit_sp ?_ | refine r_const lit_tilde ?_ | refine r_const lit_fe ?_ | refine r_const lit_hT ?_ | refine r_const lit_e ?_ | refine r_const lit_marks ?_))
  k_with "call builtin:len" => (first
  | ((with_reducible show wpAny _ _ (call (Value.builtin "len") [Value.str (S [_]) _]) _ _ _); refine r_len1 ?_)
  | ((with_reducible show wpAny _ _ (call (Value.builtin "len") [Value.str (S [_, _]) _]) _ _ _); refine r_len2 ?_)
  | ((with_reducible show wpAny _ _ (call (Value.builtin "len") [Value.str (S [_, _, _]) _]) _ _ _); refine r_len3 ?_)
  | ((with_reducible show wpAny _ _ (call (Value.builtin "len") [Value.str (S _) _]) _ _ _); refine r_len (by walk_at "mI") ?_))
  k_with "compareOp Eq str str" => (((with_reducible show wpAny _ _ (compareOp _ (Value.str (S _) _) (Value.str (S _) _)) _ _ _); refine r_eq ?_))
  k_with "compareOp NotEq str str" => (((with_reducible show wpAny _ _ (compareOp _ (Value.str (S _) _) (Value.str (S _) _)) _ _ _); refine r_ne ?_))
  k_with "compareOp In str str" => (((with_reducible show wpAny _ _ (compareOp _ (Value.str (S _) _) (Value.str (S _) _)) _ _ _); refine r_in ?_))
  k_with "compareOp Gt str str" => (((with_reducible show wpAny _ _ (compareOp _ (Value.str (S _) _) (Value.str (S _) _)) _ _ _); refine r_gt ?_))
  k_with "compareOp LtE str str" => (((with_reducible show wpAny _ _ (compareOp _ (Value.str (S _) _) (Value.str (S _) _)) _ _ _); refine r_le ?_))
  k_with "binaryOp Add str str" => (((with_reducible show wpAny _ _ (binaryOp _ (Value.str (S _) _) (Value.str (S _) _)) _ _ _); refine r_add ?_ (by walk_at "mI"); intro _ _))
  k_with "inplaceOp Add str str" => (((with_reducible show wpAny _ _ (inplaceOp _ (Value.str (S _) _) (Value.str (S _) _)) _ _ _); refine r_iadd ?_ (by walk_at "mI"); intro _ _))
  k_with "call builtin:ord" => (((with_reducible show wpAny _ _ (call (Value.builtin "ord") [Value.str (S _) _]) _ _ _); refine r_ord ?_))
  k_with "call builtin:chr" => ((refine r_chr (by walk_at "mChr") (by walk_at "mChr") ?_))
  k_with "mChr" => (first | omega | (split <;> omega))
  k_with "mRoom" => (((try simp only [depth_mark, depth_under_make, depth_under_kw, depth_in1, depth_deeper, depth_caller, units_in1, units_deeper, Around.mark_units, units_caller]); (try dsimp only [arA]); omega))
  k_with "mClean" => (((try clear hret); (repeat (with_reducible rename Fr _ _ _ _ => x9; clear x9)); (repeat (with_reducible rename News _ _ _ _ => x9; clear x9)); (repeat (with_reducible rename Below _ _ _ _ => x9; clear x9)); (repeat (with_reducible rename Top _ _ _ _ _ _ => x9; clear x9)); (repeat (with_reducible rename Frag.In _ _ => x9; clear x9))))
  k_with "mUse2" => (((intro t9 h9 tk9 F9 N9); (try dsimp only); (try k_fold)))
  k_with "binaryOp Mod int int" => (refine r_mod (by decide) ?_)
  k_with "binaryOp FloorDiv int int" => (refine r_fdiv (by decide) (by decide) ?_)
  k_with "binaryOp Mult str int" => (((with_reducible show wpAny _ _ (binaryOp _ (Value.str (S [_]) _) (Value.int _ _)) _ _ _); refine r_mul (by walk_at "mI") (by walk_at "mI") ?_; intro _ _))
  k_with "exec For" => (refine hold ?_)
  k_with "exec For Name ListComp cons nil" => (refine hold ?_)
  k_with "exec For Name Call cons nil" => (refine hold ?_)
  k_with "call ref" => ((k_here; (with_reducible show wpAny _ _ (call (Value.ref 21) [Value.str (S [_]) _]) _ _ _); k_dflt (refine PCl.use (ctoi_s _ _ _ _ _ _ _ _ ) (by k_asm) (by k_asm) (by k_asm) (by k_asm) (by walk_at "mRoom") (by walk_at "mRoom") ?_; k_whole); walk_at "mUse2"))
  k_with "call ref" => ((k_here; (with_reducible show wpAny _ _ (call (Value.ref 21) [Value.int _ _]) _ _ _); k_dflt (refine PCl.use (ctoi_i _ _ _ _ _ _ _ _ ) (by k_asm) (by k_asm) (by k_asm) (by k_asm) (by walk_at "mRoom") (by walk_at "mRoom") ?_; k_whole); walk_at "mUse2"))
  k_with "call ref" => ((k_here; (with_reducible show wpAny _ _ (call (Value.ref 28) [Value.str (S [_]) _]) _ _ _); k_dflt (refine PCl.use (isprint_s _ _ _ _ _ _ _ _ ) (by k_asm) (by k_asm) (by k_asm) (by k_asm) (by walk_at "mRoom") (by walk_at "mRoom") ?_; k_whole); walk_at "mUse2"))
  k_with "call ref" => ((k_here; (with_reducible show wpAny _ _ (call (Value.ref 28) [Value.int _ _]) _ _ _); k_dflt (refine PCl.use (isprint_i _ _ _ _ _ _ _ _ ) (by k_asm) (by k_asm) (by k_asm) (by k_asm) (by walk_at "mRoom") (by walk_at "mRoom") ?_; k_whole); walk_at "mUse2"))
  k_with "call ref" => ((k_here; (with_reducible show wpAny _ _ (call (Value.ref 35) [Value.str (S [_]) _]) _ _ _); k_dflt (refine PCl.use (ctrl_s _ _ _ _ _ _ _ _ ) (by k_asm) (by k_asm) (by k_asm) (by k_asm) (by walk_at "mRoom") (by walk_at "mRoom") ?_; k_whole); walk_at "mUse2"))
  k_with "call ref" => ((k_here; (with_reducible show wpAny _ _ (call (Value.ref 42) [Value.str (S [_]) _]) _ _ _); k_dflt (refine PCl.use (alt_s _ _ _ _ _ _ _ _ (by walk_at "mI")) (by k_asm) (by k_asm) (by k_asm) (by k_asm) (by walk_at "mRoom") (by walk_at "mRoom") ?_; k_whole); walk_at "mUse2"))
  k_with "call ref" => ((k_here; (with_reducible show wpAny _ _ (call (Value.ref 49) [Value.str (S [_]) _]) _ _ _); k_dflt (refine PCl.use (unctrl_s _ _ _ _ _ _ _ _ ) (by k_asm) (by k_asm) (by k_asm) (by k_asm) (by walk_at "mRoom") (by walk_at "mRoom") ?_; k_whole); walk_at "mUse2"))
  k_with "call ref" => ((k_here; (with_reducible show wpAny _ _ (call (Value.ref 70) _) _ _ _); k_dflt (refine PCl.use (marks_ok _ _ _ _ _ _  ) (by k_asm) (by k_asm) (by k_asm) (by k_asm) (by walk_at "mRoom") (by walk_at "mRoom") ?_; k_whole); walk_at "mUse2"))
  k_with "call ref" => ((k_here; (with_reducible show wpAny _ _ (call (Value.ref 82) [Value.str (S _) _, Value.int _ _]) _ _ _); k_dflt (refine PCl.use (width_ok _ _ _ _ _ _ _ _ _ _ (by walk_at "mI") (by walk_at "mI") (by walk_at "mI")) (by k_asm) (by k_asm) (by k_asm) (by k_asm) (by walk_at "mRoom") (by walk_at "mRoom") ?_; k_whole); walk_at "mUse2"))
  k_with "call ref" => ((k_here; (with_reducible show wpAny _ _ (call (Value.ref 89) [Value.str (S [94, _]) _]) _ _ _); k_dflt (refine PCl.use (read_2 _ _ _ _ _ _ _ _ ) (by k_asm) (by k_asm) (by k_asm) (by k_asm) (by walk_at "mRoom") (by walk_at "mRoom") ?_; k_whole); walk_at "mUse2"))
  k_with "call ref" => ((k_here; (with_reducible show wpAny _ _ (call (Value.ref 89) [Value.str (S [_]) _]) _ _ _); k_dflt (refine PCl.use (read_0 _ _ _ _ _ _ _ _ ) (by k_asm) (by k_asm) (by k_asm) (by k_asm) (by walk_at "mRoom") (by walk_at "mRoom") ?_; k_whole); walk_at "mUse2"))
  k_with "call ref" => ((k_here; (with_reducible show wpAny _ _ (call (Value.ref 75) [Value.str (S _) _]) _ _ _); k_dflt (refine PCl.use (shown_ok _ _ _ _ _ _ _ _ (by walk_at "mI") (by walk_at "mAll")) (by k_asm) (by k_asm) (by k_asm) (by k_asm) (by walk_at "mRoom") (by walk_at "mRoom") ?_; k_whole); walk_at "mUse2"))
  trivial
def nx1 (b : Bool) (l : List Nat) (st : Nat) : Option (Nat × Nat) := firstW (fun k => if b then (if prB (l.getD k 0) then 0 else 1) else widthL l k) (l.length - st) st

theorem ln_14 : True := by
  k_with "eval Name" => ((k_here; k_dflt (refine nameX_F (by k_asm) (by rfl) (by k_mem) (by k_asm) ?_ (by rfl) (by rfl); k_whole)))
  k_with "call type:range" => (refine hold ?_)
  k_with "makeFunction" => (refine hold ?_)
  k_with "eval Lambda" => (refine hold ?_)
  k_with "execs cons" => (((with_reducible show wpAny _ _ (execs (Stmt.Assign [_] (Expr.Lambda _ _ _ _) _ :: Stmt.Assign [Expr.Attribute _ _ _] (Expr.Lambda _ _ _ _) _ :: Stmt.Return _ _ :: []) _) _ _ _); refine hold ?_))
  trivial
local macro_rules | `(tactic| k_ne) => `(tactic| first | exact Nat.ne_of_lt (by assumption) | exact Nat.ne_of_gt (by assumption))
local macro_rules | `(tactic| k_all) => `(tactic| first | exact ne_lt (by assumption) (Nat.le_succ _) | exact ne_lt (by assumption) (Nat.le_trans (Nat.le_succ _) (Nat.le_succ _)) | exact List.forall_mem_nil _ | (refine' List.forall_mem_cons.mpr ⟨?a, ?b⟩; (case a => k_ne); (case b => k_all)))
theorem widthL_lt (l : List Nat) (k : Nat) : widthL l k < 4 := by unfold widthL; dsimp only; split <;> split <;> omega
theorem qH_eq (scope : Scope) (L a : Addr) (cd : Value) (cl : List (Str × Addr)) (h : scope.names.lookup (Str.ofString "search") = some .local) : (qualnameIn (envX (Str.ofString "_law_prog") scope L a cd cl) (Str.ofString "search") (Str.ofString "search") ++ Str.ofString ".<locals>.") ++ Str.ofString "<lambda>" = qH := by
  have e : qualnameIn (envX (Str.ofString "_law_prog") scope L a cd cl) (Str.ofString "search") (Str.ofString "search") = Str.ofString "_law_prog" ++ Str.ofString ".<locals>." ++ Str.ofString "search" := by
    unfold qualnameIn
    rw [show (envX (Str.ofString "_law_prog") scope L a cd cl).kindOf (Str.ofString "search") = some .local from h]
    rfl
  rw [e]
  decide +kernel
theorem ln_15 : True := by
  k_with "exec FunctionDef" => (refine hold ?_)
  trivial
theorem prog_ok (w : World) (p : Program) (loose : List Str) (mean : ExcName → Option Value) (mg mb : Str → Option Value) (b : Bool) 
    (dp un : Nat) (fr : Option (List Env)) (gd : Option (List Code)) (s : Shared) (Q E : Value → Shared → Prop) (Z : Led)
    (X : (hd.heap_39 w.params).In (hideAll s.heap (Z.map (·.1)))) (T : Top p loose mean mg mb (hideAll s.heap (Z.map (·.1)))) (hdp : dp + 70 < 1000) (hun : un + 700 < 9900) (hh : Has Z s.heap) (C : CodeHd (hideAll s.heap (Z.map (·.1))) 95 91) (tp : TP0 Z)
    (hret : ∀ pg PL P' h' tk Z', Kept s.heap Z h' Z' → TPP P' Z' → ProgL PySem.Challenge.rw_mr0049_01.prog w (hd.heap_39 w.params) p loose mean mg mb PL (TPP P') pg (nx1 b) → Has PL h' → Adr (Z.map (·.1)) s.heap.objs.size PL → Q (.ref pg) { s with heap := h', toks := tk }) :
    wpAny (model PySem.Challenge.rw_mr0049_01.prog w) (arA dp un fr gd) (call (.ref 96) [.bool b]) Q E s := by
  w_top off
  revert X T hret
  k_fill
  intro X T hret
  refine wpAny_call ?_
  k_dflt (refine' code_cloK Z hh ?k3 ?k5 ?k6 ?k7 ?k8 ?k9 ?kB ?kC ?_ ?c2 ?c3 ?c4; (case k3 => assumption); (case k5 => assumption); (case k6 => k_is); (case k7 => k_is); (case k8 => (show dp < 1000); omega); (case k9 => exact BindsTo.of_eq rfl); (case kC => decide); (case kB => exact rfl); (case c2 => exact rfl); (case c3 => exact rfl); (case c4 => exact rfl); k_whole; intro h' tk' cells F' N' hC)
  obtain ⟨oc, hE, d1⟩ := CellsAre.one hC
  subst hE
  clear hC
  replace F' : Fr _ _ h' (fun _ => none) := F'
  replace d1 : oc.data = .cell (some (.bool b)) := d1
  simp only [List.cons_append, List.nil_append] at N'
  generalize hL : s.heap.objs.size = L at *
  simp only [cellsFrom, beq_self_eq_true, ↓reduceIte, show (NameKind.local == NameKind.cell) = false from rfl, List.append_nil, Bool.false_eq_true]
  k_steps
  unfold Hold
  refine kdv_def rfl rfl rfl (kdv_all1 ?_)
  k_steps
  unfold Hold
  refine kdv_tuple (by k_asm) (by k_asm) rfl ?_
  intro t1 h1 F1 N1 l1
  clear F' N'
  have tp0 := tp
  obtain ⟨ps, hP, ht, href⟩ := tp
  have hZ1 : Has Z h1 := fun q hq => (N1 q (by simp [hq])).1
  refine mk_fn (P := 91) (c := 95) (Z := Z) (ps := ps) (rest := [(t1, kdv_tup [.int 0 tk']), (L + 1, oc)]) F1 (nSub N1 (fun q hq => by simp only [List.mem_append, List.mem_cons, List.mem_nil_iff, or_false] at hq ⊢; rcases hq with z | z | z <;> simp [z])) T (fun q hq => ?_) rfl rfl rfl (C.keeps F1.keep) hP ht (fun v e => ?_) ?_
  · simp only [List.mem_cons, List.mem_nil_iff, or_false] at hq
    rcases hq with rfl | rfl
    · rfl
    · exact isTab_cell d1
  · obtain ⟨c', o, rfl, hm, _, hw⟩ := href _ v e
    obtain ⟨P', _, hco, _⟩ := hw.1 rfl
    exact ⟨c', o, P', rfl, hm, hco⟩
  intro sf c1 o1 P1 ctv doc h2 tk2 Z1 G1 lf lt1 F2 N2
  have N2' := N2
  have hZ2 : Has Z1 h2 := News.has (nSub N2 (fun q hq => by simp [hq]))
  have hn1 : L < h1.objs.size := F1.ns.lt
  clear F1 N1
  obtain ⟨P2, CO1, tp1⟩ := grow_s G1 hZ1 hP (Heap.lt_size (hZ1 _ hP)) rfl tp0
  clear N2'
  generalize hfo : kdv_obj _ _ _ _ _ _ _ _ _ _ _ = fo at N2
  have hfoT : isTab fo = false := by rw [← hfo]; rfl
  dsimp only
  k_steps
  unfold Hold
  (with_reducible rename Fr _ _ _ _ => Fq)
  have hn2 := Fq.ns.lt
  have tp2 := tp1
  obtain ⟨⟨ps2, hP2, ht2, href2⟩, hne, _⟩ := tp1
  refine mk_lam (P := 91) (c := 95) (Z := Z1) (ps := ps2) (qual := qP) (rest := [(sf, fo), (t1, kdv_tup [.int 0 tk']), (L + 1, oc)]) Fq (by k_asm) (fun q hq => by simp only [List.mem_append, List.mem_cons, List.mem_nil_iff, or_false] at hq ⊢; rcases hq with z | z | z | z <;> simp [z]) T (fun q hq => ?_) rfl rfl rfl rfl rfl (C.keeps Fq.keep) hP2 ht2 (fun v e => ?_) ?_
  · simp only [List.mem_cons, List.mem_nil_iff, or_false] at hq
    rcases hq with rfl | rfl | rfl
    · exact hfoT
    · rfl
    · exact isTab_cell d1
  · obtain ⟨c', o, rfl, hm, _, hw⟩ := href2 _ v e
    obtain ⟨P', hco⟩ := hw.2 rfl
    exact ⟨c', o, P', rfl, hm, hco⟩
  intro pg c2 o2 P3 ctv2 doc2 h3 tk3 Z2 G2 lg lt2 F3 N3
  clear Fq
  try dsimp only at hn2 lg G2
  k_steps
  refine set_fn (rest := Z2 ++ [(sf, fo), (t1, kdv_tup [.int 0 tk']), (L + 1, oc)]) (by k_asm) (by k_asm) (.head _) (fun x hx => .tail _ hx) lt2 lk_fn_search ?_
  intro d h4 tk4 ld F4 N4
  generalize hpo : Obj.mk (Value.type "function") (some d) (Data.func _) _ = po at N4
  generalize hdo : dictOf _ _ = od at N4
  dsimp only
  k_steps
  have SO : ∀ PL : Led, (sf, fo) ∈ PL → (t1, kdv_tup [.int 0 tk']) ∈ PL → (L + 1, oc) ∈ PL → (c1, o1) ∈ PL → (∀ q ∈ PL, isTab q.2 = false) → SearchOk PySem.Challenge.rw_mr0049_01.prog w (hd.heap_39 w.params) p loose mean mg mb PL (TPP P2) sf (nx1 b) := by
    subst hfo
    clear hret G1 G2 tp0 tp2 hP ht href hP2 ht2 href2 hh C hdp hun hZ1 hZ2 lt1 lt2 l1
    walk_at "mClean"
    intro PL m1 m2 m3 m4 hPT l st args TL dp un fr gd s Q E ha hl hst X T hdp hun hPL tp hTL hfound
    have hTP : Has (TL ++ PL) s.heap := hTL.app hPL
    have X' := X.keeps (fun b o e => of_hideAll _ e)
    have T' := T.keeps (fun b o e => of_hideAll _ e)
    have hlt : ∀ q ∈ TL ++ PL, q.1 < s.heap.objs.size := fun q hq => Heap.lt_size (hTP q hq)
    refine wpAny_call ?_
    obtain ⟨t, u, ha⟩ : ∃ t u, (st = 0 ∧ u = tk' ∧ args = [.str (S l) t]) ∨ args = [.str (S l) t, .int (st : Int) u] := by
      rcases ha with ⟨rfl, t, rfl⟩ | ⟨t, u, rfl⟩
      · exact ⟨t, tk', .inl ⟨rfl, rfl, rfl⟩⟩
      · exact ⟨t, u, .inr rfl⟩
    k_dflt (refine' code_clo (binds := [(Str.ofString "chars", .str (S l) t), (Str.ofString "start", .int (st : Int) u)]) (TL ++ PL) hTP (hPL _ m1) rfl ?k5 ?k7 ?k8 ?k9 ?kB ?kC ?_ ?c2 ?c3 ?c4; (case k5 => exact T'.nolimit); (case k7 => exact (CO1.2 _ (hPL _ m4)).1); (case k8 => (show dp < 1000); omega); (case k9 => (rcases ha with ⟨rfl, rfl, rfl⟩ | rfl; (exact BindsTo.of_defaults rfl (hPL _ m2) rfl rfl rfl); (exact BindsTo.of_defaults rfl (hPL _ m2) rfl rfl rfl))); (case kC => decide); (case kB => exact rfl); (case c2 => exact rfl); (case c3 => exact rfl); (case c4 => exact rfl); k_whole; intro h' tk9 cells F' N' hC)
    obtain ⟨ok, ow, hE, dk, dw⟩ := CellsAre.two hC
    subst hE
    clear hC
    replace F' : Fr _ _ h' (fun y => if y = Str.ofString "start" then some (.int (st : Int) u) else if y = Str.ofString "chars" then some (.str (S l) t) else none) := F'
    replace dk : ok.data = .cell none := dk
    replace dw : ow.data = .cell none := dw
    generalize hL9 : s.heap.objs.size = L9 at *
    have N9 : News _ _ _ ((L9 + 1 + 1, ok) :: (L9 + 1, ow) :: (L + 1, oc) :: (TL ++ PL)) := nSub N' (fun q hq => by
      simp only [List.mem_cons, List.mem_append, List.mem_nil_iff, or_false, List.cons_append, List.nil_append] at hq ⊢
      rcases hq with rfl | rfl | rfl | z | z
      · simp
      · simp
      · simp [m3]
      · simp [z]
      · simp [z])
    clear N'
    simp only [cellsFrom, beq_self_eq_true, ↓reduceIte, show (NameKind.local == NameKind.cell) = false from rfl, show (NameKind.free == NameKind.cell) = false from rfl, show (NameKind.globalImplicit == NameKind.cell) = false from rfl, List.cons_append, List.nil_append, Bool.false_eq_true]
    k_steps
    unfold Hold
    refine wpAny_For ?_
    k_steps
    unfold Hold
    (with_reducible rename Fr _ _ _ _ => Fr1)
    (with_reducible rename News _ _ _ _ => Nr1)
    refine for_range2 (n := l.length - st) (m₀ := _) (news₀ := (L9 + 1 + 1, ok) :: (L9 + 1, ow) :: (L + 1, oc) :: (TL ++ PL)) (SeJ (fun k => if b then (if prB (l.getD k 0) then 0 else 1) else widthL l k) st l t ((L + 1, oc) :: (TL ++ PL)) L9) rfl Fr1 Nr1 (small_one (by omega) (by omega) (by omega) (by omega)) (range_len _ _) ?_ ?_ ?_ ?_ ?_
    · exact ⟨fun j hj => absurd hj (Nat.not_lt_zero _), ex_map rfl, _, _, _, _, rfl, dw, dk⟩
    · rintro i m nx ⟨_, _, _, _, _, _, rfl, _⟩; rfl
    · have hz := Heap.lt_size (Nr1 (L9 + 1 + 1, ok) (.head _)).1
      dsimp only at hz
      have hLc : L + 1 < L9 := hlt _ (List.mem_append.mpr (.inr m3))
      clear Fr1 Nr1
      rintro it hit i m nx h tk o tx hi ⟨hJ, ⟨u1, rfl⟩, ok', ow', x', y', rfl, dk', dw'⟩ F3 N3
      rw [← Int.natCast_add]
      dsimp only at N3 hit
      have f2 : L9 + 1 + 1 < it := Nat.lt_trans hz hit
      have f1 : L9 + 1 < it := Nat.lt_trans (Nat.lt_succ_self (L9 + 1)) f2
      have f3 : L9 + 1 < L9 + 1 + 1 := Nat.lt_succ_self (L9 + 1)
      have f4 : L + 1 < L9 + 1 := Nat.lt_trans hLc (Nat.lt_succ_self L9)
      have f5 : L + 1 < L9 + 1 + 1 := Nat.lt_trans f4 f3
      have hst2 : ((st + i : Nat) : Int).toNat = st + i := Int.toNat_natCast _
      k_steps
      all_goals first
        | (refine ⟨_, _, _, _, rfl, by k_asm, by k_asm, ?_, ex_map rfl, _, _, _, _, rfl, by assumption, by assumption⟩
           rw [hst2] at *
           intro j hj
           by_cases e : j = i
           · subst e; simp only [*, if_true, if_false, Bool.false_eq_true]; try omega
           · exact hJ j (by omega))
        | skip
      all_goals unfold Hold
      all_goals (with_reducible rename Fr _ _ _ _ => Fh)
      all_goals (with_reducible rename News _ _ _ _ => Nh)
      all_goals (obtain ⟨ow2, ok2, Nh, wv, tw, dW, dK, hwv, hwp, hws⟩ : ∃ (ow2 ok2 : Obj) (_ : News (hideAll s.heap (List.map (fun x => x.fst) (TL ++ PL))) L9 _ ((it, o) :: (L9 + 1 + 1, ow2) :: (L9 + 1, ok2) :: (L + 1, oc) :: (TL ++ PL))) (wv : Nat) (tw : Tok), ow2.data = .cell (some (.int (wv : Int) tw)) ∧ ok2.data = .cell (some (.int ((st + i : Nat) : Int) tx)) ∧ (if b = true then if prB (l.getD (st + i) 0) = true then 0 else 1 else widthL l (st + i)) = wv ∧ 0 < wv ∧ wv < 4 := by first | exact ⟨_, _, Nh, 1, _, by assumption, by assumption, by rw [hst2] at *; simp only [*, if_true, if_false, Bool.false_eq_true], by omega, by omega⟩ | exact ⟨_, _, Nh, _, _, by assumption, by assumption, by rw [hst2] at *; simp only [*, if_true, if_false, Bool.false_eq_true], by omega, widthL_lt _ _⟩)
      all_goals (refine hit_ok (TPP P2) (K := hd.heap_39 w.params) (P := P2) (Z := TL) (rest := (L9 + 1 + 1, ow2) :: (L9 + 1, ok2) :: (L + 1, oc) :: PL) (cells := [(L9 + 1, ok2), (L9 + 1 + 1, ow2)]) (i := ((st + i : Nat) : Int)) (j := ((st + i + wv : Nat) : Int)) (qual := qH) (clos := [(Str.ofString "width", L9 + 1 + 1), (Str.ofString "k", L9 + 1)]) Fh Nh ?_ T ?_ ?_ ?_ rfl rfl rfl rfl (.inr ⟨o1, .tail _ (.tail _ (.tail _ m4)), qS, CO1⟩) tp (fun _ t => t.2.2) (fun _ _ _ _ _ _ _ _ _ g x hP t => grow_h g x hP t) ?_ ?_)
      all_goals try (intro q hq; simp only [List.mem_append, List.mem_cons] at hq ⊢; (rcases hq with z | z | z | z | z <;> simp [z]); done)
      all_goals try (intro q hq; simp only [List.mem_append, List.mem_cons, List.mem_nil_iff, or_false] at hq ⊢; (rcases hq with z | z <;> simp [z]); done)
      all_goals try (intro q hq; simp only [List.mem_cons] at hq; (rcases hq with rfl | rfl | rfl | z; (exact isTab_cell dW); (exact isTab_cell dK); (exact isTab_cell d1); (exact hPT q z)); done)
      all_goals try (exact qH_eq _ _ _ _ _ rfl; done)
      all_goals try (intro HL sp c' o' P' doc ctv pm e1 e2 e3 e4; (exact span_kw _ _ _ _ _ _ _ _ HL sp c' o' P' doc ctv pm qH (L9 + 1) (L9 + 1 + 1) ok2 ow2 (st + i) wv tx tw _ _ _ _ _ e1 e2 e3 (e4 _ (.head _)) (e4 _ (.tail _ (.head _))) dK dW (by omega) (by omega)); done)
      all_goals (intro hit HL h' tk Z' m' tp' hL F' N' ad1 ad2 kR; show Q (.ref hit) _)
      all_goals (have hsz := Nat.le_of_lt Fh.ns.lt)
      all_goals (have ew : nx1 b l st = some (st + i, st + i + wv) := by unfold nx1; rw [firstW_some hi hJ (by rw [hwv]; omega)]; rw [hwv])
      all_goals (refine hfound.2 (st + i) (st + i + wv) ew hit HL h' tk Z' (kept_of hTP F' (nSub N' (fun q hq => ?_)) (by rw [hL9]; exact ad1.mono hsz)) tp' hL (News.has (nSub N' (fun q hq => ?_))) (fun q hq => ?_))
      all_goals try (simp only [List.mem_append, List.mem_cons] at hq ⊢; (rcases hq with z | z | z; (simp [z]); (simp [z]); (simp [kR q (recs_sub q z) (recs_isTab q z)])); done)
      all_goals try (simp only [List.mem_append, List.mem_cons]; simp [hq]; done)
      all_goals (rw [hL9]; rcases ad2 q hq with z | z | z)
      all_goals first | exact .inl z | exact .inr (Nat.le_trans hsz z) | (refine .inr ?_; simp only [List.mem_cons, List.mem_nil_iff, or_false] at z; (rcases z with rfl | rfl; (exact Nat.le_succ _); (exact Nat.le_trans (Nat.le_succ _) (Nat.le_succ _))))
    · rintro m nx h tk ⟨hJ, ⟨u1, rfl⟩, ok', ow', x', y', rfl, dk', dw'⟩ F3 N3
      clear Fr1 Nr1
      dsimp only
      k_steps
      exact hfound.1 (firstW_none hJ) _ _ TL (kept_of hTP (by k_asm) (nSub (by k_asm) (fun q hq => by simp only [List.mem_append, List.mem_cons] at hq ⊢; rcases hq with z | z | z; (simp [z]); (simp [z]); (simp [recs_sub q z]))) Adr.self) tp
    · passes_own
  have tp3 := grow_p G2 hZ2 hP2 rfl tp2
  rename Fr _ _ _ _ => F5
  rename News _ _ _ _ => N5
  have hc1 : (c1, o1) ∈ Z2 := G2.keepRec hZ2 hP2 _ G1.mem CO1.1
  have N6 := nSub N5 (l' := (pg, po) :: (d, od) :: (sf, fo) :: (t1, kdv_tup [.int 0 tk']) :: (L + 1, oc) :: [(c1, o1)]) (fun q hq => by
    simp only [List.mem_cons, List.mem_append, List.mem_nil_iff, or_false] at hq ⊢
    rcases hq with rfl | rfl | rfl | rfl | rfl | rfl
    · simp
    · simp
    · simp
    · simp
    · simp
    · simp [hc1])
  have hT : ∀ q ∈ (pg, po) :: (d, od) :: (sf, fo) :: (t1, kdv_tup [.int 0 tk']) :: (L + 1, oc) :: [(c1, o1)], isTab q.2 = false := fun q hq => by
    simp only [List.mem_cons, List.mem_nil_iff, or_false] at hq
    rcases hq with rfl | rfl | rfl | rfl | rfl | rfl
    · rw [← hpo]; rfl
    · rw [← hdo]; rfl
    · exact hfoT
    · rfl
    · exact isTab_cell d1
    · exact CO1.1
  have hfn : FnIn sf ((pg, po) :: (d, od) :: (sf, fo) :: (t1, kdv_tup [.int 0 tk']) :: (L + 1, oc) :: [(c1, o1)]) := by
    rw [← hfo]; exact ⟨_, _, _, _, .tail _ (.tail _ (.head _))⟩
  have hSO := SO _ (by simp) (by simp) (by simp) (by simp) hT
  clear SO hfo
  subst hpo
  subst hdo
  refine hret pg _ P2 _ _ Z2 (kept_of0 hh F5 N5 (fun q hq => by simp [hq]) (fun q hq hf => ?_) ?_) tp3 ⟨d, _, _, _, _, _, sf, .head _, .tail _ (.head _), hT, hfn, hSO⟩ (News.has N6) ?_
  · have := G2.keepRec hZ2 hP2 _ (G1.keepRec hZ1 hP _ hq hf) hf
    simp [this]
  · rw [hL]
    exact Adr.trans (TL := Z1) (G1.adr.mono (Nat.le_of_lt hn1)) (Nat.le_of_lt hn2) G2.adr
  · intro q hq
    simp only [List.mem_cons, List.mem_nil_iff, or_false] at hq
    have lpg : L ≤ pg := Nat.le_trans (Nat.le_of_lt hn2) lg
    rcases hq with rfl | rfl | rfl | rfl | rfl | rfl
    · exact .inr lpg
    · exact .inr (Nat.le_trans lpg (Nat.le_of_lt ld))
    · exact .inr (Nat.le_trans (Nat.le_of_lt hn1) lf)
    · exact .inr (Nat.le_trans (Nat.le_succ _) (Nat.le_of_lt (l1 (L + 1, oc) (.head _))))
    · exact .inr (Nat.le_succ _)
    · exact G1.adr.mono (Nat.le_of_lt hn1) _ G1.mem
end
section
open PySem PySem.W PyProof.Rows
set_option Elab.async false
set_option maxRecDepth 100000
def rdL : List Nat → List Nat
  | [94, m] => [rd2 m]
  | [33, c] => [altN c]
  | [33, 94, m] => [altN (rd2 m)]
  | x => x
def rd1 (b : Bool) (x : List Nat) : List Nat := if b then uncL (x.getD 0 0) else rdL x
def run1 (b : Bool) : Nat → List Nat → Int → List Nat
  | 0, l, _ => l
  | n + 1, l, col => match srOf (nx1 b l) col with
    | none => l
    | some (i, j) => run1 b n (l.take i ++ rd1 b ((l.drop i).take (j - i)) ++ l.drop j) (i : Int)
theorem firstW_in {f : Nat → Nat} : ∀ {n k i j : Nat}, firstW f n k = some (i, j) → k ≤ i ∧ i < j ∧ j = i + f i ∧ i < k + n
  | 0, _, _, _, h => by cases h
  | n + 1, k, i, j, h => by
    unfold firstW at h
    split at h
    · have := firstW_in h; omega
    · rename_i hk
      cases h
      refine ⟨Nat.le_refl _, by omega, rfl, by omega⟩
theorem srGo_mem {nx : Nat → Option (Nat × Nat)} {col : Int} : ∀ {k : Nat} {f : Option (Nat × Nat)} {i j : Nat} {r : Nat × Nat}, srGo nx col k f i j = some r → f = some r ∨ (r.1 : Int) < col ∧ (r.2 : Int) ≤ col ∧ ((i, j) = r ∨ ∃ st, nx st = some r)
  | 0, f, _, _, r, h => .inl h
  | k + 1, f, i, j, r, h => by
    unfold srGo at h
    split at h
    · rename_i hc
      cases hn : nx (if i = j then j + 1 else j) with
      | none => rw [hn] at h; cases h; exact .inr ⟨hc.1, hc.2, .inl rfl⟩
      | some q =>
        obtain ⟨a, b⟩ := q
        rw [hn] at h
        dsimp only at h
        rcases srGo_mem h with z | ⟨z1, z2, z⟩
        · cases z; exact .inr ⟨hc.1, hc.2, .inl rfl⟩
        · rcases z with z | z
          · exact .inr ⟨z1, z2, .inr ⟨_, z ▸ hn⟩⟩
          · exact .inr ⟨z1, z2, .inr z⟩
    · exact .inl h
theorem srOf_mem {nx : Nat → Option (Nat × Nat)} {col : Int} {i j : Nat} (h : srOf nx col = some (i, j)) : (i : Int) < col ∧ (j : Int) ≤ col ∧ ∃ st, nx st = some (i, j) := by
  unfold srOf at h
  cases hn : nx 0 with
  | none => rw [hn] at h; cases h
  | some q =>
    obtain ⟨a, b⟩ := q
    rw [hn] at h
    dsimp only at h
    rcases srGo_mem h with z | ⟨z1, z2, z⟩
    · cases z
    · rcases z with z | z
      · exact ⟨z1, z2, 0, z ▸ hn⟩
      · exact ⟨z1, z2, z⟩
theorem nx1_in {b : Bool} {l : List Nat} {st i j : Nat} (h : nx1 b l st = some (i, j)) : st ≤ i ∧ i < j ∧ j = i + (if b then (if prB (l.getD i 0) then 0 else 1) else widthL l i) ∧ i < l.length := by
  have := firstW_in h
  refine ⟨this.1, this.2.1, this.2.2.1, ?_⟩
  omega
theorem nx1_b {b : Bool} {l : List Nat} (hl : l.length < 300) : ∀ st i j, nx1 b l st = some (i, j) → st ≤ i ∧ i ≤ j ∧ j < 500 := fun st i j h => by
  have := nx1_in h
  have hw := widthL_lt l i
  refine ⟨this.1, by omega, ?_⟩
  have h3 := this.2.2.1
  split at h3 <;> (try split at h3) <;> omega
theorem part_t {l : List Nat} {i j : Nat} (h : srOf (nx1 true l) ((col : Int)) = some (i, j)) : ∃ c, l[i]? = some c ∧ (l.drop i).take (j - i) = [c] ∧ j = i + 1 := by
  obtain ⟨_, _, st, h⟩ := srOf_mem h
  obtain ⟨h1, h2, h3, h4⟩ := nx1_in h
  simp only [if_true] at h3
  have hj : j = i + 1 := by split at h3 <;> omega
  refine ⟨l[i], by simp [h4], ?_, hj⟩
  rw [hj, show i + 1 - i = 1 by omega, List.drop_eq_getElem_cons h4]
  rfl
theorem part_f {l : List Nat} {col : Int} {i j : Nat} (h : srOf (nx1 false l) col = some (i, j)) : (j ≤ l.length ∧ i < j) ∧ ((∃ m, (l.drop i).take (j - i) = [94, m]) ∨ (∃ c, (l.drop i).take (j - i) = [33, c]) ∨ ∃ m, (l.drop i).take (j - i) = [33, 94, m]) := by
  obtain ⟨_, _, st, h⟩ := srOf_mem h
  obtain ⟨h1, h2, h3, h4⟩ := nx1_in h
  simp only [Bool.false_eq_true, if_false] at h3
  have hd : l.drop i = l[i] :: l.drop (i + 1) := List.drop_eq_getElem_cons h4
  have hg : l.getD i 0 = l[i] := by simp [h4]
  have hlen : (l.drop (i + 1)).length = l.length - (i + 1) := List.length_drop
  unfold widthL at h3
  rw [hg] at h3
  dsimp only at h3
  by_cases hb : l[i] = 33 ∧ i + 1 < l.length
  · rw [if_pos hb] at h3
    obtain ⟨c, r, hr⟩ : ∃ c r, l.drop (i + 1) = c :: r := ⟨_, _, List.drop_eq_getElem_cons hb.2⟩
    rw [hr] at hd h3 hlen
    simp only [List.length_cons] at hlen
    split at h3
    · rename_i q
      obtain ⟨q1, q2, q3⟩ := q
      cases r with
      | nil => simp at q1
      | cons m r =>
        simp at q2
        refine ⟨⟨by simp at hlen; omega, h2⟩, .inr (.inr ⟨m, ?_⟩)⟩
        rw [h3, hd, hb.1, q2, show i + (1 + 2) - i = 3 by omega]; rfl
    · refine ⟨⟨by omega, h2⟩, .inr (.inl ⟨c, ?_⟩)⟩
      rw [h3, hd, hb.1, show i + 2 * 1 - i = 2 by omega]; rfl
  · rw [if_neg hb] at h3
    split at h3
    · rename_i q
      obtain ⟨q1, q2, q3⟩ := q
      rw [Nat.add_zero, hd] at q1 q2
      cases r : l.drop (i + 1) with
      | nil => rw [r] at q1; simp at q1
      | cons m r' =>
        have q2 : l[i] = 94 := q2
        rw [r] at hd hlen
        simp at hlen
        refine ⟨⟨by omega, h2⟩, .inl ⟨m, ?_⟩⟩
        rw [h3, hd, q2, show i + (0 + 2) - i = 2 by omega]; rfl
    · omega
theorem rd1_len (b : Bool) (x : List Nat) (h : x.length ≤ 3) : (rd1 b x).length ≤ 3 := by
  unfold rd1
  split
  · exact unc_len _
  · unfold rdL; split <;> first | simp | exact h
theorem ex_map4 {m : Str → Option Value} {x1 x2 x3 x4 : Str} {v1 v2 v3 v4 : Value} (h1 : m x1 = some v1) (h2 : m x2 = some v2) (h3 : m x3 = some v3) (h4 : m x4 = some v4) :
    ∃ u : Str → Option Value, m = fun y => if y = x1 then some v1 else if y = x2 then some v2 else if y = x3 then some v3 else if y = x4 then some v4 else u y := ⟨m, funext fun y => by
  by_cases e1 : y = x1
  · subst e1; simp [h1]
  by_cases e2 : y = x2
  · subst e2; simp [e1, h2]
  by_cases e3 : y = x3
  · subst e3; simp [e1, e2, h3]
  by_cases e4 : y = x4
  · subst e4; simp [e1, e2, e3, h4]
  simp [e1, e2, e3, e4]⟩
section
variable {w : World} {p : Program} {loose : List Str} {mean : ExcName → Option Value} {mg mb : Str → Option Value}
variable {dp un : Nat} {fr : Option (List Env)} {gd : Option (List Code)} {h₀ : Heap} {L : Addr} {m : Str → Option Value} {news : Led} {s : Shared} {E : Value → Shared → Prop} {Q : Value → Shared → Prop} {A0 : List Addr} {n0 : Nat}
theorem use_sr {PL : Led} {TP : Led → Prop} {pg : Addr} {nx : List Nat → Nat → Option (Nat × Nat)} (TL rest : Led) {l : List Nat} {t u : Tok} {col : Int}
    (hP : ProgL PySem.Challenge.rw_mr0049_01.prog w (hd.heap_39 w.params) p loose mean mg mb PL TP pg nx) (hl : l.length < 300) (hc1 : col < 400) (hc0 : -5 < col) (hb : ∀ st a b, nx l st = some (a, b) → st ≤ a ∧ a ≤ b ∧ b < 500)
    (F : Fr h₀ L s.heap m) (X : (hd.heap_39 w.params).In h₀) (N : News h₀ L s.heap news) (T : Top p loose mean mg mb h₀) (hd' : dp + 70 < 1000) (hu : un + 700 < 9900) (tp : TP TL) (hTL : ∀ q ∈ TL, q ∈ news) (hPL : ∀ q ∈ PL, q ∈ news) (hr : ∀ q ∈ rest, q ∈ news ∧ isTab q.2 = false)
    (hn : n0 ≤ h₀.objs.size) (had : Adr A0 n0 TL)
    (h1 : srOf (nx l) col = none → ∀ (h' : Heap) (tk : Nat) (TL' : Led), TP TL' → Adr A0 n0 TL' → Fr h₀ L h' m → News h₀ L h' (TL' ++ (PL ++ rest)) → Q .none { s with heap := h', toks := tk })
    (h2 : ∀ i j, srOf (nx l) col = some (i, j) → ∀ (hit : Addr) (HL : Led) (h' : Heap) (tk : Nat) (TL' : Led), TP TL' → Adr A0 n0 TL' → Adr A0 n0 HL → HitL PySem.Challenge.rw_mr0049_01.prog w (hd.heap_39 w.params) p loose mean mg mb HL hit (i : Int) (j : Int) → Fr h₀ L h' m → News h₀ L h' (TL' ++ (PL ++ (HL ++ rest))) → Q (.ref hit) { s with heap := h', toks := tk }) :
    wpAny (model PySem.Challenge.rw_mr0049_01.prog w) (arA dp un fr gd) (call (.ref 56) [.ref pg, .str (S l) t, .int col u]) Q E s := by
  have NT := nSub N hTL
  have NP := nSub N hPL
  have NR := nSub N fun q hq => (hr q hq).1
  have hPT : ∀ q ∈ PL, isTab q.2 = false := by
    obtain ⟨_, _, _, _, _, _, _, _, _, z, _, _⟩ := hP; exact z
  have hz : n0 ≤ s.heap.objs.size := Nat.le_trans hn (Nat.le_trans F.above (Nat.le_of_lt F.ns.lt))
  refine sr_ok w p loose mean mg mb PL TP pg nx hP l hl t u col hc1 hc0 hb dp un fr gd s Q E TL (X.keeps (keeps_hide F (nApp NT NP))) (T.keeps (keeps_hide F (nApp NT NP))) hd' hu tp ((News.has NT).app (News.has NP)) ⟨fun e h' tk TL' k t' => ?_, fun i j e hit HL h' tk TL' k t' hH hh ad => ?_⟩
  · obtain ⟨a, b, c⟩ := k.news F NT (nApp NP NR) fun q hq => .inr ((List.mem_append.mp hq).elim (hPT q) fun z => (hr q z).2)
    exact h1 e h' tk TL' t' (had.trans hz k.adr) a (nApp b c)
  · obtain ⟨a, b, c⟩ := k.news F NT (nApp NP NR) fun q hq => .inr ((List.mem_append.mp hq).elim (hPT q) fun z => (hr q z).2)
    have d := fresh_news F NT hh ad
    exact h2 i j e hit HL h' tk TL' t' (had.trans hz k.adr) (had.trans hz ad) hH a (nApp b (nApp (nSub c fun q hq => List.mem_append.mpr (.inl hq)) (nApp d (nSub c fun q hq => List.mem_append.mpr (.inr hq)))))
theorem use_lawprog {b : Bool} (Z rest : Led) 
    (F : Fr h₀ L s.heap m) (X : (hd.heap_39 w.params).In h₀) (N : News h₀ L s.heap news) (T : Top p loose mean mg mb h₀) (C : CodeHd h₀ 95 91) (hd' : dp + 70 < 1000) (hu : un + 700 < 9900) (tp : TP0 Z) (hTL : ∀ q ∈ Z, q ∈ news) (hr : ∀ q ∈ rest, q ∈ news ∧ isTab q.2 = false)
    (hn : n0 ≤ h₀.objs.size) (had : Adr A0 n0 Z)
    (h : ∀ pg PL P' h' tk Z', TPP P' Z' → ProgL PySem.Challenge.rw_mr0049_01.prog w (hd.heap_39 w.params) p loose mean mg mb PL (TPP P') pg (nx1 b) → Adr A0 n0 Z' → Adr A0 n0 PL → Fr h₀ L h' m → News h₀ L h' (Z' ++ (PL ++ rest)) → Q (.ref pg) { s with heap := h', toks := tk }) :
    wpAny (model PySem.Challenge.rw_mr0049_01.prog w) (arA dp un fr gd) (call (.ref 96) [.bool b]) Q E s := by
  have NT := nSub N hTL
  have NR := nSub N fun q hq => (hr q hq).1
  have hz : n0 ≤ s.heap.objs.size := Nat.le_trans hn (Nat.le_trans F.above (Nat.le_of_lt F.ns.lt))
  refine prog_ok w p loose mean mg mb b dp un fr gd s Q E Z (X.keeps (keeps_hide F NT)) (T.keeps (keeps_hide F NT)) hd' hu (News.has NT) (C.keeps (keeps_hide F NT)) tp fun pg PL P' h' tk Z' k tp' hP hh ad => ?_
  obtain ⟨a, b, c⟩ := k.news F NT NR fun q hq => .inr (hr q hq).2
  have d := fresh_news F NT hh ad
  exact h pg PL P' h' tk Z' tp' hP (had.trans hz k.adr) (had.trans hz ad) a (nApp b (nApp d c))
end
end
section
open PySem PySem.W PyProof.Rows
set_option Elab.async false
set_option maxRecDepth 100000
set_option maxHeartbeats 40000000

theorem ln_16 : True := by
  k_with_none
  k_with "mI" => (first | omega | (simp only [List.length_cons, List.length_nil, List.length_append, List.length_take, List.length_drop, List.length_replicate, List.length_map, List.length_range, S_len, sizeLine_eq]; omega) | (simp only [List.length_cons, List.length_nil, List.length_append, List.length_take, List.length_drop, List.length_replicate, List.length_map, List.length_range, S_len, sizeLine_eq] at *; omega))
  k_with "mItem" => (first
  | ((with_reducible show wpAny _ _ (subscriptTail _ _ (Value.str (S (_ :: _)) _) (Value.int 0 _)) _ _ _); refine r_it0 (by walk_at "mI") ?_)
  | ((with_reducible show wpAny _ _ (subscriptTail _ _ (Value.str (S (_ :: _ :: _)) _) (Value.int 1 _)) _ _ _); refine r_it1 (by walk_at "mI") ?_)
  | ((with_reducible show wpAny _ _ (subscriptTail _ _ (Value.str (S _) _) (Value.int _ _)) _ _ _); refine r_item (by walk_at "mI") (by walk_at "mI") (by walk_at "mI") ?_))
  k_with "mSlice" => (((with_reducible rename Fr _ _ _ _ => F'); (with_reducible rename News _ _ _ _ => N'); (first
  | ((with_reducible show wpAny _ _ (subscriptTail _ (Expr.Slice (some _) none none _) (Value.str (S (_ :: _)) _) _) _ _ _); refine r_sl1 (s := ⟨_, _, _, _, _⟩) F' N' (by walk_at "mI") ?_)
  | refine r_ss (s := ⟨_, _, _, _, _⟩) F' N' (by walk_at "mI") (by walk_at "mI") (by walk_at "mI") ?_
  | refine r_sn (s := ⟨_, _, _, _, _⟩) F' N' (by walk_at "mI") (by walk_at "mI") ?_
  | refine r_ns (s := ⟨_, _, _, _, _⟩) F' N' (by walk_at "mI") (by walk_at "mI") ?_); intro _ _ _ _ _))
  k_with "subscriptTail" => (first | walk_at "mItem" | walk_at "mSlice")
  k_with "subscriptTail Name Name str int" => (walk_at "mItem")
  k_with "subscriptTail Name Constant str int" => (walk_at "mItem")
  k_with "subscriptTail Name Slice str ref" => (walk_at "mSlice")
  k_with "eval Constant str" => ((with_reducible first | refine r_const lit_bang ?_ | refine r_const lit_hat ?_ | refine r_const lit_q ?_ | refine r_const lit_thorn ?_ | refine r_const lit_del ?_ | refine r_const lit_ff ?_ | refine r_const lit_A ?_ | refine r_const lit_hq ?_ | refine r_const lit_h9 ?_ | refine r_const lit_sp ?_ | refine r_const lit_tilde ?_ | refine r_const lit_fe ?_ | refine r_const lit_hT ?_ | refine r_const lit_e ?_ | refine r_const lit_marks ?_))
  k_with "call builtin:len" => (first
  | ((with_reducible show wpAny _ _ (call (Value.builtin "len") [Value.str (S [_]) _]) _ _ _); refine r_len1 ?_)
  | ((with_reducible show wpAny _ _ (call (Value.builtin "len") [Value.str (S [_, _]) _]) _ _ _); refine r_len2 ?_)
  | ((with_reducible show wpAny _ _ (call (Value.builtin "len") [Value.str (S [_, _, _]) _]) _ _ _); refine r_len3 ?_)
  | ((with_reducible show wpAny _ _ (call (Value.builtin "len") [Value.str (S _) _]) _ _ _); refine r_len (by walk_at "mI") ?_))
  k_with "compareOp Eq str str" => (((with_reducible show wpAny _ _ (compareOp _ (Value.str (S _) _) (Value.str (S _) _)) _ _ _); refine r_eq ?_))
  k_with "compareOp NotEq str str" => (((with_reducible show wpAny _ _ (compareOp _ (Value.str (S _) _) (Value.str (S _) _)) _ _ _); refine r_ne ?_))
  k_with "compareOp In str str" => (((with_reducible show wpAny _ _ (compareOp _ (Value.str (S _) _) (Value.str (S _) _)) _ _ _); refine r_in ?_))
  k_with "compareOp Gt str str" => (((with_reducible show wpAny _ _ (compareOp _ (Value.str (S _) _) (Value.str (S _) _)) _ _ _); refine r_gt ?_))
  k_with "compareOp LtE str str" => (((with_reducible show wpAny _ _ (compareOp _ (Value.str (S _) _) (Value.str (S _) _)) _ _ _); refine r_le ?_))
  k_with "binaryOp Add str str" => (((with_reducible show wpAny _ _ (binaryOp _ (Value.str (S _) _) (Value.str (S _) _)) _ _ _); refine r_add ?_ (by walk_at "mI"); intro _ _))
  k_with "inplaceOp Add str str" => (((with_reducible show wpAny _ _ (inplaceOp _ (Value.str (S _) _) (Value.str (S _) _)) _ _ _); refine r_iadd ?_ (by walk_at "mI"); intro _ _))
  k_with "call builtin:ord" => (((with_reducible show wpAny _ _ (call (Value.builtin "ord") [Value.str (S _) _]) _ _ _); refine r_ord ?_))
  k_with "call builtin:chr" => ((refine r_chr (by walk_at "mChr") (by walk_at "mChr") ?_))
  k_with "mChr" => (first | omega | (split <;> omega))
  k_with "mRoom" => (((try simp only [depth_mark, depth_under_make, depth_under_kw, depth_in1, depth_deeper, depth_caller, units_in1, units_deeper, Around.mark_units, units_caller]); (try dsimp only [arA]); omega))
  k_with "mClean" => (((try clear hret); (repeat (with_reducible rename Fr _ _ _ _ => x9; clear x9)); (repeat (with_reducible rename News _ _ _ _ => x9; clear x9)); (repeat (with_reducible rename Below _ _ _ _ => x9; clear x9)); (repeat (with_reducible rename Top _ _ _ _ _ _ => x9; clear x9)); (repeat (with_reducible rename Frag.In _ _ => x9; clear x9))))
  k_with "mUse2" => (((intro t9 h9 tk9 F9 N9); (try dsimp only); (try k_fold)))
  k_with "binaryOp Mod int int" => (refine r_mod (by decide) ?_)
  k_with "binaryOp FloorDiv int int" => (refine r_fdiv (by decide) (by decide) ?_)
  k_with "binaryOp Mult str int" => (((with_reducible show wpAny _ _ (binaryOp _ (Value.str (S [_]) _) (Value.int _ _)) _ _ _); refine r_mul (by walk_at "mI") (by walk_at "mI") ?_; intro _ _))
  k_with "exec For" => (refine hold ?_)
  k_with "exec For Name ListComp cons nil" => (refine hold ?_)
  k_with "exec For Name Call cons nil" => (refine hold ?_)
  k_with "call ref" => ((k_here; (with_reducible show wpAny _ _ (call (Value.ref 21) [Value.str (S [_]) _]) _ _ _); k_dflt (refine PCl.use (ctoi_s _ _ _ _ _ _ _ _ ) (by k_asm) (by k_asm) (by k_asm) (by k_asm) (by walk_at "mRoom") (by walk_at "mRoom") ?_; k_whole); walk_at "mUse2"))
  k_with "call ref" => ((k_here; (with_reducible show wpAny _ _ (call (Value.ref 21) [Value.int _ _]) _ _ _); k_dflt (refine PCl.use (ctoi_i _ _ _ _ _ _ _ _ ) (by k_asm) (by k_asm) (by k_asm) (by k_asm) (by walk_at "mRoom") (by walk_at "mRoom") ?_; k_whole); walk_at "mUse2"))
  k_with "call ref" => ((k_here; (with_reducible show wpAny _ _ (call (Value.ref 28) [Value.str (S [_]) _]) _ _ _); k_dflt (refine PCl.use (isprint_s _ _ _ _ _ _ _ _ ) (by k_asm) (by k_asm) (by k_asm) (by k_asm) (by walk_at "mRoom") (by walk_at "mRoom") ?_; k_whole); walk_at "mUse2"))
  k_with "call ref" => ((k_here; (with_reducible show wpAny _ _ (call (Value.ref 28) [Value.int _ _]) _ _ _); k_dflt (refine PCl.use (isprint_i _ _ _ _ _ _ _ _ ) (by k_asm) (by k_asm) (by k_asm) (by k_asm) (by walk_at "mRoom") (by walk_at "mRoom") ?_; k_whole); walk_at "mUse2"))
  k_with "call ref" => ((k_here; (with_reducible show wpAny _ _ (call (Value.ref 35) [Value.str (S [_]) _]) _ _ _); k_dflt (refine PCl.use (ctrl_s _ _ _ _ _ _ _ _ ) (by k_asm) (by k_asm) (by k_asm) (by k_asm) (by walk_at "mRoom") (by walk_at "mRoom") ?_; k_whole); walk_at "mUse2"))
  k_with "call ref" => ((k_here; (with_reducible show wpAny _ _ (call (Value.ref 42) [Value.str (S [_]) _]) _ _ _); k_dflt (refine PCl.use (alt_s _ _ _ _ _ _ _ _ (by walk_at "mI")) (by k_asm) (by k_asm) (by k_asm) (by k_asm) (by walk_at "mRoom") (by walk_at "mRoom") ?_; k_whole); walk_at "mUse2"))
  k_with "call ref" => ((k_here; (with_reducible show wpAny _ _ (call (Value.ref 49) [Value.str (S [_]) _]) _ _ _); k_dflt (refine PCl.use (unctrl_s _ _ _ _ _ _ _ _ ) (by k_asm) (by k_asm) (by k_asm) (by k_asm) (by walk_at "mRoom") (by walk_at "mRoom") ?_; k_whole); walk_at "mUse2"))
  k_with "call ref" => ((k_here; (with_reducible show wpAny _ _ (call (Value.ref 70) _) _ _ _); k_dflt (refine PCl.use (marks_ok _ _ _ _ _ _  ) (by k_asm) (by k_asm) (by k_asm) (by k_asm) (by walk_at "mRoom") (by walk_at "mRoom") ?_; k_whole); walk_at "mUse2"))
  k_with "call ref" => ((k_here; (with_reducible show wpAny _ _ (call (Value.ref 82) [Value.str (S _) _, Value.int _ _]) _ _ _); k_dflt (refine PCl.use (width_ok _ _ _ _ _ _ _ _ _ _ (by walk_at "mI") (by walk_at "mI") (by walk_at "mI")) (by k_asm) (by k_asm) (by k_asm) (by k_asm) (by walk_at "mRoom") (by walk_at "mRoom") ?_; k_whole); walk_at "mUse2"))
  k_with "call ref" => ((k_here; (with_reducible show wpAny _ _ (call (Value.ref 89) [Value.str (S [94, _]) _]) _ _ _); k_dflt (refine PCl.use (read_2 _ _ _ _ _ _ _ _ ) (by k_asm) (by k_asm) (by k_asm) (by k_asm) (by walk_at "mRoom") (by walk_at "mRoom") ?_; k_whole); walk_at "mUse2"))
  k_with "call ref" => ((k_here; (with_reducible show wpAny _ _ (call (Value.ref 89) [Value.str (S [_]) _]) _ _ _); k_dflt (refine PCl.use (read_0 _ _ _ _ _ _ _ _ ) (by k_asm) (by k_asm) (by k_asm) (by k_asm) (by walk_at "mRoom") (by walk_at "mRoom") ?_; k_whole); walk_at "mUse2"))
  trivial
structure RunI (b : Bool) (TL : Led) (P' : Addr) (A0 : List Addr) (n0 : Nat) (R : List Nat) (n : Nat) (l : List Nat) (col : Nat) : Prop where
  tp : TPP P' TL
  adT : Adr A0 n0 TL
  fuel : col < n
  le : col ≤ l.length
  len : l.length + 3 * col < 200
  small : b = false → ∀ c ∈ l.take col, c < 1000
  res : run1 b n l col = R
def RunJ (b : Bool) (PL CL : Led) (P' : Addr) (A0 : List Addr) (n0 : Nat) (R : List Nat) (pg : Addr) (n : Nat) (m : Str → Option Value) (news : Led) : Prop :=
  ∃ TL l col, RunI b TL P' A0 n0 R n l col ∧ news = TL ++ (PL ++ CL) ∧ ∃ tl tc, ∃ u : Str → Option Value, m = fun y => if y = Str.ofString "line" then some (.str (S l) tl) else if y = Str.ofString "col" then some (.int (col : Int) tc) else
      if y = Str.ofString "shows" then some (.bool b) else if y = Str.ofString "prog" then some (.ref pg) else u y
theorem run1_none {b : Bool} {n : Nat} {l : List Nat} {col : Int} (h : srOf (nx1 b l) col = none) : run1 b n l col = l := by
  cases n with
  | zero => rfl
  | succ n => unfold run1; rw [h]
theorem run1_some {b : Bool} {n : Nat} {l : List Nat} {col : Int} {i j : Nat} (h : srOf (nx1 b l) col = some (i, j)) : run1 b (n + 1) l col = run1 b n (l.take i ++ rd1 b ((l.drop i).take (j - i)) ++ l.drop j) (i : Int) := by
  conv => lhs; unfold run1
  rw [h]
theorem run_next {b : Bool} {TL TL' : Led} {P' : Addr} {A0 : List Addr} {n0 : Nat} {R : List Nat} {n : Nat} {l x y : List Nat} {col i j : Nat} (h : RunI b TL P' A0 n0 R (n + 1) l col) (e : srOf (nx1 b l) (col : Int) = some (i, j)) (tp : TPP P' TL') (ad : Adr A0 n0 TL')
    (hx : (l.drop i).take (j - i) = x) (hy : y = l.take i ++ rd1 b x ++ l.drop j) (hj : i < j ∧ j ≤ l.length) (hx3 : x.length ≤ 3) : RunI b TL' P' A0 n0 R n y i := by
  obtain ⟨e1, e2, _⟩ := srOf_mem e
  have := rd1_len b x hx3
  have hi : i ≤ l.length := by omega
  refine ⟨tp, ad, by have := h.fuel; omega, ?_, ?_, ?_, ?_⟩
  · rw [hy]; simp; omega
  · have := h.len
    rw [hy]; simp; omega
  · intro hb c hc
    rw [hy, List.append_assoc, List.take_append_of_le_length (by simp; omega), List.take_take, Nat.min_self] at hc
    exact h.small hb c (by
      have : l.take i = (l.take col).take i := by rw [List.take_take]; congr 1; omega
      rw [this] at hc; exact List.mem_of_mem_take hc)
  · rw [← h.res, run1_some e, hx, hy]
theorem mem_part {l : List Nat} {i j col c : Nat} (h : c ∈ (l.drop i).take (j - i)) (hj : j ≤ col) : c ∈ l.take col := by
  rw [← List.drop_take] at h
  have h2 := List.mem_of_mem_drop h
  have : l.take j = (l.take col).take j := by rw [List.take_take]; congr 1; omega
  rw [this] at h2; exact List.mem_of_mem_take h2

theorem ln_17 : True := by
  k_with "mDrop" => (((with_reducible rename Fr _ _ _ _ => y1); (with_reducible rename News _ _ _ _ => y2); revert y1 y2; (repeat (with_reducible rename Fr _ _ _ _ => x9; clear x9)); (repeat (with_reducible rename News _ _ _ _ => x9; clear x9)); intro y1 y2))
  k_with "mSub" => ((intro q hq; simp only [List.mem_append, List.mem_cons, hq, true_or, or_true]))
  k_with "getMethod ref" => ((refine use_hit (by assumption) (by k_asm) (by walk_at "mSub") ?_; intro _ _ _; (try dsimp only)))
  k_with "FnAt" => ((refine FnIn.at (by assumption) (by k_asm) (by walk_at "mSub")))
  k_with "callWith ref" => ((k_here; k_dflt (first
  | (refine callWith_F (by walk_at "FnAt") ?_; k_whole)
  | (refine callWith_F0 (by walk_at "FnAt") ?_; k_whole; try dsimp only [List.nil_append, List.cons_append]))))
  k_with "truthy ref" => ((refine use_true (by assumption) (by k_asm) (by walk_at "mSub") ?_))
  k_with "call ref" => (((first | (with_reducible show wpAny _ _ (call (Value.ref 96) _) _ _ _) | (with_reducible show wpAny _ _ (call (Value.ref 56) _) _ _ _) | (with_reducible show wpAny _ _ (call (Value.ref 49) [Value.str (S (List.take _ _)) _]) _ _ _) | (with_reducible show wpAny _ _ (call (Value.ref 89) [Value.str (S (List.take _ _)) _]) _ _ _)); refine hold ?_))
  k_with "call ref" => ((k_here; (with_reducible show wpAny _ _ (call (Value.ref _) []) _ _ _); k_dflt (refine use_span (by assumption) (by k_asm) (by k_asm) (by k_asm) (by k_asm) (by walk_at "mRoom") (by walk_at "mRoom") (by walk_at "mSub") ?_; k_whole); (intro T9 ti9 tj9 h9 tk9 F9 N9); (try dsimp only)))
  k_with "exec While" => (refine hold ?_)
  trivial
theorem read_tok (w : World) (p : Program) (loose : List Str) (mean : ExcName → Option Value) (mg mb : Str → Option Value) (x : List Nat) (t : Tok) (hx : (∃ m, x = [94, m]) ∨ (∃ c, x = [33, c]) ∨ ∃ m, x = [33, 94, m]) (hs : ∀ c ∈ x, c < 1000) :
  PCl 25 PySem.Challenge.rw_mr0049_01.prog w (hd.heap_39 w.params) p loose mean mg mb 89 [.str (S x) t] (fun t => .str (S (rdL x)) t) := by
  rcases hx with ⟨m, rfl⟩ | ⟨m, rfl⟩ | ⟨m, rfl⟩
  · intro dp un fr gd s Q E X T h1 h2 h3
    exact read_2 w p loose mean mg mb m t dp un fr gd s Q E X T (by omega) (by omega) h3
  · have e : rdL [33, m] = [altN m] := by unfold rdL; split <;> simp_all
    rw [e]
    exact read_1 w p loose mean mg mb m t (hs m (by simp))
  · exact read_3 w p loose mean mg mb m t (hs m (by simp))
theorem rdL_len {x : List Nat} (hx : (∃ m, x = [94, m]) ∨ (∃ c, x = [33, c]) ∨ ∃ m, x = [33, 94, m]) : x.length ≤ 3 ∧ (rdL x).length ≤ 3 := by
  rcases hx with ⟨m, rfl⟩ | ⟨m, rfl⟩ | ⟨m, rfl⟩
  · exact ⟨by simp, by simp [rdL]⟩
  · refine ⟨by simp, ?_⟩
    have e : rdL [33, m] = [altN m] := by unfold rdL; split <;> simp_all
    rw [e]; simp
  · exact ⟨by simp, by simp [rdL]⟩

theorem run_ok (w : World) (p : Program) (loose : List Str) (mean : ExcName → Option Value) (mg mb : Str → Option Value) (b : Bool) (l : List Nat) (col : Nat) (t u : Tok) (hcol : col ≤ l.length) (hl : l.length + 3 * col < 200) (hsm : b = false → ∀ c ∈ l.take col, c < 1000)
    (dp un : Nat) (fr : Option (List Env)) (gd : Option (List Code)) (s : Shared) (Q E : Value → Shared → Prop) (Z : Led)
    (X : (hd.heap_39 w.params).In (hideAll s.heap (Z.map (·.1)))) (T : Top p loose mean mg mb (hideAll s.heap (Z.map (·.1)))) (hdp : dp + 90 < 1000) (hun : un + 900 < 9900) (hh : Has Z s.heap) (C : CodeHd (hideAll s.heap (Z.map (·.1))) 95 91) (tp : TP0 Z)
    (hret : ∀ t h' tk Z', Kept s.heap Z h' Z' → TP0 Z' → Q (.str (S (run1 b (col + 1) l col)) t) { s with heap := h', toks := tk }) :
    wpAny (model PySem.Challenge.rw_mr0049_01.prog w) (arA dp un fr gd) (call (.ref 103) [.str (S l) t, .int (col : Int) u, .bool b]) Q E s := by
  w_top off
  revert X T hret
  k_fill
  intro X T hret
  refine wpAny_call ?_
  k_dflt (refine' code_tab Z hh ?k3 ?k5 ?k6 ?k7 ?k8 ?k9 ?kB ?_ ?c2 ?c3 ?c4 ?c5; (case k3 => assumption); (case k5 => assumption); (case k6 => k_is); (case k7 => k_is); (case k8 => (show dp < 1000); omega); (case k9 => exact BindsTo.of_eq rfl); (case c5 => decide); (case kB => exact locs rfl); (case c2 => exact rfl); (case c3 => exact rfl); (case c4 => exact rfl); k_whole; intro L' h' F' N')
  k_steps
  unfold Hold
  (with_reducible rename Fr _ _ _ _ => Fq)
  (with_reducible rename News _ _ _ _ => Nq)
  refine use_lawprog (A0 := Z.map (·.1)) (n0 := s.heap.objs.size) Z (recs Z) Fq X Nq T C (by walk_at "mRoom") (by walk_at "mRoom") tp (by walk_at "mSub") (fun q hq => ⟨recs_sub q hq, recs_isTab q hq⟩) (Nat.le_of_eq (hideAll_size _ _).symm) (fun q hq => .inl (List.mem_map_of_mem hq)) ?_
  intro pg PL P' h2 tk2 Z2 tp2 hP ad2 adP F2 N2
  clear Fq Nq
  have hPT : ∀ q ∈ PL, isTab q.2 = false := by
    obtain ⟨_, _, _, _, _, _, _, _, _, z, _, _⟩ := hP; exact z
  dsimp only
  k_steps
  unfold Hold
  (with_reducible rename Fr _ _ _ _ => FF)
  (with_reducible rename News _ _ _ _ => NN)
  refine While_inv2 (RunJ b PL (recs Z) P' (Z.map (·.1)) s.heap.objs.size (run1 b (col + 1) l col) pg) (n₀ := col + 1) FF NN ?_ ?_
  · exact ⟨Z2, l, col, ⟨tp2, ad2, by omega, hcol, hl, hsm, rfl⟩, rfl, _, _, ex_map4 rfl rfl rfl rfl⟩
  clear FF NN hcol hl hsm
  generalize hR : run1 b (col + 1) l col = R at *
  clear hR
  rintro n m₁ news₁ h₁ tk₁ F₁ N₁ ⟨TL, l, col, hI, rfl, tl, tc, u', rfl⟩
  have hI' := hI
  obtain ⟨tp', adT, fuel, le, len, small, res⟩ := hI'
  obtain ⟨n, rfl⟩ : ∃ k, n = k + 1 := ⟨n - 1, by omega⟩
  dsimp only
  k_steps
  unfold Hold
  (with_reducible rename Fr _ _ _ _ => Fq)
  (with_reducible rename News _ _ _ _ => Nq)
  refine use_sr (A0 := Z.map (·.1)) (n0 := s.heap.objs.size) TL (recs Z) hP (by omega) (by omega) (by omega) (nx1_b (by omega)) Fq X Nq T (by walk_at "mRoom") (by walk_at "mRoom") tp' (by walk_at "mSub") (by walk_at "mSub") (fun q hq => ⟨by simp only [List.mem_append, hq, true_or, or_true], recs_isTab q hq⟩) (Nat.le_of_eq (hideAll_size _ _).symm) adT ?_ ?_
  · intro e h3 tk3 TL3 tp3 ad3 F3 N3
    clear Fq Nq
    rw [run1_none e] at res
    subst res
    walk_at "mDrop"
    dsimp only
    k_steps
    exact hret _ _ _ TL3 (kept_of0 hh (by k_asm) (by k_asm) (by walk_at "mSub") (fun q hq hf => by simp only [List.mem_append]; exact .inr (.inr (List.mem_filter.mpr ⟨hq, by simp [hf]⟩))) ad3) tp3.1
  · intro i j e hit HL h3 tk3 TL3 tp3 ad3 adH hH F3 N3
    clear Fq Nq
    walk_at "mDrop"
    obtain ⟨ei, ej, _⟩ := srOf_mem e
    dsimp only
    cases b with
    | true =>
      obtain ⟨c, hc, hpart, rfl⟩ := part_t e
      k_steps
      unfold Hold
      rw [show List.take (((i + 1 : Nat) : Int).toNat - (i : Int).toNat) (List.drop (i : Int).toNat l) = [c] from by rw [Int.toNat_natCast, Int.toNat_natCast]; exact hpart]
      have hu3 := unc_len c
      k_steps
      refine ⟨_, _, _, TL3 ++ (PL ++ recs Z), n, rfl, by k_asm, nSub (by k_asm) (fun q hq => ?_), by omega, ⟨TL3, _, i, run_next hI e tp3 ad3 hpart ?_ ⟨by omega, by omega⟩ (by simp), rfl, _, _, ex_map4 rfl rfl rfl rfl⟩⟩
      · simp only [List.mem_append, List.mem_cons] at hq ⊢; rcases hq with z | z | z <;> simp [z]
      · simp only [Int.toNat_natCast]; rfl
    | false => 
      obtain ⟨⟨hjl, hij⟩, hpart⟩ := part_f e
      have hmm : ∀ c ∈ (l.drop i).take (j - i), c < 1000 := fun c hc => small rfl c (mem_part hc (by omega))
      k_steps
      unfold Hold
      rw [show List.take ((j : Int).toNat - (i : Int).toNat) (List.drop (i : Int).toNat l) = (l.drop i).take (j - i) from by rw [Int.toNat_natCast, Int.toNat_natCast]]
      obtain ⟨x, hx9⟩ : ∃ x, (l.drop i).take (j - i) = x := ⟨_, rfl⟩
      rw [hx9] at hpart hmm ⊢
      obtain ⟨hx3, hr3⟩ := rdL_len hpart
      refine PCl.use (read_tok _ _ _ _ _ _ x _ hpart hmm) (by k_asm) (by k_asm) (by k_asm) (by k_asm) (by walk_at "mRoom") (by walk_at "mRoom") ?_
      intro t9 h9 tk9 F9 N9
      clear hmm
      dsimp only
      k_steps
      refine ⟨_, _, _, TL3 ++ (PL ++ recs Z), n, rfl, by k_asm, nSub (by k_asm) (fun q hq => ?_), by omega, ⟨TL3, _, i, run_next hI e tp3 ad3 hx9 ?_ ⟨by omega, by omega⟩ hx3, rfl, _, _, ex_map4 rfl rfl rfl rfl⟩⟩
      · simp only [List.mem_append, List.mem_cons] at hq ⊢; rcases hq with z | z | z <;> simp [z]
      · simp only [Int.toNat_natCast]; rfl
end
section
open PySem PySem.W PyProof.Rows
set_option Elab.async false
set_option maxRecDepth 100000
section
variable {w : World} {p : Program} {loose : List Str} {mean : ExcName → Option Value} {mg mb : Str → Option Value}
variable {dp un : Nat} {fr : Option (List Env)} {gd : Option (List Code)} {h₀ : Heap} {L : Addr} {m : Str → Option Value} {news : Led} {s : Shared} {E : Value → Shared → Prop} {Q : Value → Shared → Prop}
theorem use_run {b : Bool} {l : List Nat} (Z : Led) (col : Nat) {c : Int} {t u : Tok} (hc : c = (col : Int)) (hcol : col ≤ l.length) (hl : l.length + 3 * col < 200) (hsm : b = false → ∀ c ∈ l.take col, c < 1000)
    (F : Fr h₀ L s.heap m) (X : (hd.heap_39 w.params).In h₀) (N : News h₀ L s.heap news) (T : Top p loose mean mg mb h₀) (C : CodeHd h₀ 95 91) (hd' : dp + 90 < 1000) (hu : un + 900 < 9900) (tp : TP0 Z) (hTL : ∀ q ∈ Z, q ∈ news)
    (h : ∀ t h' tk Z', TP0 Z' → Fr h₀ L h' m → News h₀ L h' Z' → Q (.str (S (run1 b (col + 1) l col)) t) { s with heap := h', toks := tk }) :
    wpAny (model PySem.Challenge.rw_mr0049_01.prog w) (arA dp un fr gd) (call (.ref 103) [.str (S l) t, .int c u, .bool b]) Q E s := by
  subst hc
  have NT := nSub N hTL
  refine run_ok w p loose mean mg mb b l col t u hcol hl hsm dp un fr gd s Q E Z (X.keeps (keeps_hide F NT)) (T.keeps (keeps_hide F NT)) hd' hu (News.has NT) (C.keeps (keeps_hide F NT)) tp fun t' h' tk Z' k tp' => ?_
  obtain ⟨a, b, c⟩ := k.news F NT (News.nil) fun q hq => nomatch hq
  exact h t' h' tk Z' tp' a b
theorem use_runI {b : Bool} {l : List Nat} (Z : Led) {c : Int} {t u : Tok} (hc : 0 ≤ c) (hcol : c ≤ l.length) (hl : (l.length : Int) + 3 * c < 200) (hsm : b = false → ∀ c ∈ l, c < 1000)
    (F : Fr h₀ L s.heap m) (X : (hd.heap_39 w.params).In h₀) (N : News h₀ L s.heap news) (T : Top p loose mean mg mb h₀) (C : CodeHd h₀ 95 91) (hd' : dp + 90 < 1000) (hu : un + 900 < 9900) (tp : TP0 Z) (hTL : ∀ q ∈ Z, q ∈ news)
    (h : ∀ t h' tk Z', TP0 Z' → Fr h₀ L h' m → News h₀ L h' Z' → Q (.str (S (run1 b (c.toNat + 1) l c.toNat)) t) { s with heap := h', toks := tk }) :
    wpAny (model PySem.Challenge.rw_mr0049_01.prog w) (arA dp un fr gd) (call (.ref 103) [.str (S l) t, .int c u, .bool b]) Q E s :=
  use_run Z c.toNat (by omega) (by omega) (by omega) (fun hb c hc => hsm hb c (List.mem_of_mem_take hc)) F X N T C hd' hu tp hTL h
end
theorem tp0_nil : TP0 [(91, tabObj #[])] := ⟨#[], .head _, trivial, fun q v e => by simp [codeAmong] at e⟩
def lineL (ns : List Int) : List Nat := (ns.map signL).flatten
theorem sign_len (x : Int) : (signL x).length ≤ 1 := by
  unfold signL
  have : (x % 16).toNat < 16 := by omega
  generalize (x % 16).toNat = k at *
  have := cases16 this
  rcases this with rfl | rfl | rfl | rfl | rfl | rfl | rfl | rfl | rfl | rfl | rfl | rfl | rfl | rfl | rfl | rfl <;> simp
theorem sign_lt (x : Int) : ∀ c ∈ signL x, c < 1114112 := by
  unfold signL
  have : (x % 16).toNat < 16 := by omega
  generalize (x % 16).toNat = k at *
  have := cases16 this
  intro c hc
  rcases this with rfl | rfl | rfl | rfl | rfl | rfl | rfl | rfl | rfl | rfl | rfl | rfl | rfl | rfl | rfl | rfl <;> simp at hc <;> (try subst hc) <;> (try split) <;> omega
theorem line_len : ∀ (ns : List Int), (lineL ns).length ≤ ns.length
  | [] => by simp [lineL]
  | x :: ns => by
    have := line_len ns
    have := sign_len x
    unfold lineL at *
    simp only [List.map_cons, List.flatten_cons, List.length_append, List.length_cons]
    omega
theorem line_lt (ns : List Int) : ∀ c ∈ lineL ns, c < 1114112 := fun c hc => by
  unfold lineL at hc
  obtain ⟨l, hl, hc⟩ := List.mem_flatten.mp hc
  obtain ⟨x, _, rfl⟩ := List.mem_map.mp hl
  exact sign_lt x c hc
theorem unc_lt (c : Nat) : ∀ d ∈ uncL c, (32 ≤ d ∧ d ≤ 126) ∨ d = 159 := by
  intro d hd
  unfold uncL at hd
  rw [List.mem_append] at hd
  rcases hd with hd | hd
  · split at hd <;> simp at hd; omega
  · (repeat' split at hd) <;> simp at hd <;> omega
theorem shown_lt (l : List Nat) : ∀ d ∈ shownL l, (32 ≤ d ∧ d ≤ 126) ∨ d = 159 := by
  intro d hd
  unfold shownL at hd
  obtain ⟨c, _, hd⟩ := List.mem_flatMap.mp hd
  exact unc_lt c d hd
theorem tp0_grown {Z : Led} {h₀ h : Heap} {L : Addr} (tp : TP0 Z) (N : News h₀ L h Z) : GrownAll [(95, 91)] h := by
  obtain ⟨ps, hP, _⟩ := tp
  exact ⟨GrownAt.of N hP, trivial⟩
end
section
open PySem PySem.W PyProof.Rows
set_option Elab.async false
/- a run back over a line, piece by piece -/
section
variable (wd : List Nat → Nat) (rd : List Nat → List Nat)
def nxG (l : List Nat) (st : Nat) : Option (Nat × Nat) := firstW (fun k => wd (l.drop k)) (l.length - st) st
def runG : Nat → List Nat → Int → List Nat
  | 0, l, _ => l
  | n + 1, l, col => match srOf (nxG wd l) col with
    | none => l
    | some (i, j) => runG n (l.take i ++ rd ((l.drop i).take (j - i)) ++ l.drop j) (i : Int)
abbrev Pc := Bool × List Nat
def fl (ps : List Pc) : List Nat := ps.flatMap (·.2)
def dc (ps : List Pc) : List Nat := ps.flatMap fun p => if p.1 then rd p.2 else p.2
def PS : List Pc → List Nat → Prop
  | [], _ => True
  | p :: qs, r => p.2 ≠ [] ∧ wd (p.2 ++ (fl qs ++ r)) = (if p.1 then p.2.length else 0) ∧ (p.1 = false → p.2.length = 1) ∧ PS qs r
def posn : Nat → List Pc → List (Nat × Nat)
  | _, [] => []
  | o, p :: qs => (if p.1 then [(o, o + p.2.length)] else []) ++ posn (o + p.2.length) qs
end
theorem fl_cons (p : Pc) (ps : List Pc) : fl (p :: ps) = p.2 ++ fl ps := rfl
theorem fl_app (a b : List Pc) : fl (a ++ b) = fl a ++ fl b := List.flatMap_append
theorem dc_app (rd : List Nat → List Nat) (a b : List Pc) : dc rd (a ++ b) = dc rd a ++ dc rd b := List.flatMap_append
theorem dc_cons (rd : List Nat → List Nat) (p : Pc) (b : List Pc) : dc rd (p :: b) = (if p.1 then rd p.2 else p.2) ++ dc rd b := rfl
section
variable {wd : List Nat → Nat} {rd : List Nat → List Nat}
theorem PS_app : ∀ {a b : List Pc} {r : List Nat}, PS wd (a ++ b) r ↔ PS wd a (fl b ++ r) ∧ PS wd b r
  | [], b, r => by simp [PS]
  | p :: a, b, r => by
    simp only [List.cons_append, PS, PS_app (a := a), fl_app, List.append_assoc]
    constructor
    · rintro ⟨h1, h2, h3, h4, h5⟩; exact ⟨⟨h1, h2, h3, h4⟩, h5⟩
    · rintro ⟨⟨h1, h2, h3, h4⟩, h5⟩; exact ⟨h1, h2, h3, h4, h5⟩
theorem nx_zero {l : List Nat} {st : Nat} (hs : st < l.length) (h : wd (l.drop st) = 0) : nxG wd l st = nxG wd l (st + 1) := by
  unfold nxG
  rw [show l.length - st = (l.length - (st + 1)) + 1 by omega]
  conv => lhs; unfold firstW
  rw [if_pos h]
theorem nx_pos {l : List Nat} {st : Nat} (hs : st < l.length) (h : wd (l.drop st) ≠ 0) : nxG wd l st = some (st, st + wd (l.drop st)) := by
  unfold nxG
  rw [show l.length - st = (l.length - (st + 1)) + 1 by omega]
  unfold firstW
  rw [if_neg h]
theorem firstW_ge {f : Nat → Nat} : ∀ {n k i j : Nat}, firstW f n k = some (i, j) → k ≤ i ∧ i < j ∧ j = i + f i ∧ i < k + n
  | 0, _, _, _, h => by cases h
  | n + 1, k, i, j, h => by
    unfold firstW at h
    split at h
    · have := firstW_ge h; omega
    · rename_i hk
      cases h
      refine ⟨Nat.le_refl _, by omega, rfl, by omega⟩
def srF (nx : Nat → Option (Nat × Nat)) (col : Int) (k : Nat) (f : Option (Nat × Nat)) (st : Nat) : Option (Nat × Nat) := match nx st with
  | none => f
  | some (i, j) => srGo nx col k f i j
theorem sr_scan : ∀ (ps : List Pc) (pre b : List Nat) (k : Nat) (f : Option (Nat × Nat)), PS wd ps b → (fl ps).length < k →
    srF (nxG wd (pre ++ (fl ps ++ b))) ((pre.length + (fl ps).length : Nat) : Int) k f pre.length = ((posn pre.length ps).getLast?).or f
  | [], pre, b, k, f, _, hk => by
    unfold srF
    cases h : nxG wd (pre ++ (fl [] ++ b)) pre.length with
    | none => rfl
    | some q =>
      obtain ⟨i, j⟩ := q
      have := firstW_ge h
      simp only [posn, List.getLast?_nil, Option.none_or]
      exact srGo_stop (by simp [fl]; omega)
  | (t, x) :: ps, pre, b, k, f, h, hk => by
    obtain ⟨h1, h2, h3, h4⟩ := h
    have hx : 0 < x.length := List.length_pos_iff.mpr h1
    have e : pre ++ (fl ((t, x) :: ps) ++ b) = (pre ++ x) ++ (fl ps ++ b) := by simp [fl_cons]
    have ed : (pre ++ (fl ((t, x) :: ps) ++ b)).drop pre.length = x ++ (fl ps ++ b) := by simp [fl_cons]
    have hl : pre.length < (pre ++ (fl ((t, x) :: ps) ++ b)).length := by simp [fl_cons]; omega
    have el : pre.length + (fl ((t, x) :: ps)).length = (pre ++ x).length + (fl ps).length := by simp [fl_cons]; omega
    rw [fl_cons] at hk
    simp only [List.length_append] at hk
    cases t with
    | false =>
      have hx1 : x.length = 1 := h3 rfl
      have ih := sr_scan ps (pre ++ x) b k f h4 (by omega)
      unfold srF at ih ⊢
      rw [nx_zero hl (by rw [ed]; simpa using h2), el, e]
      simp only [posn, Bool.false_eq_true, if_false, List.nil_append]
      rw [show pre.length + 1 = (pre ++ x).length by simp [hx1], ih]
      simp
    | true =>
      obtain ⟨k, rfl⟩ : ∃ k', k = k' + 1 := ⟨k - 1, by omega⟩
      have hw : wd (x ++ (fl ps ++ b)) = x.length := by simpa using h2
      have ih := sr_scan ps (pre ++ x) b k (some (pre.length, pre.length + x.length)) h4 (by omega)
      unfold srF at ih ⊢
      rw [nx_pos hl (by rw [ed, hw]; omega), ed, hw]
      dsimp only
      rw [srGo_step (st := pre.length + x.length) (by simp [fl_cons]; omega) (by simp [fl_cons]; omega) (by rw [if_neg (by omega)]), el, e]
      rw [show pre.length + x.length = (pre ++ x).length by simp] at ih ⊢
      refine Eq.trans (b := ((posn (pre ++ x).length ps).getLast?).or (some (pre.length, (pre ++ x).length))) ?_ ?_
      · refine Eq.trans ?_ ih
        first | rfl | (cases nxG wd (pre ++ x ++ (fl ps ++ b)) (pre ++ x).length <;> rfl)
      simp only [posn, if_true, List.length_append]
      rw [List.singleton_append, List.getLast?_cons]
      cases (posn (pre.length + x.length) ps).getLast? <;> rfl
theorem posn_none : ∀ {ps : List Pc} {o : Nat}, (posn o ps).getLast? = none → dc rd ps = fl ps
  | [], _, _ => rfl
  | (t, x) :: ps, o, h => by
    cases t with
    | true => simp [posn, List.getLast?_eq_none_iff] at h
    | false =>
      have := posn_none (ps := ps) (o := o + x.length) (by simpa [posn] using h)
      rw [dc_cons, fl_cons, this]; rfl
theorem posn_some : ∀ {ps : List Pc} {o i j : Nat}, (posn o ps).getLast? = some (i, j) → ∃ qs x ss, ps = qs ++ (true, x) :: ss ∧ i = o + (fl qs).length ∧ j = i + x.length ∧ dc rd ss = fl ss
  | [], _, _, _, h => by cases h
  | (t, x) :: ps, o, i, j, h => by
    unfold posn at h
    rw [List.getLast?_append] at h
    cases h2 : (posn (o + x.length) ps).getLast? with
    | some q =>
      obtain ⟨i', j'⟩ := q
      rw [h2] at h
      cases h
      obtain ⟨qs, x', ss, e1, e2, e3, e4⟩ := posn_some h2
      exact ⟨(t, x) :: qs, x', ss, by rw [e1]; rfl, by rw [e2, fl_cons]; simp; omega, e3, e4⟩
    | none =>
      rw [h2] at h
      cases t with
      | false => cases h
      | true =>
        simp at h
        exact ⟨[], x, ps, rfl, by simp [fl]; omega, by omega, posn_none h2⟩
theorem srOf_scan {ps : List Pc} {b : List Nat} (h : PS wd ps b) : srOf (nxG wd (fl ps ++ b)) ((fl ps).length : Int) = (posn 0 ps).getLast? := by
  have := sr_scan ps [] b ((fl ps).length + 1) none h (by omega)
  simp only [List.nil_append, List.length_nil, Nat.zero_add, Option.or_none] at this
  rw [← this]
  unfold srOf srF
  rw [Int.toNat_natCast]
  try (cases nxG wd (fl ps ++ b) 0 <;> rfl)
theorem run_dc (hsw : ∀ qs x r, PS wd qs (x ++ r) → wd (x ++ r) = x.length → x ≠ [] → PS wd qs (rd x ++ r)) :
    ∀ (n : Nat) (ps : List Pc) (b : List Nat), PS wd ps b → (fl ps).length < n → runG wd rd n (fl ps ++ b) ((fl ps).length : Int) = dc rd ps ++ b
  | 0, _, _, _, h => absurd h (Nat.not_lt_zero _)
  | n + 1, ps, b, h, hn => by
    unfold runG
    rw [srOf_scan h]
    cases hq : (posn 0 ps).getLast? with
    | none => dsimp only; rw [posn_none hq]
    | some q =>
      obtain ⟨i, j⟩ := q
      obtain ⟨qs, x, ss, rfl, e2, e3, e4⟩ := posn_some (rd := rd) hq
      obtain ⟨hA, hB, hC, _, hD⟩ := PS_app.mp h
      rw [fl_app, fl_cons] at hn
      simp only [List.length_append] at hn
      have hx := List.length_pos_iff.mpr hB
      have hx' : x ≠ [] := hB
      dsimp only at hC hx
      simp only [Nat.zero_add] at e2
      subst e2 e3
      dsimp only
      have t1 : (fl (qs ++ (true, x) :: ss) ++ b).take (fl qs).length = fl qs := by simp [fl_app]
      have t2 : ((fl (qs ++ (true, x) :: ss) ++ b).drop (fl qs).length).take ((fl qs).length + x.length - (fl qs).length) = x := by simp [fl_app, fl_cons]
      have t3 : (fl (qs ++ (true, x) :: ss) ++ b).drop ((fl qs).length + x.length) = fl ss ++ b := by simp [fl_app, fl_cons, ← List.drop_drop]
      rw [t1, t2, t3, List.append_assoc]
      rw [run_dc hsw n qs _ (hsw qs x (fl ss ++ b) (by simpa [fl_cons, List.append_assoc] using hA) (by simpa using hC) hx') (by omega)]
      rw [dc_app, dc_cons, e4]; simp
end
end
section
open PySem PySem.W PyProof.Rows
set_option Elab.async false
/- the widths, by the rest of the line -/
def wdS : List Nat → Nat
  | [] => 0
  | c :: _ => if prB c then 0 else 1
def wdR : List Nat → Nat
  | 33 :: 94 :: m :: _ => if 63 ≤ m ∧ m ≤ 95 then 3 else 2
  | 33 :: _ :: _ => 2
  | 94 :: m :: _ => if 63 ≤ m ∧ m ≤ 95 then 2 else 0
  | _ => 0
theorem widthL_wd (l : List Nat) (k : Nat) : widthL l k = wdR (l.drop k) := by
  have hg : l.getD k 0 = (l.drop k).getD 0 0 := by simp
  have hlen : (k + 1 < l.length) ↔ 1 < (l.drop k).length := by rw [List.length_drop]; omega
  have hd1 : l.drop (k + 1) = (l.drop k).drop 1 := by rw [List.drop_drop]
  unfold widthL
  rw [hg]
  by_cases hb : (l.drop k).getD 0 0 = 33 ∧ k + 1 < l.length
  · simp only [if_pos hb, hd1]
    rw [hlen] at hb
    generalize l.drop k = x at *
    match x with
    | [] => simp at hb
    | [c] => simp at hb
    | [c, d] =>
      obtain rfl : c = 33 := hb.1
      simp [wdR]
    | c :: d :: m :: r =>
      obtain rfl : c = 33 := hb.1
      by_cases hd : d = 94
      · subst hd; simp [wdR]
      · have : wdR (33 :: d :: m :: r) = 2 := by
          unfold wdR; split <;> simp_all
        rw [this]
        simp [hd]
  · simp only [if_neg hb, Nat.add_zero]
    rw [hlen] at hb
    generalize l.drop k = x at *
    match x with
    | [] => simp [wdR]
    | [c] =>
      have : wdR [c] = 0 := by unfold wdR; split <;> simp_all
      simp [this]
    | c :: d :: r =>
      have hc : c ≠ 33 := fun e => hb ⟨e, by simp⟩
      by_cases h9 : c = 94
      · subst h9; simp [wdR]
      · have : wdR (c :: d :: r) = 0 := by unfold wdR; split <;> simp_all
        simp [this, h9]
theorem firstW_congr {f g : Nat → Nat} : ∀ (n k : Nat), (∀ j, j < n → f (k + j) = g (k + j)) → firstW f n k = firstW g n k
  | 0, _, _ => rfl
  | n + 1, k, h => by
    unfold firstW
    have h0 : f k = g k := h 0 (by omega)
    have ih : firstW f n (k + 1) = firstW g n (k + 1) := firstW_congr n (k + 1) fun j hj => by
      have := h (j + 1) (by omega)
      rw [show k + 1 + j = k + (j + 1) by omega]; exact this
    rw [h0, ih]
theorem nx1_f (l : List Nat) : nx1 false l = nxG wdR l := funext fun st => by
  unfold nx1 nxG
  exact firstW_congr _ _ fun j _ => by simp [widthL_wd]
theorem nx1_t (l : List Nat) : nx1 true l = nxG wdS l := funext fun st => by
  unfold nx1 nxG
  refine firstW_congr _ _ fun j hj => ?_
  have h : st + j < l.length := by omega
  rw [List.drop_eq_getElem_cons h]
  simp [wdS, h]
theorem run1_f : ∀ (n : Nat) (l : List Nat) (col : Int), run1 false n l col = runG wdR rdL n l col
  | 0, _, _ => rfl
  | n + 1, l, col => by
    unfold run1 runG
    rw [nx1_f]
    cases srOf (nxG wdR l) col with
    | none => rfl
    | some q => exact run1_f n _ _
theorem run1_t : ∀ (n : Nat) (l : List Nat) (col : Int), run1 true n l col = runG wdS (fun x => uncL (x.getD 0 0)) n l col
  | 0, _, _ => rfl
  | n + 1, l, col => by
    unfold run1 runG
    rw [nx1_t]
    cases srOf (nxG wdS l) col with
    | none => rfl
    | some q => exact run1_t n _ _
/- A: showing -/
def psS (l : List Nat) : List Pc := l.map fun c => (!prB c, [c])
theorem fl_psS (l : List Nat) : fl (psS l) = l := by
  induction l with
  | nil => rfl
  | cons c l ih => rw [psS, List.map_cons, fl_cons]; simp only [psS] at ih; rw [ih]; rfl
theorem PS_psS : ∀ (l r : List Nat), PS wdS (psS l) r
  | [], _ => trivial
  | c :: l, r => by
    refine ⟨by simp, ?_, fun _ => rfl, PS_psS l r⟩
    show (if prB c = true then 0 else 1) = if (!prB c) = true then 1 else 0
    cases prB c <;> rfl
theorem PS_wdS : ∀ (qs : List Pc) (r r' : List Nat), PS wdS qs r → PS wdS qs r'
  | [], _, _, _ => trivial
  | (t, x) :: qs, r, r', ⟨h1, h2, h3, h4⟩ => by
    refine ⟨h1, ?_, h3, PS_wdS qs r r' h4⟩
    cases x with
    | nil => exact absurd rfl h1
    | cons c x => exact h2
theorem unc_pr {c : Nat} (h : prB c = true) : uncL c = [c] := by
  unfold prB at h
  have h := of_decide_eq_true h
  unfold uncL
  rw [if_neg (show ¬ c / 128 % 2 = 1 by omega), if_neg (show ¬ c = 127 by omega), if_pos (show 32 ≤ c % 128 ∧ c % 128 ≤ 126 by omega), show c % 128 = c by omega]
  rfl
theorem dc_psS (l : List Nat) : dc (fun x => uncL (x.getD 0 0)) (psS l) = shownL l := by
  induction l with
  | nil => rfl
  | cons c l ih =>
    rw [psS, List.map_cons, dc_cons]
    simp only [psS] at ih
    rw [ih]
    show _ = uncL c ++ shownL l
    congr 1
    cases h : prB c with
    | true => rw [unc_pr h]; rfl
    | false => rfl
theorem plA (l : List Nat) (k : Nat) (h : k ≤ l.length) : run1 true (k + 1) l k = shownL (l.take k) ++ l.drop k := by
  have := run_dc (wd := wdS) (rd := fun x => uncL (x.getD 0 0)) (fun qs x r a _ _ => PS_wdS qs _ _ a) (k + 1) (psS (l.take k)) (l.drop k) (PS_psS _ _) (by rw [fl_psS]; simp; omega)
  rw [fl_psS, dc_psS, List.take_append_drop, List.length_take, Nat.min_eq_left h] at this
  rw [run1_t]; exact this
end
section
open PySem PySem.W PyProof.Rows
set_option Elab.async false
def hd1 (r : List Nat) : Prop := ∃ m r', r = m :: r' ∧ 63 ≤ m ∧ m ≤ 95
/-- what the widths are, shape by shape -/
theorem wd_33_end : wdR [33] = 0 := rfl
theorem wd_3394 {m : Nat} {r : List Nat} (h : 63 ≤ m ∧ m ≤ 95) : wdR (33 :: 94 :: m :: r) = 3 := by simp [wdR, h]
theorem wd_33 {d : Nat} {r : List Nat} (h : d ≠ 94 ∨ ¬ hd1 r) : wdR (33 :: d :: r) = 2 := by
  unfold wdR
  split <;> try rfl
  · rename_i m r' e
    cases e
    rcases h with h | h
    · exact absurd rfl h
    · rw [if_neg fun q => h ⟨_, _, rfl, q⟩]
  · simp_all
  · simp_all
theorem wd_94 {m : Nat} {r : List Nat} (h : 63 ≤ m ∧ m ≤ 95) : wdR (94 :: m :: r) = 2 := by simp [wdR, h]
theorem wd_940 {r : List Nat} (h : ¬ hd1 r) : wdR (94 :: r) = 0 := by
  cases r with
  | nil => rfl
  | cons m r => simp only [wdR]; rw [if_neg fun q => h ⟨_, _, rfl, q⟩]
theorem wd_o {c : Nat} {r : List Nat} (h1 : c ≠ 33) (h2 : c ≠ 94) : wdR (c :: r) = 0 := by
  unfold wdR; split <;> simp_all
theorem wd_le (l : List Nat) : wdR l ≤ l.length := by
  unfold wdR; split <;> (try split) <;> simp
/-- a head that is no mark may take the place of the rest -/
theorem wd_swap {x r b : List Nat} (hx : x ≠ []) (hr : r ≠ []) (hb : b ≠ []) (hm : ¬ hd1 b) (h : wdR (x ++ r) ≤ x.length) : wdR (x ++ b) = wdR (x ++ r) := by
  obtain ⟨m, r', rfl⟩ := List.exists_cons_of_ne_nil hr
  obtain ⟨n, b', rfl⟩ := List.exists_cons_of_ne_nil hb
  match x with
  | [] => exact absurd rfl hx
  | [c] =>
    by_cases h3 : c = 33
    · subst h3
      exfalso
      by_cases h9 : m = 94 ∧ hd1 r'
      · obtain ⟨rfl, q, r'', rfl, hq⟩ := h9
        simp [wdR, hq] at h
      · have : wdR (33 :: m :: r') = 2 := wd_33 (by
          by_cases q : m = 94
          · exact .inr fun z => h9 ⟨q, z⟩
          · exact .inl q)
        rw [List.singleton_append, this] at h
        simp at h
    · by_cases h9 : c = 94
      · subst h9
        have hn : ¬ hd1 (m :: r') := by
          rintro ⟨_, _, e, q⟩
          cases e
          rw [List.singleton_append, wd_94 q] at h
          simp at h
        rw [List.singleton_append, List.singleton_append, wd_940 hm, wd_940 hn]
      · rw [List.singleton_append, List.singleton_append, wd_o h3 h9, wd_o h3 h9]
  | [c, d] =>
    by_cases h3 : c = 33
    · subst h3
      show wdR (33 :: d :: n :: b') = wdR (33 :: d :: m :: r')
      change wdR (33 :: d :: m :: r') ≤ 2 at h
      rw [wd_33 (.inr hm)]
      by_cases h9 : d = 94 ∧ hd1 (m :: r')
      · obtain ⟨rfl, q, r'', e, hq⟩ := h9
        cases e
        rw [wd_3394 hq] at h
        omega
      · rw [wd_33]
        by_cases q : d = 94
        · exact .inr fun z => h9 ⟨q, z⟩
        · exact .inl q
    · by_cases h9 : c = 94
      · subst h9; rfl
      · show wdR (c :: _) = wdR (c :: _)
        rw [wd_o h3 h9, wd_o h3 h9]
  | c :: d :: e :: x =>
    by_cases h3 : c = 33
    · subst h3
      by_cases h9 : d = 94 ∧ (63 ≤ e ∧ e ≤ 95)
      · obtain ⟨rfl, hq⟩ := h9
        show wdR (33 :: 94 :: e :: _) = wdR (33 :: 94 :: e :: _)
        rw [wd_3394 hq, wd_3394 hq]
      · have : d ≠ 94 ∨ ∀ z, ¬ hd1 (e :: z) := by
          by_cases q : d = 94
          · refine .inr fun z ⟨_, _, e1, hq⟩ => ?_
            cases e1
            exact h9 ⟨q, hq⟩
          · exact .inl q
        show wdR (33 :: d :: (e :: _)) = wdR (33 :: d :: (e :: _))
        rw [wd_33 (this.imp id fun z => z _), wd_33 (this.imp id fun z => z _)]
    · by_cases h9 : c = 94
      · subst h9; rfl
      · show wdR (c :: _) = wdR (c :: _)
        rw [wd_o h3 h9, wd_o h3 h9]
theorem PS_swap : ∀ {qs : List Pc} {r b : List Nat}, r ≠ [] → b ≠ [] → ¬ hd1 b → PS wdR qs r → PS wdR qs b
  | [], _, _, _, _, _, _ => trivial
  | (t, x) :: qs, r, b, hr, hb, hm, ⟨h1, h2, h3, h4⟩ => by
    refine ⟨h1, ?_, h3, PS_swap hr hb hm h4⟩
    rw [← h2, ← List.append_assoc, ← List.append_assoc]
    refine wd_swap (by simp only [ne_eq, List.append_eq_nil_iff]; exact fun q => h1 q.1) hr hb hm ?_
    rw [List.append_assoc, h2]
    split <;> simp
/-- a token's shapes -/
theorem tok_shape {x r : List Nat} (h : wdR (x ++ r) = x.length) (hx : x ≠ []) : (∃ m, x = [94, m] ∧ 63 ≤ m ∧ m ≤ 95) ∨ (∃ c, x = [33, c] ∧ (c ≠ 94 ∨ ¬ hd1 r)) ∨ ∃ m, x = [33, 94, m] ∧ 63 ≤ m ∧ m ≤ 95 := by
  match x with
  | [] => exact absurd rfl hx
  | c :: x =>
    by_cases h3 : c = 33
    · subst h3
      match x with
      | [] =>
        exfalso
        have : wdR (33 :: r) ≠ 1 := by unfold wdR; split <;> (try split) <;> simp
        exact this h
      | [d] =>
        refine .inr (.inl ⟨d, rfl, ?_⟩)
        by_cases q : d = 94 ∧ hd1 r
        · obtain ⟨rfl, m, r', rfl, hq⟩ := q
          change wdR (33 :: 94 :: m :: r') = 2 at h
          rw [wd_3394 hq] at h
          cases h
        · by_cases q1 : d = 94
          · exact .inr fun z => q ⟨q1, z⟩
          · exact .inl q1
      | [d, e] =>
        by_cases q : d = 94 ∧ (63 ≤ e ∧ e ≤ 95)
        · obtain ⟨rfl, q⟩ := q
          exact .inr (.inr ⟨e, rfl, q⟩)
        · exfalso
          have : wdR (33 :: d :: (e :: r)) = 2 := wd_33 (by
            by_cases q1 : d = 94
            · refine .inr fun ⟨_, _, e1, z⟩ => ?_
              cases e1
              exact q ⟨q1, z⟩
            · exact .inl q1)
          change wdR (33 :: d :: (e :: r)) = 3 at h
          omega
      | d :: e :: f :: x =>
        exfalso
        have : wdR (33 :: d :: e :: f :: (x ++ r)) ≤ 3 := by unfold wdR; split <;> (try split) <;> simp
        change wdR (33 :: d :: e :: f :: (x ++ r)) = _ at h
        simp at h
        omega
    · by_cases h9 : c = 94
      · subst h9
        match x with
        | [] =>
          exfalso
          have : wdR (94 :: r) ≠ 1 := by unfold wdR; split <;> (try split) <;> simp
          exact this h
        | [m] =>
          by_cases q : 63 ≤ m ∧ m ≤ 95
          · exact .inl ⟨m, rfl, q⟩
          · exfalso
            have : wdR (94 :: (m :: r)) = 0 := wd_940 fun ⟨_, _, e1, z⟩ => by cases e1; exact q z
            change wdR (94 :: (m :: r)) = 2 at h
            omega
        | m :: e :: x =>
          exfalso
          have : wdR (94 :: m :: e :: (x ++ r)) ≤ 2 := by unfold wdR; split <;> (try split) <;> simp_all
          change wdR (94 :: m :: e :: (x ++ r)) = _ at h
          simp at h
          omega
      · exfalso
        change wdR (c :: (x ++ r)) = _ at h
        rw [wd_o h3 h9] at h
        simp at h
theorem rd2_nm {m : Nat} (h : 63 ≤ m ∧ m ≤ 95) : ¬ (63 ≤ rd2 m ∧ rd2 m ≤ 95) := by unfold rd2; split <;> omega
theorem alt_nm (c : Nat) : 128 ≤ altN c := by unfold altN; split <;> omega
theorem rd_nm {x r : List Nat} (h : wdR (x ++ r) = x.length) (hx : x ≠ []) : ∃ v, rdL x = [v] ∧ ¬ (63 ≤ v ∧ v ≤ 95) := by
  rcases tok_shape h hx with ⟨m, rfl, hm⟩ | ⟨c, rfl, _⟩ | ⟨m, rfl, _⟩
  · exact ⟨_, rfl, rd2_nm hm⟩
  · exact ⟨_, rfl, by have := alt_nm c; omega⟩
  · exact ⟨_, rfl, by have := alt_nm (rd2 m); omega⟩
theorem run_f {ps : List Pc} (h : PS wdR ps []) : run1 false ((fl ps).length + 1) (fl ps) (fl ps).length = dc rdL ps := by
  have := run_dc (wd := wdR) (rd := rdL) (fun qs x r a b c => by
    obtain ⟨v, hv, hn⟩ := rd_nm b c
    rw [hv]
    refine PS_swap (r := x ++ r) (by simp [c]) (by simp) ?_ a
    rintro ⟨m, r', e, q⟩
    cases e
    exact hn q) ((fl ps).length + 1) ps [] h (by omega)
  rw [List.append_nil, List.append_nil] at this
  rw [run1_f]; exact this
/-- every line has its pieces -/
theorem scan : ∀ (n : Nat) (l : List Nat), l.length ≤ n → ∃ ps, fl ps = l ∧ PS wdR ps []
  | 0, l, h => ⟨[], by simp at h; rw [h]; rfl, trivial⟩
  | n + 1, [], _ => ⟨[], rfl, trivial⟩
  | n + 1, c :: l, h => by
    by_cases hw : wdR (c :: l) = 0
    · obtain ⟨ps, e, hp⟩ := scan n l (by simpa using h)
      refine ⟨(false, [c]) :: ps, by rw [fl_cons, e]; rfl, by simp, ?_, fun _ => rfl, hp⟩
      rw [e, List.append_nil]; exact hw
    · have hle := wd_le (c :: l)
      obtain ⟨ps, e, hp⟩ := scan n ((c :: l).drop (wdR (c :: l))) (by rw [List.length_drop]; simp at h ⊢; omega)
      refine ⟨(true, (c :: l).take (wdR (c :: l))) :: ps, by rw [fl_cons, e, List.take_append_drop], ?_, ?_, (fun q => nomatch q), hp⟩
      · intro q
        have := congrArg List.length q
        simp at this
        omega
      · rw [e, List.append_nil, List.take_append_drop, if_pos rfl, List.length_take, Nat.min_eq_left hle]
end
section
open PySem PySem.W PyProof.Rows
set_option Elab.async false
theorem run_any (l : List Nat) : ∃ ps, fl ps = l ∧ PS wdR ps [] ∧ run1 false (l.length + 1) l l.length = dc rdL ps := by
  obtain ⟨ps, rfl, h⟩ := scan l.length l (Nat.le_refl _)
  exact ⟨ps, rfl, h, run_f h⟩
/- B: what is shown comes back -/
theorem unc_low {c : Nat} (h : c < 32) : uncL c = [94, c + 64] := by
  unfold uncL
  rw [if_neg (show ¬ c / 128 % 2 = 1 by omega), if_neg (show ¬ c = 127 by omega), if_neg (show ¬ (32 ≤ c % 128 ∧ c % 128 ≤ 126) by omega), if_neg (show ¬ c % 128 = 127 by omega), show c % 128 = c by omega]; rfl
theorem unc_mid {c : Nat} (h : 32 ≤ c ∧ c ≤ 126) : uncL c = [c] := unc_pr (by unfold prB; simp [h])
theorem unc_del : uncL 127 = [94, 63] := by decide
theorem unc_hi {c : Nat} (h : 128 ≤ c ∧ c < 160) : uncL c = [33, 94, c - 64] := by
  unfold uncL
  rw [if_pos (show c / 128 % 2 = 1 by omega), if_neg (show ¬ c = 127 by omega), if_neg (show ¬ (32 ≤ c % 128 ∧ c % 128 ≤ 126) by omega), if_neg (show ¬ c % 128 = 127 by omega), show c % 128 + 64 = c - 64 by omega]; rfl
theorem unc_hi2 {c : Nat} (h : 160 ≤ c ∧ c ≤ 254) : uncL c = [33, c - 128] := by
  unfold uncL
  rw [if_pos (show c / 128 % 2 = 1 by omega), if_neg (show ¬ c = 127 by omega), if_pos (show (32 ≤ c % 128 ∧ c % 128 ≤ 126) by omega), show c % 128 = c - 128 by omega]; rfl
/-- the piece of a sign -/
def pcU (c : Nat) : Pc := (decide (2 ≤ (uncL c).length), uncL c)
theorem fl_pcU (l : List Nat) : fl (l.map pcU) = shownL l := by
  induction l with
  | nil => rfl
  | cons c l ih => rw [List.map_cons, fl_cons, ih]; rfl
/-- the sign c, well ahead of the shown text r -/
def okC (c : Nat) (r : List Nat) : Prop := c ≤ 254 ∧ (c = 33 → r = []) ∧ ((c = 94 ∨ c = 222) → ¬ hd1 r)
theorem piece_ok {c : Nat} {r : List Nat} (h : okC c r) : wdR (uncL c ++ r) = (if (pcU c).1 then (pcU c).2.length else 0) ∧ ((pcU c).1 = false → (pcU c).2.length = 1) ∧ (if (pcU c).1 then rdL (pcU c).2 else (pcU c).2) = [c] := by
  obtain ⟨h1, h2, h3⟩ := h
  unfold pcU
  by_cases c1 : c < 32
  · rw [unc_low c1]
    refine ⟨?_, by simp, ?_⟩
    · show wdR (94 :: (c + 64) :: r) = 2
      exact wd_94 (by omega)
    · show [rd2 (c + 64)] = [c]
      unfold rd2
      rw [if_neg (by omega), show (c + 64) % 32 = c by omega]
  by_cases c2 : c ≤ 126
  · rw [unc_mid ⟨by omega, c2⟩]
    refine ⟨?_, by simp, rfl⟩
    show wdR (c :: r) = 0
    by_cases e1 : c = 33
    · rw [h2 e1, e1]; rfl
    by_cases e2 : c = 94
    · rw [e2]; exact wd_940 (h3 (.inl e2))
    exact wd_o e1 e2
  by_cases c3 : c = 127
  · subst c3
    rw [unc_del]
    exact ⟨by simp [wdR], by simp, rfl⟩
  by_cases c4 : c < 160
  · rw [unc_hi ⟨by omega, c4⟩]
    refine ⟨?_, by simp, ?_⟩
    · show wdR (33 :: 94 :: (c - 64) :: r) = 3
      exact wd_3394 (by omega)
    · show [altN (rd2 (c - 64))] = [c]
      unfold rd2 altN
      rw [if_neg (show ¬ c - 64 = 63 by omega), show (c - 64) % 32 = c - 128 by omega, if_neg (by omega), show c - 128 + 128 = c by omega]
  · rw [unc_hi2 ⟨by omega, by omega⟩]
    refine ⟨?_, by simp, ?_⟩
    · show wdR (33 :: (c - 128) :: r) = 2
      refine wd_33 ?_
      by_cases e : c = 222
      · exact .inr (h3 (.inr e))
      · exact .inl (by omega)
    · have : rdL [33, c - 128] = [altN (c - 128)] := by
        unfold rdL; split <;> simp_all
      show rdL [33, c - 128] = [c]
      rw [this]
      unfold altN
      rw [if_neg (by omega), show c - 128 + 128 = c by omega]
theorem unc_cons (d : Nat) : ∃ a r, uncL d = a :: r := List.exists_cons_of_ne_nil (unc_ne d)
theorem okAt_iff (c : Nat) (r : List Nat) : okAt (c :: r) 0 = true ↔ okC c (shownL r) := by
  unfold okAt okC
  cases r with
  | nil => simp [shownL, hd1]
  | cons d r =>
    obtain ⟨a, q, e⟩ := unc_cons d
    have e1 : shownL (d :: r) = a :: (q ++ shownL r) := by show uncL d ++ _ = _; rw [e]; rfl
    have e2 : shownL [d] = a :: q := by show uncL d ++ [] = _; rw [e]; simp
    have e3 : hd1 (shownL (d :: r)) ↔ 63 ≤ a ∧ a ≤ 95 := by
      rw [e1]
      constructor
      · rintro ⟨_, _, e, h⟩; cases e; exact h
      · intro h; exact ⟨_, _, rfl, h⟩
    rw [e3, e1]
    simp [e2]
    omega
theorem comes_cons (c : Nat) (r : List Nat) : comesB (c :: r) = (okAt (c :: r) 0 && comesB r) := by
  unfold comesB
  rw [List.length_cons, List.range_succ_eq_map, List.all_cons, List.all_map]
  congr 1
theorem PS_cons {c : Nat} {r : List Nat} {ps : List Pc} (h : okC c (shownL r)) (e : fl ps = shownL r) (hp : PS wdR ps []) : PS wdR (pcU c :: ps) [] ∧ fl (pcU c :: ps) = shownL (c :: r) ∧ dc rdL (pcU c :: ps) = c :: dc rdL ps := by
  obtain ⟨h1, h2, h3⟩ := piece_ok h
  refine ⟨⟨unc_ne c, ?_, h2, hp⟩, ?_, ?_⟩
  · rw [e, List.append_nil]; exact h1
  · rw [fl_cons, e]; rfl
  · rw [dc_cons, h3]; rfl
theorem back_ok : ∀ (l : List Nat), comesB l = true → ∃ ps, fl ps = shownL l ∧ PS wdR ps [] ∧ dc rdL ps = l
  | [], _ => ⟨[], rfl, trivial, rfl⟩
  | c :: r, h => by
    rw [comes_cons, Bool.and_eq_true] at h
    obtain ⟨ps, e, hp, hd⟩ := back_ok r h.2
    obtain ⟨a, b, d⟩ := PS_cons ((okAt_iff c r).mp h.1) e hp
    exact ⟨_, b, a, by rw [d, hd]⟩
theorem rd2_lt (m : Nat) : rd2 m < 32 ∨ rd2 m = 127 := by unfold rd2; split <;> omega
theorem alt_eq (c : Nat) (h : c < 128) : altN c = c + 128 := by unfold altN; rw [if_neg (by omega)]
theorem alt_lt (c : Nat) (h : c < 160) : altN c < 288 ∧ (c < 128 ∨ altN c = c) := by unfold altN; split <;> omega
/-- the first sign that is read -/
theorem head_dc {ps : List Pc} {a : Nat} {L : List Nat} (hp : PS wdR ps []) (e : fl ps = a :: L) : (wdR (a :: L) = 0 ∧ ∃ T, dc rdL ps = a :: T) ∨ (wdR (a :: L) ≠ 0 ∧ ∃ x r, a :: L = x ++ r ∧ wdR (x ++ r) = x.length ∧ x ≠ [] ∧ ∃ T, dc rdL ps = rdL x ++ T) := by
  match ps with
  | [] => cases e
  | (t, x) :: qs =>
    obtain ⟨h1, h2, h3, h4⟩ := hp
    rw [fl_cons] at e
    rw [List.append_nil] at h2
    dsimp only at e h2 h1 h3
    cases t with
    | true =>
      have h2 : wdR (x ++ fl qs) = x.length := by simpa using h2
      refine .inr ⟨?_, x, fl qs, e.symm, h2, h1, dc rdL qs, by rw [dc_cons]; rfl⟩
      rw [← e, h2]
      exact fun q => h1 (List.length_eq_zero_iff.mp q)
    | false =>
      refine .inl ⟨by rw [← e, h2]; rfl, ?_⟩
      match x, h3 rfl with
      | [b], _ => cases e; exact ⟨_, by rw [dc_cons]; rfl⟩
theorem bad_head {c : Nat} {r : List Nat} {ps : List Pc} (h : ¬ okC c (shownL r)) (e : fl ps = shownL (c :: r)) (hp : PS wdR ps []) : dc rdL ps ≠ c :: r := by
  intro hd
  have e : fl ps = uncL c ++ shownL r := e
  have hsm := shown_lt r
  unfold okC at h
  by_cases h1 : c ≤ 254
  · by_cases h2 : c = 33 ∧ shownL r ≠ []
    · obtain ⟨rfl, h2⟩ := h2
      obtain ⟨d, q, eq⟩ := List.exists_cons_of_ne_nil h2
      rw [eq, unc_mid (by omega)] at e
      rcases head_dc hp e with ⟨hw, _⟩ | ⟨hw, x, r', ex, hx, hx0, T, hT⟩
      · exfalso
        by_cases z : d = 94 ∧ hd1 q
        · obtain ⟨rfl, m, q', rfl, hm⟩ := z
          change wdR (33 :: 94 :: m :: q') = 0 at hw
          rw [wd_3394 hm] at hw; cases hw
        · have : wdR (33 :: d :: q) = 2 := wd_33 (by
            by_cases z1 : d = 94
            · exact .inr fun z2 => z ⟨z1, z2⟩
            · exact .inl z1)
          change wdR (33 :: d :: q) = 0 at hw
          omega
      · rw [hd] at hT
        rcases tok_shape hx hx0 with ⟨m, rfl, _⟩ | ⟨c', rfl, _⟩ | ⟨m, rfl, _⟩
        · cases ex
        · have : rdL [33, c'] = [altN c'] := by unfold rdL; split <;> simp_all
          rw [this] at hT
          have e9 : 33 = altN c' := by injection hT
          have := alt_nm c'; omega
        · have e9 : 33 = altN (rd2 m) := by injection hT
          have := alt_nm (rd2 m); omega
    · have h3 : (c = 94 ∨ c = 222) ∧ hd1 (shownL r) := by
        refine Classical.byContradiction fun z => h ⟨h1, fun e1 => ?_, fun e1 e2 => z ⟨e1, e2⟩⟩
        exact Classical.byContradiction fun z2 => h2 ⟨e1, z2⟩
      obtain ⟨h3, m, q, eq, hm⟩ := h3
      have hr := rd2_lt m
      rcases h3 with rfl | rfl
      · rw [eq, unc_mid (by omega)] at e
        rcases head_dc hp e with ⟨hw, _⟩ | ⟨hw, x, r', ex, hx, hx0, T, hT⟩
        · change wdR (94 :: m :: q) = 0 at hw
          rw [wd_94 hm] at hw; cases hw
        · rw [hd] at hT
          rcases tok_shape hx hx0 with ⟨m', rfl, _⟩ | ⟨c', rfl, _⟩ | ⟨m', rfl, _⟩
          · cases ex
            have e9 : 94 = rd2 m := by injection hT
            omega
          · cases ex
          · cases ex
      · rw [eq, show uncL 222 = [33, 94] from by decide] at e
        rcases head_dc hp e with ⟨hw, _⟩ | ⟨hw, x, r', ex, hx, hx0, T, hT⟩
        · change wdR (33 :: 94 :: m :: q) = 0 at hw
          rw [wd_3394 hm] at hw; cases hw
        · rw [hd] at hT
          rcases tok_shape hx hx0 with ⟨m', rfl, _⟩ | ⟨c', rfl, z⟩ | ⟨m', rfl, _⟩
          · cases ex
          · cases ex
            rcases z with z | z
            · exact z rfl
            · exact z ⟨_, _, rfl, hm⟩
          · cases ex
            have e9 : 222 = altN (rd2 m) := by injection hT
            rw [alt_eq _ (by omega)] at e9
            omega
  · obtain ⟨a, q, eu⟩ := unc_cons c
    have hsc : ∀ d ∈ a :: (q ++ shownL r), (32 ≤ d ∧ d ≤ 126) ∨ d = 159 := fun d hd => by
      have : d ∈ shownL (c :: r) := by show d ∈ uncL c ++ shownL r; rw [eu]; exact hd
      exact shown_lt _ d this
    rw [eu] at e
    rcases head_dc hp e with ⟨hw, T, hT⟩ | ⟨hw, x, r', ex, hx, hx0, T, hT⟩
    · rw [hd] at hT
      have e9 : c = a := by injection hT
      have := hsc a (by simp)
      omega
    · rw [hd] at hT
      have ex : a :: (q ++ shownL r) = x ++ r' := ex
      rcases tok_shape hx hx0 with ⟨m, rfl, _⟩ | ⟨c', rfl, _⟩ | ⟨m, rfl, hm⟩
      · have e9 : c = rd2 m := by injection hT
        have := rd2_lt m; omega
      · have h33 : rdL [33, c'] = [altN c'] := by unfold rdL; split <;> simp_all
        rw [h33] at hT
        have e9 : c = altN c' := by injection hT
        have hc' := hsc c' (by rw [ex]; simp)
        have := alt_lt c' (by omega)
        by_cases z : c' < 128
        · rw [alt_eq _ z] at e9; omega
        · omega
      · have e9 : c = altN (rd2 m) := by injection hT
        have := rd2_lt m
        rw [alt_eq _ (by omega)] at e9
        obtain rfl : c = 255 := by omega
        rw [show uncL 255 = [33, 94, 159] from by decide] at eu
        cases eu
        cases ex
        omega
theorem back_bad : ∀ (l : List Nat), comesB l = false → ∃ ps, fl ps = shownL l ∧ PS wdR ps [] ∧ dc rdL ps ≠ l
  | [], h => by cases h
  | c :: r, h => by
    by_cases ho : okC c (shownL r)
    · rw [comes_cons, (okAt_iff c r).mpr ho, Bool.true_and] at h
      obtain ⟨ps, e, hp, hd⟩ := back_bad r h
      obtain ⟨a, b, d⟩ := PS_cons ho e hp
      exact ⟨_, b, a, by rw [d]; intro q; exact hd (by injection q)⟩
    · obtain ⟨ps, e, hp⟩ := scan (shownL (c :: r)).length (shownL (c :: r)) (Nat.le_refl _)
      exact ⟨ps, e, hp, bad_head ho e hp⟩
theorem plB (l : List Nat) : decide (run1 false ((shownL l).length + 1) (shownL l) (shownL l).length = l) = comesB l := by
  cases h : comesB l with
  | true =>
    obtain ⟨ps, e, hp, hd⟩ := back_ok l h
    have := run_f hp
    rw [e, hd] at this
    exact decide_eq_true this
  | false =>
    obtain ⟨ps, e, hp, hd⟩ := back_bad l h
    have := run_f hp
    rw [e] at this
    exact decide_eq_false (by rw [this]; exact hd)
/- C: what is heard is shown again -/
def gdP (x : List Nat) : Bool := !(x.contains 159) && !(x == [33, 94, 63])
theorem dc_len : ∀ {ps : List Pc} {b : List Nat}, PS wdR ps b → (dc rdL ps).length ≤ (fl ps).length
  | [], _, _ => Nat.le_refl _
  | (t, x) :: ps, b, ⟨h1, h2, h3, h4⟩ => by
    have ih := dc_len h4
    rw [dc_cons, fl_cons, List.length_append, List.length_append]
    have : (if t = true then rdL x else x).length ≤ x.length := by
      cases t with
      | false => exact Nat.le_refl _
      | true =>
        obtain ⟨v, hv, _⟩ := rd_nm (by simpa using h2) h1
        rw [if_pos rfl, hv]
        exact List.length_pos_iff.mpr h1
    dsimp only
    omega
theorem shown_app (a b : List Nat) : shownL (a ++ b) = shownL a ++ shownL b := List.flatMap_append
/-- a piece comes again, or parts from itself -/
theorem piece_pr {t : Bool} {x R : List Nat} (h1 : x ≠ []) (h2 : wdR (x ++ R) = if t then x.length else 0) (h3 : t = false → x.length = 1) (hs : ∀ d ∈ x, (32 ≤ d ∧ d ≤ 126) ∨ d = 159) :
    (gdP x = true ∧ shownL (if t then rdL x else x) = x) ∨ (gdP x = false ∧ ∀ A B, shownL (if t then rdL x else x) ++ A ≠ x ++ B) := by
  have sh1 : ∀ c, shownL [c] = uncL c := fun c => by show uncL c ++ [] = _; simp
  cases t with
  | false =>
    match x, h3 rfl with
    | [c], _ =>
      rw [if_neg (by simp), sh1]
      by_cases hc : c = 159
      · subst hc
        refine .inr ⟨rfl, fun A B => ?_⟩
        rw [show uncL 159 = [33, 94, 95] from by decide]
        intro q; cases q
      · have := hs c (by simp)
        refine .inl ⟨?_, unc_mid (by omega)⟩
        simp [gdP, hc]
        omega
  | true =>
    rw [if_pos rfl] at h2 ⊢
    rcases tok_shape h2 h1 with ⟨m, rfl, hm⟩ | ⟨c, rfl, hc⟩ | ⟨m, rfl, hm⟩
    · refine .inl ⟨by simp [gdP]; omega, ?_⟩
      rw [show rdL [94, m] = [rd2 m] from rfl, sh1]
      unfold rd2
      by_cases e : m = 63
      · subst e; decide
      · rw [if_neg e, unc_low (by omega), show m % 32 + 64 = m by omega]
    · have h33 : rdL [33, c] = [altN c] := by unfold rdL; split <;> simp_all
      rw [h33, sh1]
      have := hs c (by simp)
      by_cases e : c = 159
      · subst e
        refine .inr ⟨rfl, fun A B => ?_⟩
        rw [show uncL (altN 159) = [33, 94, 95] from by decide]
        intro q; cases q
      · refine .inl ⟨by simp [gdP]; omega, ?_⟩
        rw [alt_eq _ (by omega), unc_hi2 (by omega), show c + 128 - 128 = c by omega]
    · rw [show rdL [33, 94, m] = [altN (rd2 m)] from rfl, sh1]
      by_cases e : m = 63
      · subst e
        refine .inr ⟨rfl, fun A B => ?_⟩
        rw [show uncL (altN (rd2 63)) = [33, 94, 159] from by decide]
        intro q; cases q
      · refine .inl ⟨by simp [gdP]; omega, ?_⟩
        have e2 : rd2 m = m - 64 := by unfold rd2; rw [if_neg e]; omega
        rw [e2, alt_eq _ (by omega), unc_hi (by omega), show m - 64 + 128 - 64 = m by omega]
theorem again : ∀ {ps : List Pc}, PS wdR ps [] → (∀ d ∈ fl ps, (32 ≤ d ∧ d ≤ 126) ∨ d = 159) → decide (shownL (dc rdL ps) = fl ps) = ps.all fun q => gdP q.2
  | [], _, _ => by simp [dc, fl, shownL]
  | (t, x) :: ps, ⟨h1, h2, h3, h4⟩, hs => by
    rw [List.append_nil] at h2
    have ih := again h4 fun d hd => hs d (by rw [fl_cons]; simp [hd])
    rw [dc_cons, fl_cons, shown_app, List.all_cons, ← ih]
    rcases piece_pr h1 h2 h3 (fun d hd => hs d (by rw [fl_cons]; simp [hd])) with ⟨a, b⟩ | ⟨a, b⟩
    · dsimp only at b ⊢
      rw [b, a, Bool.true_and]
      congr 1
      simp
    · dsimp only at b ⊢
      rw [a, Bool.false_and]
      exact decide_eq_false (b _ _)
/-- the law's own rule, from the front -/
def prR : Bool → List Nat → Bool
  | _, [] => true
  | p, c :: r => decide (32 ≤ c ∧ c ≤ 126) && !(p && decide (c = 94 ∧ r.head? = some 63)) && prR (if c = 33 then !p else false) r
theorem tailB_snoc (pre : List Nat) (c : Nat) : tailB (pre ++ [c]) = if c = 33 then tailB pre + 1 else 0 := by
  unfold tailB
  rw [List.reverse_append]
  show (List.takeWhile _ (c :: pre.reverse)).length = _
  rw [List.takeWhile_cons]
  by_cases h : c = 33 <;> simp [h]
theorem pr_iffR : ∀ (l pre : List Nat), (∀ k, k < l.length → prAt (pre ++ l) (pre.length + k) = true) ↔ prR (decide (tailB pre % 2 = 1)) l = true
  | [], pre => by simp [prR]
  | c :: r, pre => by
    have ih := pr_iffR r (pre ++ [c])
    have et : decide (tailB (pre ++ [c]) % 2 = 1) = if c = 33 then !decide (tailB pre % 2 = 1) else false := by
      rw [tailB_snoc]
      by_cases h : c = 33
      · rw [if_pos h, if_pos h, Bool.eq_iff_iff]
        simp
        omega
      · rw [if_neg h, if_neg h]; rfl
    rw [et] at ih
    have e0 : prAt (pre ++ c :: r) pre.length = (decide (32 ≤ c ∧ c ≤ 126) && !(decide (tailB pre % 2 = 1) && decide (c = 94 ∧ r.head? = some 63))) := by
      unfold prAt
      rw [show (pre ++ c :: r).getD pre.length 0 = c by simp, show (pre ++ c :: r).drop pre.length = c :: r by simp, show (pre ++ c :: r).take pre.length = pre by simp]
      congr 2
      rw [Bool.and_comm]
      congr 1
      cases r with
      | nil => simp
      | cons d r => simp
    have e1 : (pre ++ [c]) ++ r = pre ++ c :: r := by simp
    have e2 : ∀ k, (pre ++ [c]).length + k = pre.length + (k + 1) := fun k => by simp; omega
    simp only [e1, e2] at ih
    unfold prR
    rw [Bool.and_eq_true, ← ih, ← e0]
    constructor
    · intro h
      exact ⟨h 0 (by simp), fun k hk => h (k + 1) (by simpa using hk)⟩
    · rintro ⟨h0, h⟩ k hk
      cases k with
      | zero => exact h0
      | succ k => exact h k (by simpa using hk)
theorem prints_R (l : List Nat) : printsB l = prR false l := by
  rw [Bool.eq_iff_iff]
  have := pr_iffR l []
  simp only [List.nil_append, List.length_nil, Nat.zero_add] at this
  rw [show prR false l = prR (decide (tailB [] % 2 = 1)) l from rfl, ← this]
  unfold printsB
  rw [List.all_eq_true]
  constructor
  · intro h k hk; exact h k (List.mem_range.mpr hk)
  · intro h k hk; exact h k (List.mem_range.mp hk)
theorem head_hd {r : List Nat} (h : ¬ hd1 r) : r.head? ≠ some 63 := by
  cases r with
  | nil => simp
  | cons m r =>
    intro e
    simp at e
    exact h ⟨m, r, rfl, by omega⟩
theorem piece_R {t : Bool} {x R : List Nat} (h1 : x ≠ []) (h2 : wdR (x ++ R) = if t then x.length else 0) (h3 : t = false → x.length = 1) (hs : ∀ d ∈ x, (32 ≤ d ∧ d ≤ 126) ∨ d = 159) :
    prR false (x ++ R) = (gdP x && prR false R) := by
  cases t with
  | false =>
    match x, h3 rfl with
    | [c], _ =>
      have hc := hs c (by simp)
      show prR false (c :: R) = _
      conv => lhs; unfold prR
      have e1 : gdP [c] = decide (32 ≤ c ∧ c ≤ 126) := by
        rw [Bool.eq_iff_iff]; simp [gdP]; omega
      rw [e1, Bool.false_and, Bool.not_false, Bool.and_true]
      by_cases e : c = 33
      · subst e
        have : R = [] := by
          cases R with
          | nil => rfl
          | cons d R =>
            exfalso
            by_cases z : d = 94 ∧ hd1 R
            · obtain ⟨rfl, m, q', rfl, hm⟩ := z
              change wdR (33 :: 94 :: m :: q') = 0 at h2
              rw [wd_3394 hm] at h2; cases h2
            · have : wdR (33 :: d :: R) = 2 := wd_33 (by
                by_cases z1 : d = 94
                · exact .inr fun z2 => z ⟨z1, z2⟩
                · exact .inl z1)
              change wdR (33 :: d :: R) = 0 at h2
              omega
        subst this
        rfl
      · rw [if_neg e]
  | true =>
    rw [if_pos rfl] at h2
    rcases tok_shape h2 h1 with ⟨m, rfl, hm⟩ | ⟨c, rfl, hc⟩ | ⟨m, rfl, hm⟩
    · show prR false (94 :: m :: R) = _
      have e1 : gdP [94, m] = true := by simp [gdP]; omega
      rw [e1]
      simp only [prR, Bool.false_and, Bool.not_false, Bool.and_true, Bool.true_and, show ¬ (94 : Nat) = 33 by omega, if_false, show ¬ m = 33 by omega]
      simp
      omega
    · show prR false (33 :: c :: R) = _
      have hcs := hs c (by simp)
      have e1 : gdP [33, c] = decide (32 ≤ c ∧ c ≤ 126) := by
        rw [Bool.eq_iff_iff]; simp [gdP]; omega
      have e2 : ¬ (c = 94 ∧ R.head? = some 63) := fun z => by
        rcases hc with q | q
        · exact q z.1
        · exact head_hd q z.2
      rw [e1]
      simp only [prR, Bool.false_and, Bool.not_false, Bool.and_true, Bool.true_and, if_true, decide_eq_false e2, Bool.not_true, ite_self]
      simp
    · show prR false (33 :: 94 :: m :: R) = _
      simp only [prR, Bool.false_and, Bool.not_false, Bool.and_true, Bool.true_and, if_true, show ¬ (94 : Nat) = 33 by omega, if_false, show ¬ m = 33 by omega, List.head?_cons]
      by_cases e : m = 63
      · subst e; simp [gdP]
      · simp [gdP, e]
        have : (32 ≤ m ∧ m ≤ 126) := by omega
        simp [this]
        omega
theorem all_R : ∀ {ps : List Pc}, PS wdR ps [] → (∀ d ∈ fl ps, (32 ≤ d ∧ d ≤ 126) ∨ d = 159) → prR false (fl ps) = ps.all fun q => gdP q.2
  | [], _, _ => rfl
  | (t, x) :: ps, ⟨h1, h2, h3, h4⟩, hs => by
    rw [List.append_nil] at h2
    rw [fl_cons, piece_R h1 h2 h3 (fun d hd => hs d (by rw [fl_cons]; simp [hd])), all_R h4 fun d hd => hs d (by rw [fl_cons]; simp [hd]), List.all_cons]
theorem plC (tl : List Nat) (h : ∀ d ∈ tl, (32 ≤ d ∧ d ≤ 126) ∨ d = 159) : (run1 false (tl.length + 1) tl tl.length).length ≤ tl.length ∧ decide (run1 true ((run1 false (tl.length + 1) tl tl.length).length + 1) (run1 false (tl.length + 1) tl tl.length) (run1 false (tl.length + 1) tl tl.length).length = tl) = printsB tl := by
  obtain ⟨ps, e, hp, hr⟩ := run_any tl
  rw [hr]
  refine ⟨by rw [← e]; exact dc_len hp, ?_⟩
  rw [plA _ _ (Nat.le_refl _), List.take_length, List.drop_length, List.append_nil, prints_R]
  subst e
  rw [again hp h, all_R hp h]
end
section
open PySem PySem.W PyProof.Rows
set_option Elab.async false
set_option maxRecDepth 100000
set_option maxHeartbeats 40000000

theorem ln_18 : True := by
  k_with_none
  k_with "mI" => (first | omega | (simp only [List.length_cons, List.length_nil, List.length_append, List.length_take, List.length_drop, List.length_replicate, List.length_map, List.length_range, S_len, sizeLine_eq]; omega) | (simp only [List.length_cons, List.length_nil, List.length_append, List.length_take, List.length_drop, List.length_replicate, List.length_map, List.length_range, S_len, sizeLine_eq] at *; omega))
  k_with "mItem" => (first
  | ((with_reducible show wpAny _ _ (subscriptTail _ _ (Value.str (S (_ :: _)) _) (Value.int 0 _)) _ _ _); refine r_it0 (by walk_at "mI") ?_)
  | ((with_reducible show wpAny _ _ (subscriptTail _ _ (Value.str (S (_ :: _ :: _)) _) (Value.int 1 _)) _ _ _); refine r_it1 (by walk_at "mI") ?_)
  | ((with_reducible show wpAny _ _ (subscriptTail _ _ (Value.str (S _) _) (Value.int _ _)) _ _ _); refine r_item (by walk_at "mI") (by walk_at "mI") (by walk_at "mI") ?_))
  k_with "mSlice" => (((with_reducible rename Fr _ _ _ _ => F'); (with_reducible rename News _ _ _ _ => N'); (first
  | ((with_reducible show wpAny _ _ (subscriptTail _ (Expr.Slice (some _) none none _) (Value.str (S (_ :: _)) _) _) _ _ _); refine r_sl1 (s := ⟨_, _, _, _, _⟩) F' N' (by walk_at "mI") ?_)
  | refine r_ss (s := ⟨_, _, _, _, _⟩) F' N' (by walk_at "mI") (by walk_at "mI") (by walk_at "mI") ?_
  | refine r_sn (s := ⟨_, _, _, _, _⟩) F' N' (by walk_at "mI") (by walk_at "mI") ?_
  | refine r_ns (s := ⟨_, _, _, _, _⟩) F' N' (by walk_at "mI") (by walk_at "mI") ?_); intro _ _ _ _ _))
  k_with "subscriptTail" => (first | walk_at "mItem" | walk_at "mSlice")
  k_with "subscriptTail Name Name str int" => (walk_at "mItem")
  k_with "subscriptTail Name Constant str int" => (walk_at "mItem")
  k_with "subscriptTail Name Slice str ref" => (walk_at "mSlice")
  k_with "eval Constant str" => ((with_reducible first | refine r_const lit_bang ?_ | refine r_const lit_hat ?_ | refine r_const lit_q ?_ | refine r_const lit_thorn ?_ | refine r_const lit_del ?_ | refine r_const lit_ff ?_ | refine r_const lit_A ?_ | refine r_const lit_hq ?_ | refine r_const lit_h9 ?_ | refine r_const lit_sp ?_ | refine r_const lit_tilde ?_ | refine r_const lit_fe ?_ | refine r_const lit_hT ?_ | refine r_const lit_e ?_ | refine r_const lit_marks ?_))
  k_with "call builtin:len" => (first
  | ((with_reducible show wpAny _ _ (call (Value.builtin "len") [Value.str (S [_]) _]) _ _ _); refine r_len1 ?_)
  | ((with_reducible show wpAny _ _ (call (Value.builtin "len") [Value.str (S [_, _]) _]) _ _ _); refine r_len2 ?_)
  | ((with_reducible show wpAny _ _ (call (Value.builtin "len") [Value.str (S [_, _, _]) _]) _ _ _); refine r_len3 ?_)
  | ((with_reducible show wpAny _ _ (call (Value.builtin "len") [Value.str (S _) _]) _ _ _); refine r_len (by walk_at "mI") ?_))
  k_with "compareOp Eq str str" => (((with_reducible show wpAny _ _ (compareOp _ (Value.str (S _) _) (Value.str (S _) _)) _ _ _); refine r_eq ?_))
  k_with "compareOp NotEq str str" => (((with_reducible show wpAny _ _ (compareOp _ (Value.str (S _) _) (Value.str (S _) _)) _ _ _); refine r_ne ?_))
  k_with "compareOp In str str" => (((with_reducible show wpAny _ _ (compareOp _ (Value.str (S _) _) (Value.str (S _) _)) _ _ _); refine r_in ?_))
  k_with "compareOp Gt str str" => (((with_reducible show wpAny _ _ (compareOp _ (Value.str (S _) _) (Value.str (S _) _)) _ _ _); refine r_gt ?_))
  k_with "compareOp LtE str str" => (((with_reducible show wpAny _ _ (compareOp _ (Value.str (S _) _) (Value.str (S _) _)) _ _ _); refine r_le ?_))
  k_with "binaryOp Add str str" => (((with_reducible show wpAny _ _ (binaryOp _ (Value.str (S _) _) (Value.str (S _) _)) _ _ _); refine r_add ?_ (by walk_at "mI"); intro _ _))
  k_with "inplaceOp Add str str" => (((with_reducible show wpAny _ _ (inplaceOp _ (Value.str (S _) _) (Value.str (S _) _)) _ _ _); refine r_iadd ?_ (by walk_at "mI"); intro _ _))
  k_with "call builtin:ord" => (((with_reducible show wpAny _ _ (call (Value.builtin "ord") [Value.str (S _) _]) _ _ _); refine r_ord ?_))
  k_with "call builtin:chr" => ((refine r_chr (by walk_at "mChr") (by walk_at "mChr") ?_))
  k_with "mChr" => (first | omega | (split <;> omega))
  k_with "mRoom" => (((try simp only [depth_mark, depth_under_make, depth_under_kw, depth_in1, depth_deeper, depth_caller, units_in1, units_deeper, Around.mark_units, units_caller]); (try dsimp only [arA]); omega))
  k_with "mClean" => (((try clear hret); (repeat (with_reducible rename Fr _ _ _ _ => x9; clear x9)); (repeat (with_reducible rename News _ _ _ _ => x9; clear x9)); (repeat (with_reducible rename Below _ _ _ _ => x9; clear x9)); (repeat (with_reducible rename Top _ _ _ _ _ _ => x9; clear x9)); (repeat (with_reducible rename Frag.In _ _ => x9; clear x9))))
  k_with "mUse2" => (((intro t9 h9 tk9 F9 N9); (try dsimp only); (try k_fold)))
  k_with "binaryOp Mod int int" => (refine r_mod (by decide) ?_)
  k_with "binaryOp FloorDiv int int" => (refine r_fdiv (by decide) (by decide) ?_)
  k_with "binaryOp Mult str int" => (((with_reducible show wpAny _ _ (binaryOp _ (Value.str (S [_]) _) (Value.int _ _)) _ _ _); refine r_mul (by walk_at "mI") (by walk_at "mI") ?_; intro _ _))
  k_with "exec For" => (refine hold ?_)
  k_with "exec For Name ListComp cons nil" => (refine hold ?_)
  k_with "exec For Name Call cons nil" => (refine hold ?_)
  k_with "call ref" => ((k_here; (with_reducible show wpAny _ _ (call (Value.ref 21) [Value.str (S [_]) _]) _ _ _); k_dflt (refine PCl.use (ctoi_s _ _ _ _ _ _ _ _ ) (by k_asm) (by k_asm) (by k_asm) (by k_asm) (by walk_at "mRoom") (by walk_at "mRoom") ?_; k_whole); walk_at "mUse2"))
  k_with "call ref" => ((k_here; (with_reducible show wpAny _ _ (call (Value.ref 21) [Value.int _ _]) _ _ _); k_dflt (refine PCl.use (ctoi_i _ _ _ _ _ _ _ _ ) (by k_asm) (by k_asm) (by k_asm) (by k_asm) (by walk_at "mRoom") (by walk_at "mRoom") ?_; k_whole); walk_at "mUse2"))
  k_with "call ref" => ((k_here; (with_reducible show wpAny _ _ (call (Value.ref 28) [Value.str (S [_]) _]) _ _ _); k_dflt (refine PCl.use (isprint_s _ _ _ _ _ _ _ _ ) (by k_asm) (by k_asm) (by k_asm) (by k_asm) (by walk_at "mRoom") (by walk_at "mRoom") ?_; k_whole); walk_at "mUse2"))
  k_with "call ref" => ((k_here; (with_reducible show wpAny _ _ (call (Value.ref 28) [Value.int _ _]) _ _ _); k_dflt (refine PCl.use (isprint_i _ _ _ _ _ _ _ _ ) (by k_asm) (by k_asm) (by k_asm) (by k_asm) (by walk_at "mRoom") (by walk_at "mRoom") ?_; k_whole); walk_at "mUse2"))
  k_with "call ref" => ((k_here; (with_reducible show wpAny _ _ (call (Value.ref 35) [Value.str (S [_]) _]) _ _ _); k_dflt (refine PCl.use (ctrl_s _ _ _ _ _ _ _ _ ) (by k_asm) (by k_asm) (by k_asm) (by k_asm) (by walk_at "mRoom") (by walk_at "mRoom") ?_; k_whole); walk_at "mUse2"))
  k_with "call ref" => ((k_here; (with_reducible show wpAny _ _ (call (Value.ref 42) [Value.str (S [_]) _]) _ _ _); k_dflt (refine PCl.use (alt_s _ _ _ _ _ _ _ _ (by walk_at "mI")) (by k_asm) (by k_asm) (by k_asm) (by k_asm) (by walk_at "mRoom") (by walk_at "mRoom") ?_; k_whole); walk_at "mUse2"))
  k_with "call ref" => ((k_here; (with_reducible show wpAny _ _ (call (Value.ref 49) [Value.str (S [_]) _]) _ _ _); k_dflt (refine PCl.use (unctrl_s _ _ _ _ _ _ _ _ ) (by k_asm) (by k_asm) (by k_asm) (by k_asm) (by walk_at "mRoom") (by walk_at "mRoom") ?_; k_whole); walk_at "mUse2"))
  k_with "call ref" => ((k_here; (with_reducible show wpAny _ _ (call (Value.ref 70) _) _ _ _); k_dflt (refine PCl.use (marks_ok _ _ _ _ _ _  ) (by k_asm) (by k_asm) (by k_asm) (by k_asm) (by walk_at "mRoom") (by walk_at "mRoom") ?_; k_whole); walk_at "mUse2"))
  k_with "call ref" => ((k_here; (with_reducible show wpAny _ _ (call (Value.ref 82) [Value.str (S _) _, Value.int _ _]) _ _ _); k_dflt (refine PCl.use (width_ok _ _ _ _ _ _ _ _ _ _ (by walk_at "mI") (by walk_at "mI") (by walk_at "mI")) (by k_asm) (by k_asm) (by k_asm) (by k_asm) (by walk_at "mRoom") (by walk_at "mRoom") ?_; k_whole); walk_at "mUse2"))
  k_with "call ref" => ((k_here; (with_reducible show wpAny _ _ (call (Value.ref 89) [Value.str (S [94, _]) _]) _ _ _); k_dflt (refine PCl.use (read_2 _ _ _ _ _ _ _ _ ) (by k_asm) (by k_asm) (by k_asm) (by k_asm) (by walk_at "mRoom") (by walk_at "mRoom") ?_; k_whole); walk_at "mUse2"))
  k_with "call ref" => ((k_here; (with_reducible show wpAny _ _ (call (Value.ref 89) [Value.str (S [_]) _]) _ _ _); k_dflt (refine PCl.use (read_0 _ _ _ _ _ _ _ _ ) (by k_asm) (by k_asm) (by k_asm) (by k_asm) (by walk_at "mRoom") (by walk_at "mRoom") ?_; k_whole); walk_at "mUse2"))
  k_with "call ref" => ((k_here; (with_reducible show wpAny _ _ (call (Value.ref 75) [Value.str (S _) _]) _ _ _); k_dflt (refine PCl.use (shown_ok _ _ _ _ _ _ _ _ (by walk_at "mI") (by walk_at "mAll")) (by k_asm) (by k_asm) (by k_asm) (by k_asm) (by walk_at "mRoom") (by walk_at "mRoom") ?_; k_whole); walk_at "mUse2"))
  trivial
theorem all_take {l : List Nat} {N k : Nat} (h : ∀ c ∈ l, c < N) : ∀ c ∈ l.take k, c < N := fun c hc => h c (List.mem_of_mem_take hc)
theorem shown_sz {l : List Nat} {k : Nat} (h : l.length < 100) : (shownL (l.take k)).length + (l.drop k).length ≤ sizeLine := by
  have := shown_len (l.take k)
  rw [sizeLine_eq]
  simp at this ⊢
  omega
theorem ln_19 : True := by
  k_with "binaryOp Add str str" => (((with_reducible show wpAny _ _ (binaryOp _ (Value.str (S (shownL (List.take _ _))) _) (Value.str (S (List.drop _ _)) _)) _ _ _); refine r_add ?_ (shown_sz (by omega)); intro _ _))
  k_with "mAll" => (first | assumption | exact all_take (by assumption))
  k_with "exec Return some" => (refine hold ?_)
  k_with "compareOp Eq bool bool" => (refine hold ?_)
  trivial
def NumQ (h₀ : Heap) (L : Addr) (m : Str → Option Value) (s : Shared) (_ : Unit) (f : Flow) (s' : Shared) : Prop :=
  ∃ D l0 ws ns h' tk, f = .next ∧ s' = { s with heap := h', toks := tk } ∧ Fr h₀ L h' (fun y => if y = Str.ofString "numbers" then some (.ref D) else m y) ∧ News h₀ L h' ((D, W.listOf ws.toArray 0) :: (l0, W.listOf #[] 0) :: [(91, tabObj #[])]) ∧ IntsAre ws ns ∧ ns.length ≤ 7
theorem num_cut {M : Model} {A : Around} {t : Sem Flow} {Q : Flow → Shared → Prop} {E : Value → Shared → Prop} {s : Shared} {h₀ : Heap} {L : Addr} {m : Str → Option Value} (_ : Fr h₀ L s.heap m) (h : wpAny M A t (NumQ h₀ L m s ()) E s)
    (h2 : ∀ D l0 ws ns h' tk, Fr h₀ L h' (fun y => if y = Str.ofString "numbers" then some (.ref D) else m y) → News h₀ L h' ((D, W.listOf ws.toArray 0) :: (l0, W.listOf #[] 0) :: [(91, tabObj #[])]) → IntsAre ws ns → ns.length ≤ 7 → Q .next { s with heap := h', toks := tk }) : wpAny M A t Q E s :=
  wpAny_mono h (fun _ _ ⟨D, l0, ws, ns, h', tk, e1, e2, a, b, c, d⟩ => by subst e1; subst e2; exact h2 D l0 ws ns h' tk a b c d) fun _ _ x => x

theorem ln_20 : True := by
  k_with "exec Assign" => (((with_reducible show wpAny _ _ (exec (Stmt.Assign [_] (Expr.IfExp _ _ _ _) _) _) _ _ _); refine hold ?_))
  k_with "eval ListComp" => (refine hold ?_)
  k_with "call builtin:str.join" => (refine hold ?_)
  k_with "binaryOp Mod int int" => ((refine r_modP (by omega) ?_; intro r9 hr9 er9))
  k_with "call ref" => (((with_reducible show wpAny _ _ (call (Value.ref 103) _) _ _ _); refine hold ?_))
  k_with "call ref" => ((k_here; (with_reducible show wpAny _ _ (call (Value.ref 110) [Value.str (S _) _]) _ _ _); k_dflt (refine PCl.use (comes_ok _ _ _ _ _ _ _ _ (by walk_at "mI") (by walk_at "mAll")) (by k_asm) (by k_asm) (by k_asm) (by k_asm) (by walk_at "mRoom") (by walk_at "mRoom") ?_; k_whole); walk_at "mUse2"))
  k_with "call ref" => ((k_here; (with_reducible show wpAny _ _ (call (Value.ref 117) [Value.str (S _) _]) _ _ _); k_dflt (refine PCl.use (prints_ok _ _ _ _ _ _ _ _ (by walk_at "mI")) (by k_asm) (by k_asm) (by k_asm) (by k_asm) (by walk_at "mRoom") (by walk_at "mRoom") ?_; k_whole); walk_at "mUse2"))
  trivial
theorem post_ok (a b : List WData) : PySem.Challenge.rw_mr0049_01.row.claim.post a (.bool true) b = true := by kernel_rfl
theorem lawX : PySem.Challenge.rw_mr0049_01.Holds := hd (by
  k_go0
  all_goals try k_fold
  k_steps

  unfold Hold
  (with_reducible rename Fr _ _ _ _ => Fq)
  (with_reducible rename News _ _ _ _ => Nq)
  (with_reducible rename Top _ _ _ _ _ _ => Tq)
  (with_reducible rename Frag.In _ _ => Xq)
  refine num_cut Fq (wpAny_Assign_Name ?_) ?_
  · k_steps
    · (with_reducible rename Fr _ _ _ _ => Fr1)
      (with_reducible rename News _ _ _ _ => Nr1)
      exact ⟨_, _, [.int 484 _, .int 205 _, .int 3 _, .int 23 _, .int 5 _, .int 0 _], [484, 205, 3, 23, 5, 0], _, _, rfl, rfl, Fr1, Nr1, .cons _ _ (.cons _ _ (.cons _ _ (.cons _ _ (.cons _ _ (.cons _ _ .nil))))), by decide⟩
    · (with_reducible rename Fr _ _ _ _ => Fr1)
      (with_reducible rename News _ _ _ _ => Nr1)
      exact ⟨_, _, _, List.take 7 _, _, _, rfl, rfl, Fr1, Nr1, by assumption, by simp; omega⟩
  clear Fq Nq
  intro D0 l0 ws ns h0 tk0 Fq Nq hI hn7
  dsimp only
  k_steps
  unfold Hold
  (with_reducible rename Fr _ _ _ _ => Fq)
  (with_reducible rename News _ _ _ _ => Nq)
  refine comp_list (R := fun v y => ∀ n t, v = .int n t → ∃ t, y = .str (S (signL n)) t) Fq Nq (.head _) rfl (by decide) (by decide) rfl (by decide) (by decide) ?_ ?_ ?_ ?_
  · intro Q' hq
    exact ld Fq rfl hq
  · have := hI.length; rw [sizeLine_eq]; omega
  · intro C v s₃ m₃ E' hv hn hm st
    obtain ⟨n, t, rfl⟩ := IntsAre.all hI v hv
    refine elt_f1 (K := hd.heap_39 _) Xq Tq (fun b o e => st b o (Fq.keep b o e)) (by k_is) rfl rfl rfl rfl rfl hn hm ?_
    refine sign_ok _ _ _ _ _ _ n t _ _ _ _ s₃ _ _ (Xq.keeps (fun b o e => st b o (Fq.keep b o e))) (Tq.keeps (fun b o e => st b o (Fq.keep b o e))) (by walk_at "mRoom") (by walk_at "mRoom") ?_
    intro t2 h2 tk2 st2
    exact ⟨fun n' t' e => by cases e; exact ⟨_, rfl⟩, h2, tk2, rfl, st2⟩
  · intro D ys kk h2 tk2 F2 N2 hlen hys
    clear Fq Nq
    dsimp only
    k_steps
    unfold Hold
    (with_reducible rename Fr _ _ _ _ => Fq)
    (with_reducible rename News _ _ _ _ => Nq)
    have hlen2 := hI.length
    have hl1 := line_len ns
    have hl2 := line_lt ns
    refine r_join (ns.map signL) Nq (.head _) (by rw [hlen, List.length_map]; omega) (fun i l y e1 e2 => ?_) (by rw [List.length_map]; unfold lineL at hl1; omega) ?_
    · obtain ⟨n, hn, rfl⟩ := by simpa [List.getElem?_map] using e1
      have hi : i < ws.length := by rw [← hlen]; exact (List.getElem?_eq_some_iff.mp e2).1
      obtain ⟨n2, t2, e3, e4⟩ := hI.at i ws[i] (by simp [hi])
      rw [hn] at e4
      cases e4
      exact hys i ws[i] y (by simp [hi]) e2 n t2 e3
    intro t3 tk3
    change (lineL ns).length ≤ _ at hl1
    have hll : (ns.map signL).flatten = lineL ns := rfl
    rw [hll]
    clear hll hys hlen
    generalize lineL ns = l at *
    dsimp only
    k_steps
    unfold Hold
    (with_reducible rename Fr _ _ _ _ => Fq)
    (with_reducible rename News _ _ _ _ => Nq)
    refine use_runI [(91, tabObj #[])] (by omega) (by omega) (by omega) (fun e => nomatch e) Fq Xq Nq Tq codeHd (by walk_at "mRoom") (by walk_at "mRoom") tp0_nil (fun q hq => by simp only [List.mem_cons, List.mem_nil_iff, or_false] at hq ⊢; simp [hq]) ?_
    intro t4 h4 tk4 Z4 tp4 F4 N4
    clear Fq Nq
    have hp1 := shown_len l
    have hp2 := shown_lt l
    dsimp only
    k_steps
    · unfold Hold
      (with_reducible rename Fr _ _ _ _ => Fq)
      (with_reducible rename News _ _ _ _ => Nq)
      refine use_runI Z4 (by omega) (by omega) (by omega) (fun e c hc => by have := hp2 c hc; omega) Fq Xq Nq Tq codeHd (by walk_at "mRoom") (by walk_at "mRoom") tp4 (fun q hq => hq) ?_
      intro t5 h5 tk5 Z5 tp5 F5 N5
      clear Fq Nq
      dsimp only
      k_steps
      · exfalso
        rename ((_ != comesB _) = true) => hbad
        rw [Int.toNat_natCast, plB, bne_self_eq_false] at hbad
        cases hbad
      · unfold Hold
        (with_reducible rename Fr _ _ _ _ => Fq)
        (with_reducible rename News _ _ _ _ => Nq)
        generalize htl : List.drop _ (shownL l) = tl at *
        have hp3 : tl.length ≤ 21 := by rw [← htl]; simp; omega
        have hp4 : ∀ d ∈ tl, (32 ≤ d ∧ d ≤ 126) ∨ d = 159 := fun d hd => hp2 d (by rw [← htl] at hd; exact List.mem_of_mem_drop hd)
        clear htl hp1 hp2
        obtain ⟨hC1, hC2⟩ := plC tl hp4
        refine use_runI Z5 (by omega) (by omega) (by omega) (fun e c hc => by have := hp4 c hc; omega) Fq Xq Nq Tq codeHd (by walk_at "mRoom") (by walk_at "mRoom") tp5 (fun q hq => hq) ?_
        rw [Int.toNat_natCast]
        generalize run1 false (tl.length + 1) tl tl.length = hd9 at *
        intro t6 h6 tk6 Z6 tp6 F6 N6
        clear Fq Nq
        dsimp only
        k_steps
        unfold Hold
        refine wpAny_Return_some ?_
        k_steps
        unfold Hold
        (with_reducible rename Fr _ _ _ _ => Fq)
        (with_reducible rename News _ _ _ _ => Nq)
        refine use_runI Z6 (by omega) (by omega) (by omega) (fun e => nomatch e) Fq Xq Nq Tq codeHd (by walk_at "mRoom") (by walk_at "mRoom") tp6 (fun q hq => hq) ?_
        rw [Int.toNat_natCast]
        intro t7 h7 tk7 Z7 tp7 F7 N7
        clear Fq Nq
        dsimp only
        k_steps
        unfold Hold
        (with_reducible rename Fr _ _ _ _ => Fq)
        (with_reducible rename News _ _ _ _ => Nq)
        refine eq_bool ?_
        rw [hC2, beq_self_eq_true]
        refine (show GoodW _ _ _ _ _ (.ok (.ret (.bool true))) _ ∧ GrownAll _ _ from ⟨goodW_bool Fq (by assumption) (fun _ => rfl) (post_ok _ _) rfl, tp0_grown tp7 Nq⟩)
    · exfalso
      (refine absurd (plA l _ ?_) (by assumption)); omega

  )
end
end
end Mine
theorem PySem.Challenge.cw_mr0049_01_holds : PySem.Challenge.rw_mr0049_01.Holds :=
  Mine.lawX
