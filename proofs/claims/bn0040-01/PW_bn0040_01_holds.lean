import PyProof.Rows.All
import Wide.All
import OpenK.AllK
import Wide.FinOn
import Lean
import PySem.Challenge.RW_bn0040_01
open PySem PySem.W PySem.Calls PyProof.Rows Builtin Builtin.ObjectAttr Builtin.Getset_descriptor
set_option Elab.async false
set_option linter.unusedVariables false
set_option linter.unusedSectionVars false
set_option maxRecDepth 100000
namespace Mine
set_option maxHeartbeats 8000000 in
open_top hd for PySem.Challenge.rw_bn0040_01
/-! ## A counter (an object of a class over dict) as an object -/
section
variable {prog : Program} {w : World} {K : Type} [DecidableEq K] (knd : KeyKind prog w K)

/-- the object is an object of the class at C, its own dict at dx, and holds the pairs -/
def CtrIs (C dx : Addr) (o : Obj) (kvs : List (K × Value)) : Prop :=
  ∃ es ep, o = ⟨.ref C, some dx, .dict es ep, #[]⟩ ∧ KeysOf knd es ∧ Pairs knd es.toList kvs ∧ (kvs.map (·.1)).Nodup
variable {knd}
theorem CtrIs.size {C dx : Addr} {o : Obj} {kvs : List (K × Value)} (h : CtrIs knd C dx o kvs) : ∃ es ep, o.data = .dict es ep ∧ es.size = kvs.length := by
  obtain ⟨es, ep, rfl, _, hp, _⟩ := h
  refine ⟨es, ep, rfl, ?_⟩
  have e1 := hp.length
  simpa using e1
theorem CtrIs.nodup {C dx : Addr} {o : Obj} {kvs : List (K × Value)} (h : CtrIs knd C dx o kvs) : (kvs.map (·.1)).Nodup := let ⟨_, _, _, _, _, n⟩ := h; n
theorem CtrIs.new (C dx : Addr) : CtrIs knd C dx ⟨.ref C, some dx, .dict #[] 0, #[]⟩ [] := ⟨#[], 0, rfl, fun _ h => by simp at h, Pairs.nil, List.nodup_nil⟩

variable {A : Around} {E : Value → Shared → Prop} {s : Shared} {C dx d : Addr} {o : Obj} {kvs : List (K × Value)} {k : K} {key v : Value}

theorem ctr_dictGet {Q : Option Value → Shared → Prop} (ho : s.heap.get? d = some o) (hd : CtrIs knd C dx o kvs) (hkey : knd.is k key = true)
    (h : Q (valueAt kvs k) { s with toks := s.toks + 1 }) : wpAny (model prog w) A (dictGet d key) Q E s := by
  obtain ⟨es, ep, rfl, hk, hp, hn⟩ := hd
  unfold dictGet
  try with_reducible refine wpAny_holding ?_
  refine wpAny_bind (knd.pyHash hkey (wpAny_bind (wpAny_dictFind_of (s := { s with toks := s.toks + 1 }) hkey ho rfl hk ?_)))
  have hf : findBy knd.is es k = valueAt kvs k := by
    rw [← hp.find k]; obtain ⟨l⟩ := es; simp [findBy]
  rw [← hf, findBy_of_findIdx?] at h
  cases hi : es.findIdx? fun e => knd.is k e.key with
  | none => rw [hi] at h; exact wpAny_pure h
  | some i => rw [hi] at h; exact wpAny_bind (wpAny_dictEntries (s := { s with toks := s.toks + 1 }) ho rfl (wpAny_pure h))

theorem ctr_dictSet {Q : Unit → Shared → Prop} (ho : s.heap.get? d = some o) (hd : CtrIs knd C dx o kvs) (hkey : knd.is k key = true) (hsz : kvs.length ≤ sizeLine)
    (h : ∀ h' o', h'.get? d = some o' → CtrIs knd C dx o' (stored kvs k v) → Heap.SameBut d s.heap h' → Q () { s with heap := h', toks := s.toks + 1 }) :
    wpAny (model prog w) A (dictSet d key v) Q E s := by
  obtain ⟨es, ep, rfl, hk, hp, hn⟩ := hd
  have hes : es.size ≤ sizeLine := by have e1 := hp.length; have e2 : es.toList.length = es.size := by simp
                                      omega
  unfold dictSet
  try with_reducible refine wpAny_holding ?_
  refine wpAny_bind (knd.pyHash hkey ?_)
  unfold dictSetHashed
  try with_reducible refine wpAny_holding ?_
  refine wpAny_bind (wpAny_dictFind_of (s := { s with toks := s.toks + 1 }) hkey ho rfl hk ?_)
  have hidx : (es.findIdx? fun e => knd.is k e.key) = kvs.findIdx? fun kv => decide (kv.1 = k) := by
    rw [← hp.findIdx k]; obtain ⟨l⟩ := es; simp
  cases hi : es.findIdx? fun e => knd.is k e.key with
  | some i =>
    refine wpAny_bind (wpAny_rule (wpAny_bind (wpAny_updateDict (s := { s with toks := s.toks + 1 }) ho rfl (wpAny_point (h _ _ (Heap.get?_update_self _ ho rfl)
      ⟨_, ep, rfl, hk.modify _ _, ?_, ?_⟩ (Heap.SameBut.update ..))))))
    · rw [stored, if_pos (any_of_findIdx_some (hidx ▸ hi))]
      have hl : (es.toList.findIdx? fun e => knd.is k e.key) = some i := by rw [← hi]; obtain ⟨l⟩ := es; simp
      have := hp.modify hn hl v
      obtain ⟨l⟩ := es
      simpa using this
    · rw [stored, if_pos (any_of_findIdx_some (hidx ▸ hi)), keys_map_store]; exact hn
  | none =>
    have hnot : k ∉ kvs.map (·.1) := not_mem_of_findIdx_none (hidx ▸ hi)
    have hany : ¬ (kvs.any fun kv => decide (kv.1 = k)) = true := by
      rw [List.any_eq_true]; rintro ⟨kv, hkv, he⟩
      exact hnot (List.mem_map.mpr ⟨kv, hkv, of_decide_eq_true he⟩)
    refine wpAny_bind (wpAny_rule (wpAny_updateDictKeys (hz := hes) (s := { s with toks := s.toks + 1 }) ho rfl (h _ _ (Heap.get?_update_self _ ho rfl)
      ⟨_, ep + 1, rfl, hk.push hkey _, ?_, ?_⟩ (Heap.SameBut.update ..))))
    · rw [stored, if_neg hany]
      have := hp.append hkey (knd.hash k) v
      obtain ⟨l⟩ := es
      simpa using this
    · rw [stored, if_neg hany, List.map_append, List.nodup_append]
      refine ⟨hn, by simp, ?_⟩
      intro a ha b hb
      simp only [List.map_cons, List.map_nil, List.mem_singleton] at hb
      subst hb
      exact fun e => hnot (e ▸ ha)

theorem ctr_takeOut {Q : Option DictEntry → Shared → Prop} (ho : s.heap.get? d = some o) (hd : CtrIs knd C dx o kvs) (hkey : knd.is k key = true) (hsz : kvs.length ≤ sizeLine)
    (hnone : valueAt kvs k = none → Q none { s with toks := s.toks + 1 })
    (hsome : ∀ e, valueAt kvs k = some e.val → ∀ h' o', h'.get? d = some o' → CtrIs knd C dx o' (without kvs k) → Heap.SameBut d s.heap h' → Q (some e) { s with heap := h', toks := s.toks + 1 }) :
    wpAny (model prog w) A (Builtin.Dict.takeOut d key) Q E s := by
  obtain ⟨es, ep, rfl, hk, hp, hn⟩ := hd
  have hes : es.size ≤ sizeLine := by have e1 := hp.length; have e2 : es.toList.length = es.size := by simp
                                      omega
  unfold Builtin.Dict.takeOut
  try with_reducible refine wpAny_holding ?_
  refine wpAny_bind (knd.pyHash hkey ?_)
  refine wpAny_bind (wpAny_dictFind_of (s := { s with toks := s.toks + 1 }) hkey ho rfl hk ?_)
  cases hi : es.findIdx? fun e => knd.is k e.key with
  | none =>
    refine wpAny_pure (hnone ?_)
    rw [← hp.find k]
    have : (es.toList.find? fun e => knd.is k e.key) = none := by
      rw [List.find?_eq_none]
      intro e he
      have := Array.findIdx?_eq_none_iff.mp hi e (Array.mem_toList_iff.mp he)
      simpa using this
    rw [this]; rfl
  | some i =>
    have hl : (es.toList.findIdx? fun e => knd.is k e.key) = some i := by rw [← hi]; obtain ⟨l⟩ := es; simp
    obtain ⟨e, he, hek, hev⟩ := hp.at hl
    refine wpAny_bind (wpAny_dictEntries (s := { s with toks := s.toks + 1 }) ho rfl ?_)
    have he' : es[i]? = some e := by rw [← he]; obtain ⟨l⟩ := es; simp
    rw [he']
    refine wpAny_bind (wpAny_updateDictKeys (hz := hes) (s := { s with toks := s.toks + 1 }) ho rfl (wpAny_pure (hsome e hev _ _ (Heap.get?_update_self _ ho rfl)
      ⟨_, ep + 1, rfl, hk.erase _, ?_, nodup_without hn k⟩ (Heap.SameBut.update ..))))
    have := hp.erase hn hl
    obtain ⟨l⟩ := es
    simpa using this
end

/-! ## The built-in methods of dict upon a counter -/
theorem check_looks {M : Model} {A : Around} {E : Value → Shared → Prop} {s : Shared} {i owner n : String} {self : Value} {rest : List Value} {kw : List (Str × Value)} {Q : Unit → Shared → Prop}
    (hk : builtinKind i = some .slot ∨ builtinKind i = some .method) (hs : splitId i = some (owner, n)) (hi : Looks M s.heap (isInstance self (.type owner)) true) (ha : argsOk i ⟨self :: rest, kw⟩) (q : Q () s) :
    wpAny M A (checkBuiltinCall i ⟨self :: rest, kw⟩) Q E s := by
  rcases hk with hk | hk <;>
  · simp only [checkBuiltinCall, hk, hs]
    refine wpAny_bind (hi.here ?_)
    simp only [Bool.not_true, Bool.false_eq_true, if_false]
    cases hsig : Manifest.signature? i with
    | none => exact wpAny_pure q
    | some sig =>
      simp only [argsOk, hsig] at ha
      have h2 : Bind.checkArgs i sig ⟨self :: rest, kw⟩ = pure () := ha
      show wpAny M A (Bind.checkArgs i sig ⟨self :: rest, kw⟩) Q E s
      rw [h2]; exact wpAny_pure q

theorem kind_get : builtinKind "dict.get" = some .method := by decide +kernel
theorem kind_pop : builtinKind "dict.pop" = some .method := by decide +kernel
theorem kind_getitem : builtinKind "dict.__getitem__" = some .method := by decide +kernel
theorem kind_setitem : builtinKind "dict.__setitem__" = some .slot := by decide +kernel
theorem split_get : splitId "dict.get" = some ("dict", "get") := by decide +kernel
theorem split_pop : splitId "dict.pop" = some ("dict", "pop") := by decide +kernel
theorem split_getitem : splitId "dict.__getitem__" = some ("dict", "__getitem__") := by decide +kernel
theorem split_setitem : splitId "dict.__setitem__" = some ("dict", "__setitem__") := by decide +kernel

section
variable {prog : Program} {w : World} {K : Type} [DecidableEq K] {knd : KeyKind prog w K} {A : Around} {E : Value → Shared → Prop} {s : Shared} {KF : Frag} {C dx d : Addr} {o : Obj} {kvs : List (K × Value)} {k : K} {key v dflt : Value}

/-- what is asked of the class: it is under dict, and under no OrderedDict -/
structure CtrCls (KF : Frag) (C : Addr) : Prop where
  sub : mroIn KF C (.type "dict") = some true
  nord : mroIn KF C (.type "collections.OrderedDict") = some false

theorem CtrIs.type {M : Model} {h : Heap} (ho : h.get? d = some o) (hd : CtrIs knd C dx o kvs) : Looks M h (typeOf (.ref d)) (.ref C) := by
  obtain ⟨es, ep, rfl, _⟩ := hd
  exact (Looks.ld ho).andThen .now
theorem CtrIs.inst {M : Model} {h : Heap} {b : Value} {r : Bool} (X : KF.In h) (ho : h.get? d = some o) (hd : CtrIs knd C dx o kvs) (e : mroIn KF C b = some r) : Looks M h (isInstance (.ref d) b) r :=
  (CtrIs.type ho hd).andThen (looks_mroIn X e)
theorem ctr_notOrdered {name : String} {rest : List Value} {Q : Unit → Shared → Prop} (X : KF.In s.heap) (c : CtrCls KF C) (ho : s.heap.get? d = some o) (hd : CtrIs knd C dx o kvs) (h : Q () s) :
    wpAny (model prog w) A (Builtin.Dict.notOrdered name ⟨.ref d :: rest, []⟩) Q E s := by
  unfold Builtin.Dict.notOrdered
  split
  · refine wpAny_bind ((CtrIs.type ho hd).here ?_)
    show wpAny _ _ (if (Value.ref C != Value.type "dict") = true then _ else _) _ _ s
    rw [if_pos (by simp)]
    refine wpAny_bind ((CtrIs.inst X ho hd c.nord).here ?_)
    simp only [Bool.false_eq_true, if_false]
    exact wpAny_pure h
  · exact wpAny_pure h

theorem ctr_get2 {Q : Value → Shared → Prop} (X : KF.In s.heap) (c : CtrCls KF C) (ho : s.heap.get? d = some o) (hd : CtrIs knd C dx o kvs) (lo : (d == sysModules) = false) (hkey : knd.is k key = true)
    (h : Q ((valueAt kvs k).getD dflt) { s with toks := s.toks + 1 }) : wpAny (model prog w) A (call (.builtin "dict.get") [.ref d, key, dflt]) Q E s := by
  refine wpAny_call (codeAny_call_builtin PySem.F.slot_dict_get.plain PySem.F.entry_dict_get (check_looks (.inr kind_get) split_get (CtrIs.inst X ho hd c.sub) (PySem.F.args_dict_get_3 _ _ _) ?_))
  show wpAny _ _ (dictGet d key >>= _) _ _ s
  refine wpAny_bind (ctr_dictGet ho hd hkey ?_)
  cases hf : valueAt kvs k with
  | some v =>
    rw [hf] at h
    exact wpAny_pure h
  | none =>
    rw [hf] at h
    show wpAny _ _ (Builtin.Dict.missed d key >>= _) _ _ _
    exact wpAny_bind (wpAny_missed_other lo (wpAny_pure h))

theorem ctr_pop_none {Q : Value → Shared → Prop} (X : KF.In s.heap) (c : CtrCls KF C) (ho : s.heap.get? d = some o) (hd : CtrIs knd C dx o kvs) (lo : (d == sysModules) = false) (hkey : knd.is k key = true) (hpart : (keyPart key).isSome = true) (hsz : kvs.length ≤ sizeLine)
    (hv : valueAt kvs k = none) (h : Q dflt { s with toks := s.toks + 1 }) : wpAny (model prog w) A (call (.builtin "dict.pop") [.ref d, key, dflt]) Q E s := by
  refine wpAny_call (codeAny_call_builtin PySem.F.slot_dict_pop.plain PySem.F.entry_dict_pop (check_looks (.inr kind_pop) split_pop (CtrIs.inst X ho hd c.sub) (PySem.F.args_dict_pop_3 _ _ _) ?_))
  unfold Builtin.«dict.pop»
  refine wpAny_bind ?_
  unfold Builtin.Dict.keyAndDefault
  refine wpAny_bind (ctr_notOrdered X c ho hd ?_)
  show wpAny _ _ (pure (d, key, some dflt)) _ _ s
  refine wpAny_pure ?_
  simp only [hpart, if_true]
  refine wpAny_bind (wpAny_pure ?_)
  simp only [Bool.false_eq_true, if_false]
  refine wpAny_bind (ctr_takeOut ho hd hkey hsz (fun _ => ?_) (fun e he => by rw [hv] at he; cases he))
  simp only [Option.isNone_none, if_true]
  exact wpAny_bind (wpAny_missedRemoval_other lo (wpAny_bind (wpAny_rule (wpAny_pure h))))

theorem ctr_pop_there {Q : Value → Shared → Prop} (X : KF.In s.heap) (c : CtrCls KF C) (ho : s.heap.get? d = some o) (hd : CtrIs knd C dx o kvs) (hkey : knd.is k key = true) (hpart : (keyPart key).isSome = true) (hsz : kvs.length ≤ sizeLine)
    (hv : valueAt kvs k = some v) (h : ∀ h' o', h'.get? d = some o' → CtrIs knd C dx o' (without kvs k) → Heap.SameBut d s.heap h' → Q v { s with heap := h', toks := s.toks + 1 }) :
    wpAny (model prog w) A (call (.builtin "dict.pop") [.ref d, key, dflt]) Q E s := by
  refine wpAny_call (codeAny_call_builtin PySem.F.slot_dict_pop.plain PySem.F.entry_dict_pop (check_looks (.inr kind_pop) split_pop (CtrIs.inst X ho hd c.sub) (PySem.F.args_dict_pop_3 _ _ _) ?_))
  unfold Builtin.«dict.pop»
  refine wpAny_bind ?_
  unfold Builtin.Dict.keyAndDefault
  refine wpAny_bind (ctr_notOrdered X c ho hd ?_)
  show wpAny _ _ (pure (d, key, some dflt)) _ _ s
  refine wpAny_pure ?_
  simp only [hpart, if_true]
  refine wpAny_bind (wpAny_pure ?_)
  simp only [Bool.false_eq_true, if_false]
  refine wpAny_bind (ctr_takeOut ho hd hkey hsz (fun hn => by rw [hv] at hn; cases hn) (fun e he h' o' ho' hd' hs' => ?_))
  simp only [Option.isNone_some, Bool.false_eq_true, if_false]
  have hev : e.val = v := by rw [hv] at he; injection he with he; exact he.symm
  refine wpAny_bind (wpAny_letGo (wpAny_pure ?_))
  show Q e.val _
  rw [hev]; exact h h' o' ho' hd' hs'

theorem ctr_seqKey {kk : Value} {name : Str} {Q : Value → Shared → Prop} (X : KF.In s.heap) (hq : noSeq KF C = true) (ho : s.heap.get? d = some o) (hd : CtrIs knd C dx o kvs) (h : Q kk s) : wpAny (model prog w) A (sequenceKey (.ref d) kk name) Q E s := by
  unfold sequenceKey
  refine wpAny_bind ((CtrIs.type ho hd).here ?_)
  refine wpAny_bind ((anyM_none X hq).here ?_)
  rw [if_pos (show (!false) = true from rfl)]
  exact wpAny_pure h
theorem slot_bind {T : String} {name : Str} {id : String} (S : Slot T name id) (self : Value) : bindSpecial (.builtin id) self = pure (.builtin id, [self]) := S.bind self
theorem ctr_special {name : Str} {id : String} {args : List Value} {Q : Option Value → Shared → Prop} (X : KF.In s.heap) (ho : s.heap.get? d = some o) (hd : CtrIs knd C dx o kvs) (S : Slot "dict" name id)
    (hf : findIn KF (.ref C) name = some (some (.builtin id))) (h : wpAny (model prog w) A (call (.builtin id) (.ref d :: args)) (fun v => Q (some v)) E s) : wpAny (model prog w) A (callSpecial? (.ref d) name args) Q E s := by
  unfold callSpecial? specialOf
  refine wpAny_bind (wpAny_bind ((CtrIs.type ho hd).here ((looks_findIn X hf).here ?_)))
  simp only [S.bind]
  exact wpAny_holding (wpAny_bind (wpAny_pure (wpAny_bind (wpAny_mono h (fun v s' h' => wpAny_pure h') fun _ _ h' => h'))))

theorem ctr_getItem {Q : Value → Shared → Prop} (X : KF.In s.heap) (c : CtrCls KF C) (hq : noSeq KF C = true) (hf : findIn KF (.ref C) "__getitem__" = some (some (.builtin "dict.__getitem__"))) (ho : s.heap.get? d = some o) (hd : CtrIs knd C dx o kvs) (hkey : knd.is k key = true)
    (hv : valueAt kvs k = some v) (h : Q v { s with toks := s.toks + 1 }) : wpAny (model prog w) A (getItem (.ref d) key) Q E s := by
  unfold getItem
  try with_reducible refine wpAny_holding ?_
  refine wpAny_bind (ctr_seqKey X hq ho hd ?_)
  refine wpAny_bind (ctr_special X ho hd slot_dict_getitem hf ?_)
  refine wpAny_call (codeAny_call_builtin slot_dict_getitem.plain entry_dict_getitem (check_looks (i := "dict.__getitem__") (owner := "dict") (n := "__getitem__") (self := .ref d) (rest := [key]) (kw := []) (.inr kind_getitem) split_getitem (CtrIs.inst X ho hd c.sub) (PySem.F.args_dict_getitem_2 (.ref d) key) ?_))
  show wpAny _ _ (dictGet d key >>= _) _ _ s
  refine wpAny_bind (ctr_dictGet ho hd hkey ?_)
  rw [hv]
  exact wpAny_pure (wpAny_pure h)

/-- the key is not there: the class's own __missing__ is called -/
theorem ctr_getItem_missing {fm : Addr} {Q : Value → Shared → Prop} (X : KF.In s.heap) (c : CtrCls KF C) (hq : noSeq KF C = true) (hf : findIn KF (.ref C) "__getitem__" = some (some (.builtin "dict.__getitem__"))) (ho : s.heap.get? d = some o) (hd : CtrIs knd C dx o kvs) (lo : (d == sysModules) = false)
    (hm : findIn KF (.ref C) "__missing__" = some (some (.ref fm))) (hfn : typeIn KF (.ref fm) = some (.type "function"))
    (hkey : knd.is k key = true) (hv : valueAt kvs k = none) (h : wpAny (model prog w) A.in1 (call (.ref fm) [.ref d, key]) Q E { s with toks := s.toks + 1 }) : wpAny (model prog w) A (getItem (.ref d) key) Q E s := by
  unfold getItem
  try with_reducible refine wpAny_holding ?_
  refine wpAny_bind (ctr_seqKey X hq ho hd ?_)
  refine wpAny_bind (ctr_special X ho hd slot_dict_getitem hf ?_)
  refine wpAny_call (codeAny_call_builtin slot_dict_getitem.plain entry_dict_getitem (check_looks (i := "dict.__getitem__") (owner := "dict") (n := "__getitem__") (self := .ref d) (rest := [key]) (kw := []) (.inr kind_getitem) split_getitem (CtrIs.inst X ho hd c.sub) (PySem.F.args_dict_getitem_2 (.ref d) key) ?_))
  show wpAny _ _ (dictGet d key >>= _) _ _ s
  refine wpAny_bind (ctr_dictGet ho hd hkey ?_)
  rw [hv]
  show wpAny _ _ (Builtin.Dict.missed d key >>= _) _ _ _
  refine wpAny_bind (wpAny_missed_other lo ?_)
  have T : Looks (model prog w) s.heap (typeOf (.ref d)) (.ref C) := CtrIs.type ho hd
  have keep : ∀ b o, s.heap.get? b = some o → ({ s with toks := s.toks + 1 } : Shared).heap.get? b = some o := fun _ _ e => e
  refine wpAny_bind (T _ _ _ _ keep ?_)
  show wpAny _ _ (if (Value.ref C != Value.type "dict") = true then _ else _) _ _ _
  rw [if_pos (by simp)]
  refine wpAny_bind ?_
  unfold callSpecial? specialOf
  refine wpAny_bind (wpAny_bind (T _ _ _ _ keep (looks_findIn X hm _ _ _ _ keep ?_)))
  refine wpAny_holding (wpAny_bind (bind_fn X _ hfn _ _ _ _ keep ?_))
  refine wpAny_bind (wpAny_mono h (fun v s' hv => ?_) fun _ _ e => e)
  exact wpAny_pure (wpAny_bind (wpAny_rule (wpAny_pure (wpAny_pure hv))))

theorem ctr_setItem {Q : Unit → Shared → Prop} (X : KF.In s.heap) (c : CtrCls KF C) (hq : noSeq KF C = true) (hf : findIn KF (.ref C) "__setitem__" = some (some (.builtin "dict.__setitem__"))) (ho : s.heap.get? d = some o) (hd : CtrIs knd C dx o kvs) (hkey : knd.is k key = true) (hsz : kvs.length ≤ sizeLine)
    (h : ∀ h' o', h'.get? d = some o' → CtrIs knd C dx o' (stored kvs k v) → Heap.SameBut d s.heap h' → Q () { s with heap := h', toks := s.toks + 1 }) : wpAny (model prog w) A (setItem (.ref d) key v) Q E s := by
  unfold setItem
  try with_reducible refine wpAny_holding ?_
  refine wpAny_bind (ctr_seqKey X hq ho hd ?_)
  refine wpAny_bind (ctr_special X ho hd slot_dict_setitem hf ?_)
  refine wpAny_call (codeAny_call_builtin slot_dict_setitem.plain entry_dict_setitem (check_looks (i := "dict.__setitem__") (owner := "dict") (n := "__setitem__") (self := .ref d) (rest := [key, v]) (kw := []) (.inl kind_setitem) split_setitem (CtrIs.inst X ho hd c.sub) (PySem.F.args_dict_setitem_3 (.ref d) key v) ?_))
  show wpAny _ _ (Builtin.Dict.notOrdered "__setitem__" ⟨[.ref d, key, v], []⟩ >>= _) _ _ s
  refine wpAny_bind (ctr_notOrdered X c ho hd ?_)
  show wpAny _ _ (dictSet d key v >>= _) _ _ s
  exact wpAny_bind (ctr_dictSet ho hd hkey hsz fun h' o' ho' hd' hs' => wpAny_pure (wpAny_pure (h h' o' ho' hd' hs')))

/-- a method of the built-in base, fetched from the counter -/
theorem ctr_method {name : Str} {id : String} {ga : String} {pl : Sem Bool} {es : List DictEntry} {n : Nat} {Q : Value × List Value → Shared → Prop} (X : KF.In s.heap) (ho : s.heap.get? d = some o) (hd : CtrIs knd C dx o kvs) (hx : s.heap.get? dx = some (dictOf es n))
    (hga : findIn KF (.ref C) "__getattribute__" = some (some (.builtin ga))) (hcan : Manifest.canonical ga = "object.__getattribute__") (hk : findIn KF (.ref C) "__getattr__" = some none)
    (hf : findIn KF (.ref C) name = some (some (.builtin id))) (ht : typeOf (.builtin id) = pure (.type "method_descriptor")) (hl : getL name es = some none) (h : Q (.builtin id, [.ref d]) s) :
    wpAny (model prog w) A (getMethod (.ref d) name pl) Q E s := by
  unfold getMethod specialOf
  have T := CtrIs.type (M := model prog w) ho hd
  refine wpAny_bind (wpAny_bind (T.here ((looks_findIn X hga).here ?_)))
  dsimp only
  rw [hcan, if_neg (by decide)]
  refine wpAny_bind (wpAny_bind (T.here ((looks_findIn X hk).here ?_)))
  refine wpAny_bind (wpAny_bind (T.here ((looks_findIn X hf).here (wpAny_bind ((Looks.of_pure ht).here ?_)))))
  rw [if_neg (by decide +kernel)]
  obtain ⟨es', ep, rfl, _⟩ := hd
  refine wpAny_bind (wpAny_loadPart ho ?_)
  refine wpAny_bind (wpAny_bind (wpAny_loadPart hx ?_))
  rw [nsLook_of (r := none) (by rw [lookIn_dict]; exact hl)]
  refine wpAny_pure ?_
  exact wpAny_bind (wpAny_rule (wpAny_pure h))

theorem ctr_subscript {value slice : PySem.Expr} {Q : Value → Shared → Prop} (X : KF.In s.heap) (hf : findIn KF (.ref C) "__getitem__" = some (some (.builtin "dict.__getitem__"))) (ho : s.heap.get? d = some o) (hd : CtrIs knd C dx o kvs)
    (h : wpAny (model prog w) A (getItem (.ref d) key) Q E s)
    (hs : subscripted slice false (.ref d) key = operate [.ref d, key] (getItem (.ref d) key) := by with_unfolding_all rfl) :
    wpAny (model prog w) A (subscriptTail value slice (.ref d) key) Q E s := by
  unfold subscriptTail
  refine wpAny_bind ?_
  rw [getitemInPython_of_ne (by simp)]
  unfold specialOf
  refine wpAny_bind (wpAny_bind ((CtrIs.type ho hd).here ((looks_findIn X hf).here ?_)))
  have fin : wpAny (model prog w) A (subscripted slice false (.ref d) key) (fun r s₃ => wpAny (model prog w) A (letTemporaryGo value (.ref d) r >>= fun _ => pure r) Q E s₃) E s := by
    rw [hs]
    exact wpAny_operating (wpAny_mono h (fun r s₃ h₃ => wpAny_bind (wpAny_letTemporaryGo (wpAny_pure h₃))) fun _ _ x => x)
  first
    | exact wpAny_pure (wpAny_bind fin)
    | exact wpAny_bind (wpAny_pure (wpAny_bind fin))
    | exact wpAny_bind fin
end

/-! ## Making an object of a class over dict -/
theorem dn_kind : builtinKind "dict.__new__" = some .builtinFn := by decide +kernel
theorem dn_split : splitId "dict.__new__" = some ("dict", "__new__") := by decide +kernel
theorem dn_quiet : ("dict.__new__".startsWith "lifetime.") = false := by decide +kernel
theorem dn_check (C : Value) : (match Manifest.signature? "dict.__new__" with | some sig => Bind.checkArgs "dict.__new__" sig ⟨[C], []⟩ | none => pure ()) = pure () := by kernel_rfl
theorem dn_mro : ([Value.type "dict", .type "object"].any fun | .type n => !["dict", "object", "collections.defaultdict", "collections.OrderedDict"].contains n | _ => false) = false := by decide +kernel

structure MakesD (M : Model) (h : Heap) (C : Addr) : Prop where
  obj : ∃ oc od cd sl, h.get? C = some ⟨oc, od, .cls cd, sl⟩ ∧ cd.hasDel = false ∧ cd.mro = [.ref C, .type "dict", .type "object"]
  made : Looks M h (Bind.madeBy (.ref C)) (some "dict.__new__")
  base : Looks M h (Bind.staticBase (.ref C)) (.ref C)
  self : Looks M h (isSubtype (.ref C) (.ref C)) true
  dict : Looks M h (isSubtype (.ref C) (.type "dict")) true
  call : Looks M h (specialOf (.ref C) "__call__") (some (.builtin "type.__call__"))
  typ : Looks M h (isInstance (.ref C) (.type "type")) true
  isT : Looks M h (isType (.ref C)) true

theorem makesD_of {K : Frag} {M : Model} {h : Heap} {C : Addr} {oc : Value} {od : Option Addr} {cd : ClassData} {sl : Array (Option Value)} (X : K.In h) (ho : K.lookup C = some ⟨oc, od, .cls cd, sl⟩) (e2 : cd.hasDel = false)
    (e3 : (sl.toList[4]?).join = some (.builtin "dict.__new__")) (e4 : cd.mro = [.ref C, .type "dict", .type "object"])
    (e7 : specialIn K (.ref C) "__call__" = some (some (.builtin "type.__call__"))) (e8 : instIn K (.ref C) (.type "type") = some true) : MakesD M h C := by
  have hc : clsIn K C = some cd := by unfold clsIn; rw [ho]
  have hm : Looks M h (mroOf (.ref C)) cd.mro := (looks_clsIn X hc).andThen .now
  have made : Looks M h (Bind.madeBy (.ref C)) (some "dict.__new__") := by
    intro A Q E s k q
    unfold Bind.madeBy
    refine wpAny_bind (hm A _ E s k ?_)
    rw [e4, List.forIn_cons]
    refine wpAny_bind (wpAny_bind (wpAny_bind (wpAny_bind (wpAny_loadPart (k _ _ (X _ _ ho)) (wpAny_pure ?_)))))
    dsimp only
    rw [← Array.getElem?_toList, e3]
    exact wpAny_pure (wpAny_pure (wpAny_pure q))
  refine ⟨⟨oc, od, cd, sl, X _ _ ho, e2, e4⟩, made, ?_, looks_mroIn X ?_, looks_mroIn X ?_, looks_specialIn X e7, looks_instIn X e8, ?_⟩
  · intro A Q E s k q
    unfold Bind.staticBase
    refine wpAny_bind (hm A _ E s k ?_)
    rw [e4, List.forIn_cons]
    exact wpAny_bind (wpAny_bind (wpAny_bind (made A _ E s k (wpAny_pure (wpAny_pure (wpAny_pure q))))))
  · unfold mroIn; rw [hc, Option.bind_some, e4]; simp
  · unfold mroIn; rw [hc, Option.bind_some, e4]; simp
  · exact (Looks.ld (X _ _ ho)).andThen .now

section
variable {prog : Program} {w : World} {A : Around} {K : Frag} {C : Addr} {R : Result → Shared → Prop} {h : Heap} {g : Array GenState} {d : Drawn} {t : Nat} {os : OsState}
abbrev ctrNew (C dx : Addr) : Obj := { cls := .ref C, dict := some dx, data := .dict #[] 0 }
theorem new_D (Y : MakesD (model prog w) h C)
    (hq : R (.ok (.ret (.ref (h.objs.size + 1)))) ⟨(h.push emptyDict).push (ctrNew C h.objs.size), g, d, t, os⟩) :
    codeAny (model prog w) A (.call (.builtin "dict.__new__") ⟨[.ref C], []⟩) R ⟨h, g, d, t, os⟩ := by
  obtain ⟨⟨oc, od, cd, sl, hC, e2, e4⟩, made, base, self, dict, call, typ, isT⟩ := Y
  refine codeAny_call_builtin_code (Code.quiet_builtin _ dn_quiet) ?_
  have hm : Looks (model prog w) h (mroOf (.ref C)) cd.mro := ((Looks.ld (part := none) hC).andThen .now).andThen .now
  have args := dn_check (.ref C)
  simp only [checkBuiltinCall, dn_kind, dn_split]
  simp only [beq_self_eq_true, if_true]
  refine wpAny_bind (isT.at ?_)
  simp only [Bool.not_true, Bool.false_eq_true, if_false]
  refine wpAny_bind (dict.at ?_)
  simp only [Bool.not_true, Bool.false_eq_true, if_false]
  refine wpAny_bind (base.at (wpAny_bind (made.at ?_)))
  simp only [bne_self_eq_false, Bool.false_eq_true, if_false]
  refine wpAny_of_eq args ?_
  refine codeAny_builtin PySem.F.kt_entry_dict_new ?_
  unfold Builtin.«dict.__new__»
  refine wpAny_bind (isT.at ?_)
  simp only [Bool.not_true, Bool.false_eq_true, if_false]
  refine wpAny_bind (dict.at ?_)
  simp only [Bool.not_true, Bool.false_eq_true, if_false]
  refine wpAny_bind (hm.at ?_)
  rw [e4]
  rw [if_neg (by rw [Bool.not_eq_true]; kernel_rfl)]
  refine wpAny_bind (wpAny_alloc ?_)
  refine wpAny_bind ?_
  show wpAny _ _ (newObjAsIs _ _ _) _ _ _
  unfold newObjAsIs classHasDel
  refine wpAny_bind (wpAny_alloc (wpAny_bind (wpAny_bind (wpAny_load (Heap.get?_push_of_some _ (Heap.get?_push_of_some _ hC)) (wpAny_pure ?_)))))
  rw [e2]
  refine wpAny_pure (wpAny_pure ?_)
  show R _ _
  rw [Heap.size_push]
  exact hq

/-- the class is called without arguments: a new counter, then its own __init__ -/
theorem make_D {fI : Addr} (Y : MakesD (model prog w) h C) (hi : Looks (model prog w) h (typeLookup (.ref C) "__init__") (some (.ref fI)))
    (hb : ∀ self, Looks (model prog w) h (bindSpecial (.ref fI) self) (.ref fI, [self]))
    (hq : codeAny (model prog w) (A.under (.builtin "type.__call__" ⟨[.ref C], []⟩)) (.call (.ref fI) ⟨[.ref (h.objs.size + 1)], []⟩) (InitBack (h.objs.size + 1) R) ⟨(h.push emptyDict).push (ctrNew C h.objs.size), g, d, t, os⟩) :
    codeAny (model prog w) A (.call (.ref C) ⟨[], []⟩) R ⟨h, g, d, t, os⟩ := by
  have Y' := Y
  obtain ⟨⟨oc, od, cd, sl, hC, e2, e4⟩, made, base, self, dict, call, typ, isT⟩ := Y
  refine codeAny_of_tree ?_
  show wpAny _ _ (callAny (.ref C) _) _ _ _
  refine nd_load hC ?_
  show wpAny _ _ (callAny.viaDunder (.ref C) _) _ _ _
  unfold callAny.viaDunder
  refine wpAny_bind (call.at ?_)
  dsimp only
  rw [tc_bind]
  refine wpAny_bind (wpAny_pure (wpAny_bind (wpAny_pure ?_)))
  refine wpAny_pure (a := Fin.again (.call (.builtin "type.__call__") ⟨[.ref C], []⟩)) (And.intro rfl ?_)
  refine codeAny_call_builtin_at (Code.quiet_builtin _ (by decide +kernel)) entry_typeCall (check_slot tc_kind tc_split typ (tc_args _ _ _) ?_)
  unfold Builtin.«type.__call__»
  have hm : Looks (model prog w) h (mroOf (.ref C)) cd.mro := ((Looks.ld (part := none) hC).andThen .now).andThen .now
  have e5 : cd.mro.isEmpty = false := by rw [e4]; rfl
  repeat (first | simp only [e5, Bool.false_eq_true, if_false] | with_reducible refine wpAny_call ?_ | lk)
  refine new_D Y' ?_
  have k : ∀ b o, h.get? b = some o → ((h.push emptyDict).push (ctrNew C h.objs.size)).get? b = some o := fun b o e => Heap.get?_push_of_some _ (Heap.get?_push_of_some _ e)
  have hx : ((h.push emptyDict).push (ctrNew C h.objs.size)).get? (h.objs.size + 1) = some (ctrNew C h.objs.size) := by heap_get
  have t1 : Looks (model prog w) ((h.push emptyDict).push (ctrNew C h.objs.size)) (typeOf (.ref (h.objs.size + 1))) (.ref C) := (Looks.ld hx).andThen .now
  have s1 := self.keeps k
  have i1 := hi.keeps k
  have b1 := (hb (.ref (h.objs.size + 1))).keeps k
  unfold isInstance callSpecial? specialOf
  repeat (first | with_reducible refine wpAny_call ?_ | lk)
  refine codeAny_mono hq fun r s' z => ?_
  rcases r with e | (v | _ | _ | _) <;> first | exact z | exact z.elim | skip
  obtain ⟨rfl, z⟩ := z
  exact wpAny_pure (wpAny_pure z)
end

/-! ## Dicts of ints, told by a function -/
section
variable {K : Type} [DecidableEq K]
def toInt : Value → Option Int
  | .int i _ => some i
  | _ => none
def AllInt (kvs : List (K × Value)) : Prop := ∀ p ∈ kvs, ∃ i t, p.2 = .int i t
def iat (kvs : List (K × Value)) (k : K) : Option Int := (valueAt kvs k).bind toInt
def putAt (f : K → Option Int) (k : K) (v : Int) : K → Option Int := fun y => if y = k then some v else f y
def eraseAt (f : K → Option Int) (k : K) : K → Option Int := fun y => if y = k then none else f y

theorem valueAt_mem {kvs : List (K × Value)} {k : K} {v : Value} (h : valueAt kvs k = some v) : ∃ p ∈ kvs, p.1 = k ∧ p.2 = v := by
  unfold valueAt at h
  obtain ⟨p, hp, rfl⟩ := Option.map_eq_some_iff.mp h
  exact ⟨p, List.mem_of_find?_eq_some hp, by simpa using List.find?_some hp, rfl⟩
theorem AllInt.at {kvs : List (K × Value)} (h : AllInt kvs) {k : K} {v : Value} (e : valueAt kvs k = some v) : ∃ i t, v = .int i t := by
  obtain ⟨p, hp, _, rfl⟩ := valueAt_mem e
  exact h p hp
theorem AllInt.getD {kvs : List (K × Value)} (h : AllInt kvs) (k : K) (d : Int) (t : Tok) : ∃ t', (valueAt kvs k).getD (.int d t) = .int ((iat kvs k).getD d) t' := by
  unfold iat
  cases e : valueAt kvs k with
  | none => exact ⟨t, rfl⟩
  | some v => obtain ⟨i, t', rfl⟩ := h.at e; exact ⟨t', rfl⟩
omit [DecidableEq K] in
theorem AllInt.nil : AllInt ([] : List (K × Value)) := fun _ h => nomatch h
theorem iat_nil (k : K) : iat ([] : List (K × Value)) k = none := rfl
theorem AllInt.iat_some {kvs : List (K × Value)} (h : AllInt kvs) {k : K} {i : Int} (e : iat kvs k = some i) : ∃ t, valueAt kvs k = some (.int i t) := by
  unfold iat at e
  obtain ⟨v, hv, hi⟩ := Option.bind_eq_some_iff.mp e
  obtain ⟨j, t, rfl⟩ := h.at hv
  cases hi
  exact ⟨t, hv⟩
theorem AllInt.iat_none {kvs : List (K × Value)} (h : AllInt kvs) {k : K} (e : iat kvs k = none) : valueAt kvs k = none := by
  cases hv : valueAt kvs k with
  | none => rfl
  | some v => obtain ⟨j, t, rfl⟩ := h.at hv; unfold iat at e; rw [hv] at e; cases e
theorem AllInt.stored {kvs : List (K × Value)} (h : AllInt kvs) (k : K) (i : Int) (t : Tok) : AllInt (stored kvs k (.int i t)) := by
  intro p hp
  unfold PySem.stored at hp
  split at hp
  · obtain ⟨q, hq, rfl⟩ := List.mem_map.mp hp
    split
    · exact ⟨i, t, rfl⟩
    · exact h q hq
  · rcases List.mem_append.mp hp with hp | hp
    · exact h p hp
    · rw [List.mem_singleton.mp hp]; exact ⟨i, t, rfl⟩
theorem AllInt.without {kvs : List (K × Value)} (h : AllInt kvs) (k : K) : AllInt (without kvs k) := fun p hp => h p (List.mem_filter.mp hp).1
theorem without_len (kvs : List (K × Value)) (k : K) : (without kvs k).length ≤ kvs.length := List.length_filter_le _ _
theorem valueAt_cons (p : K × Value) (r : List (K × Value)) (y : K) : valueAt (p :: r) y = if p.1 = y then some p.2 else valueAt r y := by
  unfold valueAt
  rw [List.find?_cons]
  by_cases h : p.1 = y
  · rw [if_pos h]; simp [h]
  · rw [if_neg h]; simp [h]
theorem valueAt_map (kvs : List (K × Value)) (k y : K) (v : Value) : valueAt (kvs.map fun kv => if kv.1 = k then (kv.1, v) else kv) y = if y = k then (valueAt kvs y).map (fun _ => v) else valueAt kvs y := by
  induction kvs with
  | nil => split <;> rfl
  | cons p r ih =>
    rw [List.map_cons, valueAt_cons, ih, valueAt_cons]
    by_cases h1 : p.1 = k
    · rw [if_pos h1]
      by_cases h2 : p.1 = y
      · have h3 : y = k := by rw [← h2, h1]
        rw [if_pos h2, if_pos h2, if_pos h3]; rfl
      · rw [if_neg h2, if_neg h2]
    · rw [if_neg h1]
      by_cases h2 : p.1 = y
      · have h3 : ¬ y = k := fun e => h1 (by rw [h2, e])
        rw [if_pos h2, if_pos h2, if_neg h3]
      · rw [if_neg h2, if_neg h2]
theorem valueAt_append_one (kvs : List (K × Value)) (k y : K) (v : Value) : valueAt (kvs ++ [(k, v)]) y = match valueAt kvs y with | some u => some u | none => if k = y then some v else none := by
  induction kvs with
  | nil => rw [List.nil_append, valueAt_cons]; rfl
  | cons p r ih =>
    rw [List.cons_append, valueAt_cons, valueAt_cons, ih]
    by_cases h : p.1 = y
    · rw [if_pos h, if_pos h]
    · rw [if_neg h, if_neg h]
theorem any_false_valueAt {kvs : List (K × Value)} {k : K} (h : ¬ (kvs.any fun kv => decide (kv.1 = k)) = true) : valueAt kvs k = none := by
  cases e : valueAt kvs k with
  | none => rfl
  | some v =>
    obtain ⟨p, hp, rfl, _⟩ := valueAt_mem e
    exact absurd (List.any_eq_true.mpr ⟨p, hp, by simp⟩) h
theorem any_true_valueAt {kvs : List (K × Value)} {k : K} (h : (kvs.any fun kv => decide (kv.1 = k)) = true) : ∃ v, valueAt kvs k = some v := by
  obtain ⟨p, hp, e⟩ := List.any_eq_true.mp h
  cases e' : valueAt kvs k with
  | some v => exact ⟨v, rfl⟩
  | none =>
    exfalso
    unfold valueAt at e'
    rw [Option.map_eq_none_iff, List.find?_eq_none] at e'
    exact e' p hp e
theorem valueAt_stored (kvs : List (K × Value)) (k y : K) (v : Value) : valueAt (stored kvs k v) y = if y = k then some v else valueAt kvs y := by
  unfold stored
  split
  · rename_i h
    rw [valueAt_map]
    obtain ⟨u, hu⟩ := any_true_valueAt h
    by_cases h2 : y = k
    · rw [if_pos h2, if_pos h2, h2, hu]; rfl
    · rw [if_neg h2, if_neg h2]
  · rename_i h
    rw [valueAt_append_one]
    by_cases h2 : y = k
    · rw [if_pos h2, h2, any_false_valueAt h]; simp
    · rw [if_neg h2]
      cases valueAt kvs y with
      | some u => rfl
      | none => simp [Ne.symm h2]
theorem valueAt_without (kvs : List (K × Value)) (k y : K) : valueAt (without kvs k) y = if y = k then none else valueAt kvs y := by
  induction kvs with
  | nil => split <;> rfl
  | cons p r ih =>
    unfold PySem.without at ih ⊢
    rw [List.filter_cons]
    by_cases h1 : p.1 = k
    · rw [if_neg (by simp [h1]), ih, valueAt_cons]
      by_cases h2 : y = k
      · rw [if_pos h2, if_pos h2]
      · rw [if_neg h2, if_neg h2, if_neg (fun e => h2 (by rw [← e, h1]))]
    · rw [if_pos (by simp [h1]), valueAt_cons, ih, valueAt_cons]
      by_cases h2 : p.1 = y
      · rw [if_pos h2, if_pos h2, if_neg (fun e => h1 (by rw [h2, e]))]
      · rw [if_neg h2, if_neg h2]
theorem iat_stored (kvs : List (K × Value)) (k y : K) (i : Int) (t : Tok) : iat (stored kvs k (.int i t)) y = putAt (iat kvs) k i y := by
  unfold iat putAt
  rw [valueAt_stored]
  by_cases h : y = k
  · rw [if_pos h, if_pos h]; rfl
  · rw [if_neg h, if_neg h]
theorem erase_none {kvs : List (K × Value)} {k : K} (hv : valueAt kvs k = none) : iat kvs = eraseAt (iat kvs) k := by
  funext y
  unfold eraseAt
  by_cases e : y = k
  · rw [if_pos e, e]; unfold iat; rw [hv]; rfl
  · rw [if_neg e]
theorem iat_without (kvs : List (K × Value)) (k y : K) : iat (without kvs k) y = eraseAt (iat kvs) k y := by
  unfold iat eraseAt
  rw [valueAt_without]
  by_cases h : y = k
  · rw [if_pos h, if_pos h]; rfl
  · rw [if_neg h, if_neg h]
end

section
variable {prog : Program} {w : World} {K : Type} [DecidableEq K] (knd : KeyKind prog w K)
/-- a plain dict of ints that tells f, of b pairs or fewer -/
structure DctM (o : Obj) (f : K → Option Int) (b : Nat) : Prop where
  out : ∃ kvs, o.IsDictOf knd kvs ∧ AllInt kvs ∧ iat kvs = f ∧ kvs.length ≤ b
/-- a counter likewise -/
structure CtrM (C dx : Addr) (o : Obj) (f : K → Option Int) (b : Nat) : Prop where
  out : ∃ kvs, CtrIs knd C dx o kvs ∧ AllInt kvs ∧ iat kvs = f ∧ kvs.length ≤ b
variable {knd}
variable {A : Around} {E : Value → Shared → Prop} {s : Shared} {h₀ : Heap} {L d : Addr} {m : Str → Option Value} {news : List (Addr × Obj)} {g : Obj → List (Addr × Obj)} {o : Obj} {f : K → Option Int} {b : Nat} {k : K} {key : Value}

theorem dm_get {Q : Value → Shared → Prop} {i₀ : Int} {t₀ : Tok} (N : News h₀ L s.heap news) (hp : (d, o) ∈ news) (lo : (d == sysModules) = false) (hd : DctM knd o f b) (hkey : knd.is k key = true)
    (h : ∀ t, Q (.int ((f k).getD i₀) t) { s with toks := s.toks + 1 }) : wpAny (model prog w) A (call (.builtin "dict.get") [.ref d, key, .int i₀ t₀]) Q E s := by
  obtain ⟨kvs, hk, hi, rfl, _⟩ := hd.out
  have hD := kda_dict N hp hk
  obtain ⟨t, ht⟩ := hi.getD k i₀ t₀
  exact call_meetsIn PySem.F.slot_dict_get hD.typeIs PySem.F.entry_dict_get (PySem.F.args_dict_get_3 _ _ _) (meets_dict_get_default knd d hkey lo _) ⟨_, hD.mapOf, by rw [ht]; exact h t⟩
theorem dm_item {Q : Value → Shared → Prop} {i : Int} {value slice : PySem.Expr} (N : News h₀ L s.heap news) (hp : (d, o) ∈ news) (hd : DctM knd o f b) (hkey : knd.is k key = true) (hv : f k = some i)
    (h : ∀ t, Q (.int i t) { s with toks := s.toks + 1 })
    (hs : subscripted slice false (.ref d) key = operate [.ref d, key] (getItem (.ref d) key) := by with_unfolding_all rfl) (hg : ∀ r, letTemporaryGo value (.ref d) r = pure () := by intro _; with_unfolding_all rfl) :
    wpAny (model prog w) A (subscriptTail value slice (.ref d) key) Q E s := by
  obtain ⟨kvs, hk, hi, rfl, _⟩ := hd.out
  obtain ⟨t, ht⟩ := hi.iat_some hv
  exact kda_item N hp hk hkey ht (h t) hs hg
theorem dm_set {Q : Unit → Shared → Prop} {i : Int} {t : Tok} (F : Fr h₀ L s.heap m) (N : News h₀ L s.heap news) (U : UpdF d o news g) (hd : DctM knd o f b) (hkey : knd.is k key = true) (hb : b ≤ 1000000)
    (h : ∀ h' o', Fr h₀ L h' m → News h₀ L h' (g o') → DctM knd o' (putAt f k i) (b + 1) → Q () { s with heap := h', toks := s.toks + 1 }) : wpAny (model prog w) A (setItem (.ref d) key (.int i t)) Q E s := by
  obtain ⟨kvs, hk, hi, rfl, hl⟩ := hd.out
  exact kda_set F N U hk hkey (by rw [sizeLine_eq]; omega) fun h' o' F' N' hd' => h h' o' F' N' ⟨⟨_, hd', hi.stored k i t, funext fun y => iat_stored kvs k y i t, Nat.le_trans (stored_length_le _ _ _) (by omega)⟩⟩
theorem dm_pop {Q : Value → Shared → Prop} {dflt : Value} (F : Fr h₀ L s.heap m) (N : News h₀ L s.heap news) (U : UpdF d o news g) (lo : (d == sysModules) = false) (hd : DctM knd o f b) (hkey : knd.is k key = true) (hpart : (keyPart key).isSome = true) (hb : b ≤ 1000000)
    (h : ∀ h' o' v, Fr h₀ L h' m → News h₀ L h' (g o') → DctM knd o' (eraseAt f k) b → Q v { s with heap := h', toks := s.toks + 1 }) : wpAny (model prog w) A (call (.builtin "dict.pop") [.ref d, key, dflt]) Q E s := by
  obtain ⟨kvs, hk, hi, rfl, hl⟩ := hd.out
  cases hv : valueAt kvs k with
  | some v =>
    exact kob_pop F N U hk hkey (.inr ⟨dflt, rfl⟩) hpart (PySem.F.args_dict_pop_3 _ _ _) hv (by rw [sizeLine_eq]; omega) fun h' o' F' N' hd' => h h' o' v F' N' ⟨⟨_, hd', hi.without k, funext fun y => iat_without kvs k y, Nat.le_trans (without_len _ _) hl⟩⟩
  | none =>
    obtain ⟨pre, post, rfl, hg, _, _⟩ := U.split
    have hm := N (d, o) (List.mem_append_right _ (.head _))
    have hD : s.heap.DictOf knd d kvs := Heap.dictOf_iff.mpr ⟨o, hm.1, hk⟩
    have fin : Q dflt { s with toks := s.toks + 1 } := by
      have := h s.heap o dflt F (by rw [hg]; exact N) ⟨⟨kvs, hk, hi, erase_none hv, hl⟩⟩
      exact this
    refine wpAny_call (codeAny_call_builtin PySem.F.slot_dict_pop.plain PySem.F.entry_dict_pop (PySem.F.slot_dict_pop.check _ _ _ _ _ _ _ _ hD.typeIs (PySem.F.args_dict_pop_3 _ _ _) ?_))
    unfold Builtin.«dict.pop»
    refine wpAny_bind ?_
    unfold Builtin.Dict.keyAndDefault
    refine wpAny_bind (wpAny_notOrdered_dict hD.typeIs ?_)
    show wpAny _ _ (pure (d, key, some dflt)) _ _ s
    refine wpAny_pure ?_
    simp only [hpart, if_true]
    refine wpAny_bind (wpAny_pure ?_)
    simp only [Bool.false_eq_true, if_false]
    refine wpAny_bind (wpAny_takeOut_pairs_none hkey hD hv ?_)
    simp only [Option.isNone_none, if_true]
    exact wpAny_bind (wpAny_missedRemoval_other lo (wpAny_bind (wpAny_rule (wpAny_pure fin))))
theorem dm_method {name : Str} {id : String} {pl : Sem Bool} {Q : Value × List Value → Shared → Prop} (slot : Slot "dict" name id) (ty : typeOf (.builtin id) = pure (.type "method_descriptor")) (N : News h₀ L s.heap news) (hp : (d, o) ∈ news) (hd : DctM knd o f b) (h : Q (.builtin id, [.ref d]) s) :
    wpAny (model prog w) A (getMethod (.ref d) name pl) Q E s := by
  obtain ⟨kvs, hk, _⟩ := hd.out
  exact kob_method slot ty N hp hk h

variable {KF : Frag} {C dx : Addr}
theorem cm_get {Q : Value → Shared → Prop} {i₀ : Int} {t₀ : Tok} (F : Fr h₀ L s.heap m) (X : KF.In h₀) (c : CtrCls KF C) (N : News h₀ L s.heap news) (hp : (d, o) ∈ news) (lo : (d == sysModules) = false) (hd : CtrM knd C dx o f b) (hkey : knd.is k key = true)
    (h : ∀ t, Q (.int ((f k).getD i₀) t) { s with toks := s.toks + 1 }) : wpAny (model prog w) A (call (.builtin "dict.get") [.ref d, key, .int i₀ t₀]) Q E s := by
  obtain ⟨kvs, hk, hi, rfl, _⟩ := hd.out
  obtain ⟨t, ht⟩ := hi.getD k i₀ t₀
  exact ctr_get2 (X.keeps F.keep) c (N _ hp).1 hk lo hkey (by rw [ht]; exact h t)
theorem cm_upd {h' : Heap} {o' : Obj} (F : Fr h₀ L s.heap m) (N : News h₀ L s.heap news) (U : UpdF d o news g) (ho : h'.get? d = some o') (hs : Heap.SameBut d s.heap h') : Fr h₀ L h' m ∧ News h₀ L h' (g o') := by
  obtain ⟨pre, post, rfl, hg, a, b⟩ := U.split
  have hm := N (d, o) (List.mem_append_right _ (.head _))
  exact ⟨F.change hs hm.2.1 hm.2.2, hg o' ▸ N.setIn a b hs ho⟩
theorem UpdF.mem {d : Addr} {o : Obj} {news : List (Addr × Obj)} {g : Obj → List (Addr × Obj)} (U : UpdF d o news g) : (d, o) ∈ news := by
  obtain ⟨pre, post, rfl, _⟩ := U.split
  exact List.mem_append_right _ (.head _)
theorem cm_pop {Q : Value → Shared → Prop} {dflt : Value} (F : Fr h₀ L s.heap m) (X : KF.In h₀) (c : CtrCls KF C) (N : News h₀ L s.heap news) (U : UpdF d o news g) (lo : (d == sysModules) = false) (hd : CtrM knd C dx o f b) (hkey : knd.is k key = true) (hpart : (keyPart key).isSome = true) (hb : b ≤ 1000000)
    (h : ∀ h' o' v, Fr h₀ L h' m → News h₀ L h' (g o') → CtrM knd C dx o' (eraseAt f k) b → Q v { s with heap := h', toks := s.toks + 1 }) : wpAny (model prog w) A (call (.builtin "dict.pop") [.ref d, key, dflt]) Q E s := by
  obtain ⟨kvs, hk, hi, rfl, hl⟩ := hd.out
  have ho := (N _ (UpdF.mem U)).1
  cases hv : valueAt kvs k with
  | some v =>
    refine ctr_pop_there (X.keeps F.keep) c ho hk hkey hpart (by rw [sizeLine_eq]; omega) hv fun h' o' ho' hd' hs' => ?_
    obtain ⟨F', N'⟩ := cm_upd F N U ho' hs'
    exact h h' o' v F' N' ⟨⟨_, hd', hi.without k, funext fun y => iat_without kvs k y, Nat.le_trans (without_len _ _) hl⟩⟩
  | none =>
    refine ctr_pop_none (X.keeps F.keep) c ho hk lo hkey hpart (by rw [sizeLine_eq]; omega) hv ?_
    obtain ⟨pre, post, rfl, hg, _, _⟩ := U.split
    have := h s.heap o dflt F (by rw [hg]; exact N) ⟨⟨kvs, hk, hi, erase_none hv, hl⟩⟩
    exact this
theorem cm_set {Q : Unit → Shared → Prop} {i : Int} {t : Tok} (F : Fr h₀ L s.heap m) (X : KF.In h₀) (c : CtrCls KF C) (hq : noSeq KF C = true) (hf : findIn KF (.ref C) "__setitem__" = some (some (.builtin "dict.__setitem__"))) (N : News h₀ L s.heap news) (U : UpdF d o news g) (hd : CtrM knd C dx o f b) (hkey : knd.is k key = true) (hb : b ≤ 1000000)
    (h : ∀ h' o', Fr h₀ L h' m → News h₀ L h' (g o') → CtrM knd C dx o' (putAt f k i) (b + 1) → Q () { s with heap := h', toks := s.toks + 1 }) : wpAny (model prog w) A (setItem (.ref d) key (.int i t)) Q E s := by
  obtain ⟨kvs, hk, hi, rfl, hl⟩ := hd.out
  refine ctr_setItem (X.keeps F.keep) c hq hf (N _ (UpdF.mem U)).1 hk hkey (by rw [sizeLine_eq]; omega) fun h' o' ho' hd' hs' => ?_
  obtain ⟨F', N'⟩ := cm_upd F N U ho' hs'
  exact h h' o' F' N' ⟨⟨_, hd', hi.stored k i t, funext fun y => iat_stored kvs k y i t, Nat.le_trans (stored_length_le _ _ _) (by omega)⟩⟩
/-- an item, there or not (then the class's own __missing__ gives it) -/
theorem cm_getItem {fm : Addr} {Q : Value → Shared → Prop} (F : Fr h₀ L s.heap m) (X : KF.In h₀) (c : CtrCls KF C) (hq : noSeq KF C = true) (hf : findIn KF (.ref C) "__getitem__" = some (some (.builtin "dict.__getitem__"))) (hm : findIn KF (.ref C) "__missing__" = some (some (.ref fm))) (hfn : typeIn KF (.ref fm) = some (.type "function"))
    (N : News h₀ L s.heap news) (hp : (d, o) ∈ news) (lo : (d == sysModules) = false) (hd : CtrM knd C dx o f b) (hkey : knd.is k key = true)
    (hmiss : wpAny (model prog w) A.in1 (call (.ref fm) [.ref d, key]) (fun v s' => ∃ t h' tk, v = .int 0 t ∧ Fr h₀ L h' m ∧ News h₀ L h' news ∧ s' = { s with heap := h', toks := tk }) E { s with toks := s.toks + 1 })
    (h : ∀ t h' tk, Fr h₀ L h' m → News h₀ L h' news → Q (.int ((f k).getD 0) t) { s with heap := h', toks := tk }) : wpAny (model prog w) A (getItem (.ref d) key) Q E s := by
  obtain ⟨kvs, hk, hi, rfl, hl⟩ := hd.out
  have ho := (N _ hp).1
  cases hv : iat kvs k with
  | some i =>
    obtain ⟨t, ht⟩ := hi.iat_some hv
    have := h t s.heap (s.toks + 1) F N
    rw [hv] at this
    exact ctr_getItem (X.keeps F.keep) c hq hf ho hk hkey ht this
  | none =>
    refine ctr_getItem_missing (X.keeps F.keep) c hq hf ho hk lo hm hfn hkey (hi.iat_none hv) (wpAny_mono hmiss (fun v s' z => ?_) fun _ _ z => z)
    obtain ⟨t, h', tk, rfl, F', N', rfl⟩ := z
    have := h t h' tk F' N'
    rw [hv] at this
    exact this
theorem cm_method {name : Str} {id : String} {ga : String} {pl : Sem Bool} {es : List DictEntry} {n : Nat} {Q : Value × List Value → Shared → Prop} (F : Fr h₀ L s.heap m) (X : KF.In h₀) (N : News h₀ L s.heap news) (hp : (d, o) ∈ news) (hx : (dx, dictOf es n) ∈ news) (hd : CtrM knd C dx o f b)
    (hga : findIn KF (.ref C) "__getattribute__" = some (some (.builtin ga))) (hcan : Manifest.canonical ga = "object.__getattribute__") (hk : findIn KF (.ref C) "__getattr__" = some none)
    (hf : findIn KF (.ref C) name = some (some (.builtin id))) (ht : typeOf (.builtin id) = pure (.type "method_descriptor")) (hl : getL name es = some none) (h : Q (.builtin id, [.ref d]) s) :
    wpAny (model prog w) A (getMethod (.ref d) name pl) Q E s := by
  obtain ⟨kvs, hkv, _⟩ := hd.out
  exact ctr_method (X.keeps F.keep) (N _ hp).1 hkv (N _ hx).1 hga hcan hk hf ht hl h
end

/-! ## The text's objects -/
abbrev lawProg : Program := PySem.Challenge.rw_bn0040_01.row.prog
/-- the clock's lambda as an object of the ledger -/
abbrev lamObj (qual : Str) (cl : Addr) (pm : Value) (c' : Addr) (ctv : Value) : Obj :=
  kla_obj (Str.ofString "<lambda>") qual
    { posonlyargs := [], args := [], vararg := none, kwonlyargs := [], kw_defaults := [], kwarg := none, defaults := [] }
    ((Expr.Name (Str.ofString "clock") { line := 317, col := 34, endLine := 317, endCol := 39 }).Subscript
      (Expr.Constant (Const.int 0) 0 { line := 317, col := 40, endLine := 317, endCol := 41 })
      { line := 317, col := 34, endLine := 317, endCol := 42 })
    { kind := ScopeKind.function, names := [(Str.ofString "clock", NameKind.free)], isGenerator := false, isCoroutine := false }
    [(Str.ofString "clock", cl)] pm c' ctv
/-- the store's own dict -/
abbrev storeEs (P : Params) (f st ex ev : Addr) (t1 t2 t3 t4 : Tok) : List DictEntry :=
  [⟨PyData.keyHash P (Str.ofString "clock"), .str (Str.ofString "clock") t1, .ref f⟩, ⟨PyData.keyHash P (Str.ofString "storage"), .str (Str.ofString "storage") t2, .ref st⟩,
   ⟨PyData.keyHash P (Str.ofString "expirations"), .str (Str.ofString "expirations") t3, .ref ex⟩, ⟨PyData.keyHash P (Str.ofString "events"), .str (Str.ofString "events") t4, .ref ev⟩]
/-- the store's part of the ledger; the three dicts that turn stand first -/
abbrev core (P : Params) (x dx f cl c' l st std ex ev : Addr) (t1 t2 t3 t4 : Tok) (qual : Str) (pm ctv : Value) (oc oe : Obj) (n n4 : Nat) (c : Int) (t : Tok) (so eo evo : Obj) (own : List (Addr × Obj)) : List (Addr × Obj) :=
  (st, so) :: (ex, eo) :: (ev, evo) :: (x, instObj 440 dx) :: (dx, dictOf (storeEs P f st ex ev t1 t2 t3 t4) n4) :: (f, lamObj qual cl pm c' ctv) :: (c', oc) :: (cl, oe) :: (l, W.listOf #[.int c t] n) :: (std, dictOf [] 0) :: own
/-- what is known of the addresses and the fixed objects -/
structure SOk (w : World) (x dx f cl c' l st std ex ev : Nat) (qual : Str) (oc oe : Obj) (vs : Array Value) (qt : Tok) : Prop where
  hcc : CtrCls (hd.heap_39 w.params) 317
  lo1 : (st == sysModules) = false
  lo2 : (ex == sysModules) = false
  lo3 : (ev == sysModules) = false
  ord : cl < l ∧ l < c' ∧ c' < f ∧ f < dx ∧ dx < x ∧ x < std ∧ std < st ∧ st < ex ∧ ex < ev
  h2d : oc.data = .fields vs
  h2q : vs[1]? = some (.str qual qt)
  h3d : oe.data = .cell (some (.ref l))
theorem newsAdd {h₀ h : Heap} {L : Addr} {news : List (Addr × Obj)} {q : Addr × Obj} (N : News h₀ L h news) (hq : q ∈ news) : News h₀ L h (q :: news) := fun p hp => by
  rcases List.mem_cons.mp hp with rfl | hp
  · exact N _ hq
  · exact N p hp
theorem newsIn {h₀ h : Heap} {L : Addr} {pre own : List (Addr × Obj)} {q : Addr × Obj} (N : News h₀ L h (q :: (pre ++ own))) : News h₀ L h (pre ++ q :: own) := fun p hp => by
  rcases List.mem_append.mp hp with hp | hp
  · exact N p (.tail _ (List.mem_append_left _ hp))
  · rcases List.mem_cons.mp hp with rfl | hp
    · exact N _ (.head _)
    · exact N p (.tail _ (List.mem_append_right _ hp))
theorem newsDrop {h₀ h : Heap} {L : Addr} {news : List (Addr × Obj)} {q : Addr × Obj} (N : News h₀ L h (q :: news)) : News h₀ L h news := fun p hp => N p (.tail _ hp)
theorem DctM.mono {prog : Program} {w : World} {K : Type} [DecidableEq K] {knd : KeyKind prog w K} {o : Obj} {f : K → Option Int} {b b' : Nat} (h : DctM knd o f b) (hb : b ≤ b') : DctM knd o f b' :=
  let ⟨kvs, a1, a2, a3, a4⟩ := h.out; ⟨⟨kvs, a1, a2, a3, Nat.le_trans a4 hb⟩⟩
theorem CtrM.mono {prog : Program} {w : World} {K : Type} [DecidableEq K] {knd : KeyKind prog w K} {C dx : Addr} {o : Obj} {f : K → Option Int} {b b' : Nat} (h : CtrM knd C dx o f b) (hb : b ≤ b') : CtrM knd C dx o f b' :=
  let ⟨kvs, a1, a2, a3, a4⟩ := h.out; ⟨⟨kvs, a1, a2, a3, Nat.le_trans a4 hb⟩⟩
/-! ## What the methods make of the two tables -/
abbrev Tab := Str → Option Int
def gS (S X : Tab) (c : Int) (key : Str) : Tab := if (X key).getD 0 ≤ c then eraseAt S key else S
def gX (X : Tab) (c : Int) (key : Str) : Tab := if (X key).getD 0 ≤ c then eraseAt X key else X

example (w : World) : PySem.Challenge.rw_bn0040_01.row.prog = PySem.Challenge.rw_bn0040_01.row.prog ∧ (hd.heap_39 w.params) = (hd.heap_39 w.params) := by
  k_fill
  exact ⟨rfl, rfl⟩
local macro_rules | `(tactic| k_room) => `(tactic| (simp only [depth_deeper, depth_in1, recursionLimit] at *; omega))
local macro_rules | `(tactic| walk_at "callWith ref nil") => `(tactic| (k_here; k_dflt (refine' callWith_F0 ?k1 ?_; (case k1 => exact FnAt.of (by k_asm) (by k_mem)); k_whole; try dsimp only [List.nil_append, List.cons_append])))
local macro_rules | `(tactic| walk_at "getMethod ref") => `(tactic| (k_here; k_dflt (first
  | ((with_reducible show wpAny _ _ (getMethod (Value.ref _) (Str.ofString "get") _) _ _ _); refine dm_method (knd := PySem.strKind _ _) PySem.F.slot_dict_get PySem.F.type_dict_get (by k_asm) (by k_mem) (by k_asm) ?_)
  | ((with_reducible show wpAny _ _ (getMethod (Value.ref _) (Str.ofString "pop") _) _ _ _); refine dm_method (knd := PySem.strKind _ _) PySem.F.slot_dict_pop PySem.F.type_dict_pop (by k_asm) (by k_mem) (by k_asm) ?_)
  | ((with_reducible show wpAny _ _ (getMethod (Value.ref _) (Str.ofString "get") _) _ _ _); refine' cm_method (knd := PySem.strKind _ _) ?mF ?mX ?mN ?mp ?mx ?md ?ma ?mb ?mc ?me PySem.F.type_dict_get ?ml ?_; (case mF => k_asm); (case mX => k_asm); (case mN => k_asm); (case mp => k_mem); (case md => k_asm); (case mx => k_mem); (case ma => k_is); (case mb => decide +kernel); (case mc => k_is); (case me => k_is); (case ml => exact rfl); k_whole)
  | ((with_reducible show wpAny _ _ (getMethod (Value.ref _) (Str.ofString "pop") _) _ _ _); refine' cm_method (knd := PySem.strKind _ _) ?mF ?mX ?mN ?mp ?mx ?md ?ma ?mb ?mc ?me PySem.F.type_dict_pop ?ml ?_; (case mF => k_asm); (case mX => k_asm); (case mN => k_asm); (case mp => k_mem); (case md => k_asm); (case mx => k_mem); (case ma => k_is); (case mb => decide +kernel); (case mc => k_is); (case me => k_is); (case ml => exact rfl); k_whole))))
local macro_rules | `(tactic| walk_at "call builtin:dict.get") => `(tactic| (k_here; k_dflt (first
  | (refine' dm_get (knd := PySem.strKind _ _) ?pN ?ph ?plo ?pd (strKind_is _ _ _ _) ?_; (case pN => k_asm); (case ph => k_mem); (case plo => k_asm); (case pd => k_asm); k_whole)
  | (refine' cm_get (knd := PySem.strKind _ _) ?pF ?pX ?pc ?pN ?ph ?plo ?pd (strKind_is _ _ _ _) ?_; (case pF => k_asm); (case pX => k_asm); (case pc => k_asm); (case pN => k_asm); (case ph => k_mem); (case plo => k_asm); (case pd => k_asm); k_whole)); intro t'))
local macro_rules | `(tactic| walk_at "call builtin:dict.pop") => `(tactic| (k_here; k_dflt (first
  | (refine' dm_pop (knd := PySem.strKind _ _) ?pF ?pN ?pU ?plo ?pd (strKind_is _ _ _ _) rfl ?pb ?_; (case pF => k_asm); (case pN => k_asm); (case pU => k_updF); (case plo => k_asm); (case pd => k_asm); (case pb => omega); k_whole)
  | (refine' cm_pop (knd := PySem.strKind _ _) ?pF ?pX ?pc ?pN ?pU ?plo ?pd (strKind_is _ _ _ _) rfl ?pb ?_; (case pF => k_asm); (case pX => k_asm); (case pc => k_asm); (case pN => k_asm); (case pU => k_updF); (case plo => k_asm); (case pd => k_asm); (case pb => omega); k_whole)); intro h' o' v' F' N' d'; (try dsimp only at N'); (try k_sweep)))
local macro_rules | `(tactic| walk_at "call builtin:max") => `(tactic| (k_here; k_dflt (refine' max_two_N ?qh ?qF ?qN ?_; (case qh => first | rfl | assumption); (case qF => k_asm); (case qN => k_asm); k_whole; intro h' tk' F' N'; (try k_sweep))))
local macro_rules | `(tactic| walk_at "binaryOp FloorDiv int int") => `(tactic| (k_here; k_dflt (refine' PyProof.Rows.floordiv_int (hp := .inl (PyProof.noPylong_small ?dvs)) ?dvz ?_; (case dvz => omega); (case dvs => omega); k_whole)))
local macro_rules | `(tactic| walk_at "binaryOp Mod int int") => `(tactic| (k_here; k_dflt (refine' PyProof.Rows.mod_int' ?dvz ?_; (case dvz => omega); k_whole)))
local macro_rules | `(tactic| walk_at "assign Tuple") => `(tactic| (k_here; (with_reducible show wpAny _ _ (assign (Expr.Tuple _ _ _) _ (Value.ref _)) _ _ _); k_dflt (refine' unpackN_ ?ak1 ?ak2 ?ak3 ?ak4 ?ak5 ?ak6 ?_; (case ak1 => k_asm); (case ak2 => k_asm); (case ak3 => exact News.isTup (by k_asm) (by k_mem)); (case ak4 => first | rfl | assumption); (case ak5 => exact rfl); (case ak6 => exact rfl); k_whole); intro h' F' N'; (try k_sweep)))
local macro_rules | `(tactic| walk_at "getMethod ref") => `(tactic| (k_here; (with_reducible show wpAny _ _ (getMethod (Value.ref _) (Str.ofString "sliding_window_keys") _) _ _ _); walk_at "last getMethod ref"))
local macro_rules | `(tactic| walk_at "getMethod ref") => `(tactic| (k_here; (with_reducible show wpAny _ _ (getMethod (Value.ref _) (Str.ofString "clock") _) _ _ _); walk_at "last getMethod ref"))
/-! ## The clock, get -/
section
variable {w : World} {A A₀ : Around} {E : Value → Shared → Prop} {s : Shared} {h₀ base : Heap} {L : Addr} {m mg mb : Str → Option Value} {outer : List Env} {env : Env}
  {p : Program} {loose : List Str} {mean : ExcName → Option Value} {Q : Value → Shared → Prop} {news own : List (Addr × Obj)}
set_option maxHeartbeats 8000000 in
theorem clock_call {f cl c' l : Addr} {qual : Str} {pm ctv : Value} {oc oe : Obj} {vs : Array Value} {qt : Tok} {c : Int} {t : Tok} {n : Nat}
    (B : Below A₀ base outer h₀) (F : Fr h₀ L s.heap m) (X : (hd.heap_39 w.params).In h₀) (N : News h₀ L s.heap news) (T : Top p loose mean mg mb h₀)
    (hA : A.frames = some (env :: outer)) (hf : env.frame = some L) (hke : env.scope.kind = .function) (hroom : A.depth < recursionLimit)
    (h1 : (f, lamObj qual cl pm c' ctv) ∈ news) (h2 : (c', oc) ∈ news) (h2d : oc.data = .fields vs) (h2q : vs[1]? = some (.str qual qt))
    (h3 : (cl, oe) ∈ news) (h3d : oe.data = .cell (some (.ref l))) (h4 : (l, W.listOf #[.int c t] n) ∈ news)
    (k : ∀ h' tk t', Fr h₀ L h' m → News h₀ L h' news → Q (.int c t') { s with heap := h', toks := tk }) :
    wpAny (model lawProg w) A (call (.ref f) []) Q E s := by
  refine wpAny_call ?_
  refine kla_code B F X N T hA hf hke h1 (codeRec_news N h2 h2d h2q) hroom rfl (locs rfl) ?_ rfl rfl rfl (by decide)
  intro g' L' h' FG' F' N' B' X' T'
  have N₂ := newsAdd (newsAdd N' h4) (.tail _ h3)
  dsimp only
  w_top off
  w_strict (walk1
            refine nameX_F N₂ rfl (.head _) h3d ?_ rfl rfl
            (try dsimp only)
            walk1
            walk1
            exact leaveK_ F' N' fun kF kN => k _ _ _ kF kN)
end
local macro_rules | `(tactic| walk_at "call ref nil") => `(tactic| (k_here; k_dflt (refine' clock_call ?qB ?qF ?qX ?qN ?qT ?qA ?qf ?qk ?qr ?q1 ?q2 ?q2d ?q2q ?q3 ?q3d ?q4 ?_; (case qB => k_asm); (case qF => k_asm); (case qX => k_asm); (case qN => k_asm); (case qT => k_asm); (case qA => exact Around.frames_deeper (Below.stack (by assumption))); (case qf => exact rfl); (case qk => exact rfl); (case qr => k_room); (case q1 => k_mem); (case q2 => k_mem); (case q2d => k_asm); (case q2q => k_asm); (case q3 => k_mem); (case q3d => k_asm); (case q4 => k_mem); k_whole; intro h' tk' t' F' N'; (try k_sweep))))

section
variable {w : World} {A A₀ : Around} {E : Value → Shared → Prop} {s : Shared} {h₀ base : Heap} {L : Addr} {m mg mb : Str → Option Value} {outer : List Env} {env : Env}
  {p : Program} {loose : List Str} {mean : ExcName → Option Value} {Q : Value → Shared → Prop} {own : List (Addr × Obj)}
  {x dx f cl c' l st std ex ev : Addr} {t1 t2 t3 t4 : Tok} {qual : Str} {pm ctv : Value} {oc oe so eo evo : Obj} {vs : Array Value} {qt : Tok} {c : Int} {t : Tok} {n n4 : Nat} {S X₁ : Tab} {b : Nat}
set_option maxHeartbeats 8000000 in
theorem get_call {key : Str} {tk : Tok} (hb : b ≤ 1000)
    (B : Below A₀ base outer h₀) (F : Fr h₀ L s.heap m) (X : (hd.heap_39 w.params).In h₀) (T : Top p loose mean mg mb h₀)
    (hA : A.frames = some (env :: outer)) (hf : env.frame = some L) (hke : env.scope.kind = .function) (hroom : A.depth ≤ 900)
    (N : News h₀ L s.heap (core w.params x dx f cl c' l st std ex ev t1 t2 t3 t4 qual pm ctv oc oe n n4 c t so eo evo own))
    (hoff : OwnOff own [st, ex, ev]) (Z : SOk w x dx f cl c' l st std ex ev qual oc oe vs qt)
    (hso : CtrM (PySem.strKind lawProg w) 317 std so S b) (heo : DctM (PySem.strKind lawProg w) eo X₁ b)
    (k : ∀ h' tk t' so' eo', Fr h₀ L h' m → News h₀ L h' (core w.params x dx f cl c' l st std ex ev t1 t2 t3 t4 qual pm ctv oc oe n n4 c t so' eo' evo own) →
      CtrM (PySem.strKind lawProg w) 317 std so' (gS S X₁ c key) b → DctM (PySem.strKind lawProg w) eo' (gX X₁ c key) b →
      Q (.int ((gS S X₁ c key key).getD 0) t') { s with heap := h', toks := tk }) :
    wpAny (model lawProg w) A (call (.ref 365) [.ref x, .str key tk]) Q E s := by
  obtain ⟨hcc, lo1, lo2, lo3, ord, h2d, h2q, h3d⟩ := Z
  unfold gS gX at k
  refine wpAny_call ?_
  w_top off
  w_strict (
    refine' code_def B F X N T hA hf hke ?k6 ?k7 ?k8 ?k9 ?kB ?_ ?c2 ?c3 ?c4 ?c5; (case k6 => k_is); (case k7 => k_is); (case k8 => show _ < 1000; omega); (case k9 => first | exact BindsTo.of_eq rfl | exact binds_K (by k_in) rfl (by k_is) rfl rfl rfl); (case c5 => decide); (case kB => exact locs rfl); (case c2 => exact rfl); (case c3 => exact rfl); (case c4 => exact rfl); k_whole; intro g' L' h' FG' F' N' B' X' T'; (try dsimp only); (try k_fold)
    k_steps
    all_goals (rename Fr h₀ L _ m => kF; rename News h₀ L _ _ => kN)
    · rename ((X₁ key).getD 0 ≤ c) => hle
      simp only [if_pos hle] at k
      exact k _ _ _ _ _ kF kN (by assumption) (by assumption)
    · rename (¬ (X₁ key).getD 0 ≤ c) => hle
      simp only [if_neg hle] at k
      exact k _ _ _ _ _ kF kN (by assumption) (by assumption))
end

/-! ## A counter's item; incr, decr -/
section
variable {w : World} {A A₀ : Around} {E : Value → Shared → Prop} {s : Shared} {h₀ base : Heap} {L : Addr} {m mg mb : Str → Option Value} {outer : List Env} {env : Env}
  {p : Program} {loose : List Str} {mean : ExcName → Option Value} {Q : Value → Shared → Prop} {news : List (Addr × Obj)}
set_option maxHeartbeats 8000000 in
theorem missing_call {d : Addr} {key : Str} {kt : Tok}
    (B : Below A₀ base outer h₀) (F : Fr h₀ L s.heap m) (X : (hd.heap_39 w.params).In h₀) (N : News h₀ L s.heap news) (T : Top p loose mean mg mb h₀)
    (hA : A.frames = some (env :: outer)) (hf : env.frame = some L) (hke : env.scope.kind = .function) (hroom : A.depth < recursionLimit)
    (k : ∀ h' tk t', Fr h₀ L h' m → News h₀ L h' news → Q (.int 0 t') { s with heap := h', toks := tk }) :
    wpAny (model lawProg w) A (call (.ref 122) [.ref d, .str key kt]) Q E s := by
  refine wpAny_call ?_
  w_top off
  w_strict (
    refine' code_def B F X N T hA hf hke ?k6 ?k7 ?k8 ?k9 ?kB ?_ ?c2 ?c3 ?c4 ?c5; (case k6 => k_is); (case k7 => k_is); (case k8 => exact hroom); (case k9 => first | exact BindsTo.of_eq rfl | exact binds_K (by k_in) rfl (by k_is) rfl rfl rfl); (case c5 => decide); (case kB => exact locs rfl); (case c2 => exact rfl); (case c3 => exact rfl); (case c4 => exact rfl); k_whole; intro g' L' h' FG' F' N' B' X' T'; (try dsimp only); (try k_fold)
    k_steps
    all_goals (rename Fr h₀ L _ m => kF; rename News h₀ L _ _ => kN)
    exact k _ _ _ kF kN)
theorem st_getItem {st std : Addr} {so : Obj} {S : Tab} {b : Nat} {key : Str} {kt : Tok}
    (B : Below A₀ base outer h₀) (F : Fr h₀ L s.heap m) (X : (hd.heap_39 w.params).In h₀) (N : News h₀ L s.heap news) (T : Top p loose mean mg mb h₀)
    (hA : A.frames = some (env :: outer)) (hf : env.frame = some L) (hke : env.scope.kind = .function) (hroom : A.depth < recursionLimit)
    (hcc : CtrCls (hd.heap_39 w.params) 317) (hp : (st, so) ∈ news) (lo : (st == sysModules) = false) (hd' : CtrM (PySem.strKind lawProg w) 317 std so S b)
    (k : ∀ h' tk t', Fr h₀ L h' m → News h₀ L h' news → Q (.int ((S key).getD 0) t') { s with heap := h', toks := tk }) :
    wpAny (model lawProg w) A (getItem (.ref st) (.str key kt)) Q E s :=
  cm_getItem (knd := PySem.strKind lawProg w) F X hcc (by k_is) (by k_is) (fm := 122) (by k_is) (by k_is) N hp lo hd' (strKind_is _ _ _ _)
    (missing_call (s := { s with toks := s.toks + 1 }) B F X N T hA hf hke hroom fun h' tk t' F' N' => ⟨t', h', tk, rfl, F', N', rfl⟩) fun t h' tk F' N' => k h' tk t F' N'
theorem st_sub {st std : Addr} {so : Obj} {S : Tab} {b : Nat} {key : Str} {kt : Tok} {value slice : PySem.Expr}
    (B : Below A₀ base outer h₀) (F : Fr h₀ L s.heap m) (X : (hd.heap_39 w.params).In h₀) (N : News h₀ L s.heap news) (T : Top p loose mean mg mb h₀)
    (hA : A.frames = some (env :: outer)) (hf : env.frame = some L) (hke : env.scope.kind = .function) (hroom : A.depth < recursionLimit)
    (hcc : CtrCls (hd.heap_39 w.params) 317) (hp : (st, so) ∈ news) (lo : (st == sysModules) = false) (hd' : CtrM (PySem.strKind lawProg w) 317 std so S b)
    (hs : subscripted slice false (.ref st) (.str key kt) = operate [.ref st, .str key kt] (getItem (.ref st) (.str key kt)))
    (k : ∀ h' tk t', Fr h₀ L h' m → News h₀ L h' news → Q (.int ((S key).getD 0) t') { s with heap := h', toks := tk }) :
    wpAny (model lawProg w) A (subscriptTail value slice (.ref st) (.str key kt)) Q E s := by
  have hd2 := hd'
  obtain ⟨⟨kvs, hk, _⟩⟩ := hd'
  exact ctr_subscript (X.keeps F.keep) (by k_is) (N _ hp).1 hk (st_getItem B F X N T hA hf hke hroom hcc hp lo hd2 k) hs
end
local macro_rules | `(tactic| walk_at "getItem ref str") => `(tactic| (k_here; k_dflt (refine' st_getItem ?qB ?qF ?qX ?qN ?qT ?qA ?qf ?qk ?qr ?qc ?qp ?ql ?qd ?_; (case qB => k_asm); (case qF => k_asm); (case qX => k_asm); (case qN => k_asm); (case qT => k_asm); (case qA => exact Around.frames_deeper (Below.stack (by assumption))); (case qf => exact rfl); (case qk => exact rfl); (case qr => k_room); (case qc => k_asm); (case qp => k_mem); (case ql => k_asm); (case qd => k_asm); k_whole; intro h' tk' t' F' N'; (try k_sweep))))
local macro_rules | `(tactic| walk_at "subscriptTail") => `(tactic| (k_here; (with_reducible show wpAny _ _ (subscriptTail _ _ (Value.ref _) (Value.str _ _)) _ _ _); k_dflt (refine' st_sub ?qB ?qF ?qX ?qN ?qT ?qA ?qf ?qk ?qr ?qc ?qp ?ql ?qd ?qs ?_; (case qB => k_asm); (case qF => k_asm); (case qX => k_asm); (case qN => k_asm); (case qT => k_asm); (case qA => exact Around.frames_deeper (Below.stack (by assumption))); (case qf => exact rfl); (case qk => exact rfl); (case qr => k_room); (case qc => k_asm); (case qp => k_mem); (case ql => k_asm); (case qd => k_asm); (case qs => with_unfolding_all rfl); k_whole; intro h' tk' t' F' N'; (try k_sweep))))
local macro_rules | `(tactic| walk_at "setItem ref str") => `(tactic| (k_here; k_dflt (first
  | (refine' dm_set (knd := PySem.strKind _ _) ?pF ?pN ?pU ?pd (strKind_is _ _ _ _) ?pb ?_; (case pF => k_asm); (case pN => k_asm); (case pU => k_updF); (case pd => k_asm); (case pb => omega); k_whole)
  | (refine' cm_set (knd := PySem.strKind _ _) ?pF ?pX ?pc ?pq ?pf ?pN ?pU ?pd (strKind_is _ _ _ _) ?pb ?_; (case pF => k_asm); (case pX => k_asm); (case pc => k_asm); (case pN => k_asm); (case pU => k_updF); (case pd => k_asm); (case pb => omega); (case pq => k_is); (case pf => k_is); k_whole)); intro h' o' F' N' d'; (try dsimp only at N'); (try k_sweep)))
local macro_rules | `(tactic| walk_at "call ref") => `(tactic| (k_here; (with_reducible show wpAny _ _ (call (Value.ref 365) _) _ _ _); k_dflt (refine' get_call ?qb ?qB ?qF ?qX ?qT ?qA ?qf ?qk ?qr ?qN ?qo ?qZ ?qs ?qe ?_; (case qB => k_asm); (case qF => k_asm); (case qX => k_asm); (case qT => k_asm); (case qA => exact Around.frames_deeper (Below.stack (by assumption))); (case qf => exact rfl); (case qk => exact rfl); (case qr => k_room); (case qN => k_asm); (case qo => k_asm); (case qZ => k_asm); (case qs => k_asm); (case qe => k_asm); (case qb => omega); k_whole; intro h' tk' t' so' eo' F' N' hs' he'; (try k_sweep))))

section
variable {w : World} {A A₀ : Around} {E : Value → Shared → Prop} {s : Shared} {h₀ base : Heap} {L : Addr} {m mg mb : Str → Option Value} {outer : List Env} {env : Env}
  {p : Program} {loose : List Str} {mean : ExcName → Option Value} {Q : Value → Shared → Prop} {own : List (Addr × Obj)}
  {x dx f cl c' l st std ex ev : Addr} {t1 t2 t3 t4 : Tok} {qual : Str} {pm ctv : Value} {oc oe so eo evo : Obj} {vs : Array Value} {qt : Tok} {c : Int} {t : Tok} {n n4 : Nat} {S X₁ : Tab} {b : Nat}
/-- the counter behind incr -/
def iS (S X : Tab) (c : Int) (key : Str) (a : Int) : Tab := putAt (gS S X c key) key ((gS S X c key key).getD 0 + a)
def iX (S X : Tab) (c : Int) (key : Str) (e a : Int) : Tab := if (iS S X c key a key).getD 0 = a then putAt (gX X c key) key (c + e) else gX X c key
def dS (S X : Tab) (c : Int) (key : Str) (a : Int) : Tab := putAt (gS S X c key) key (if 0 > (gS S X c key key).getD 0 - a then 0 else (gS S X c key key).getD 0 - a)
set_option maxHeartbeats 8000000 in
theorem incr_call {key : Str} {tk et ut : Tok} {e a : Int} (hb : b ≤ 900)
    (B : Below A₀ base outer h₀) (F : Fr h₀ L s.heap m) (X : (hd.heap_39 w.params).In h₀) (T : Top p loose mean mg mb h₀)
    (hA : A.frames = some (env :: outer)) (hf : env.frame = some L) (hke : env.scope.kind = .function) (hroom : A.depth ≤ 800)
    (N : News h₀ L s.heap (core w.params x dx f cl c' l st std ex ev t1 t2 t3 t4 qual pm ctv oc oe n n4 c t so eo evo own))
    (hoff : OwnOff own [st, ex, ev]) (Z : SOk w x dx f cl c' l st std ex ev qual oc oe vs qt)
    (hso : CtrM (PySem.strKind lawProg w) 317 std so S b) (heo : DctM (PySem.strKind lawProg w) eo X₁ b)
    (k : ∀ h' tk t' so' eo', Fr h₀ L h' m → News h₀ L h' (core w.params x dx f cl c' l st std ex ev t1 t2 t3 t4 qual pm ctv oc oe n n4 c t so' eo' evo own) →
      CtrM (PySem.strKind lawProg w) 317 std so' (iS S X₁ c key a) (b + 1) → DctM (PySem.strKind lawProg w) eo' (iX S X₁ c key e a) (b + 1) →
      Q (.int ((iS S X₁ c key a key).getD 0) t') { s with heap := h', toks := tk }) :
    wpAny (model lawProg w) A (call (.ref 350) [.ref x, .str key tk, .int e et, .int a ut]) Q E s := by
  have Z' := Z
  obtain ⟨hcc, lo1, lo2, lo3, ord, h2d, h2q, h3d⟩ := Z
  unfold iX iS at k
  refine wpAny_call ?_
  w_top off
  w_strict (
    refine' code_def B F X N T hA hf hke ?k6 ?k7 ?k8 ?k9 ?kB ?_ ?c2 ?c3 ?c4 ?c5; (case k6 => k_is); (case k7 => k_is); (case k8 => show _ < 1000; omega); (case k9 => first | exact BindsTo.of_eq rfl | exact binds_K (by k_in) rfl (by k_is) rfl rfl rfl); (case c5 => decide); (case kB => exact locs rfl); (case c2 => exact rfl); (case c3 => exact rfl); (case c4 => exact rfl); k_whole; intro g' L' h' FG' F' N' B' X' T'; (try dsimp only); (try k_fold)
    k_steps
    all_goals (rename Fr h₀ L _ m => kF; rename News h₀ L _ _ => kN)
    · rename ((putAt (gS S X₁ c key) key ((gS S X₁ c key key).getD 0 + a) key).getD 0 = a) => hle
      simp only [if_pos hle] at k
      exact k _ _ _ _ _ kF kN (by assumption) (by assumption)
    · rename ((putAt (gS S X₁ c key) key ((gS S X₁ c key key).getD 0 + a) key).getD 0 ≠ a) => hle
      simp only [if_neg hle] at k
      exact k _ _ _ _ _ kF kN (by assumption) (DctM.mono (by assumption) (by omega)))

set_option maxHeartbeats 8000000 in
theorem decr_call {key : Str} {tk ut : Tok} {a : Int} (hb : b ≤ 900)
    (B : Below A₀ base outer h₀) (F : Fr h₀ L s.heap m) (X : (hd.heap_39 w.params).In h₀) (T : Top p loose mean mg mb h₀)
    (hA : A.frames = some (env :: outer)) (hf : env.frame = some L) (hke : env.scope.kind = .function) (hh : A.handled = none) (hroom : A.depth ≤ 800)
    (N : News h₀ L s.heap (core w.params x dx f cl c' l st std ex ev t1 t2 t3 t4 qual pm ctv oc oe n n4 c t so eo evo own))
    (hoff : OwnOff own [st, ex, ev]) (Z : SOk w x dx f cl c' l st std ex ev qual oc oe vs qt)
    (hso : CtrM (PySem.strKind lawProg w) 317 std so S b) (heo : DctM (PySem.strKind lawProg w) eo X₁ b)
    (k : ∀ h' tk t' so' eo', Fr h₀ L h' m → News h₀ L h' (core w.params x dx f cl c' l st std ex ev t1 t2 t3 t4 qual pm ctv oc oe n n4 c t so' eo' evo own) →
      CtrM (PySem.strKind lawProg w) 317 std so' (dS S X₁ c key a) (b + 1) → DctM (PySem.strKind lawProg w) eo' (gX X₁ c key) (b + 1) →
      Q (.int ((dS S X₁ c key a key).getD 0) t') { s with heap := h', toks := tk }) :
    wpAny (model lawProg w) A (call (.ref 358) [.ref x, .str key tk, .int a ut]) Q E s := by
  have Z' := Z
  obtain ⟨hcc, lo1, lo2, lo3, ord, h2d, h2q, h3d⟩ := Z
  unfold dS at k
  refine wpAny_call ?_
  w_top off
  w_strict (
    refine' code_def B F X N T hA hf hke ?k6 ?k7 ?k8 ?k9 ?kB ?_ ?c2 ?c3 ?c4 ?c5; (case k6 => k_is); (case k7 => k_is); (case k8 => show _ < 1000; omega); (case k9 => first | exact BindsTo.of_eq rfl | exact binds_K (by k_in) rfl (by k_is) rfl rfl rfl); (case c5 => decide); (case kB => exact locs rfl); (case c2 => exact rfl); (case c3 => exact rfl); (case c4 => exact rfl); k_whole; intro g' L' h' FG' F' N' B' X' T'; (try dsimp only); (try k_fold)
    k_steps
    all_goals (rename Fr h₀ L _ m => kF; rename News h₀ L _ _ => kN)
    exact k _ _ _ _ _ kF kN (by assumption) (DctM.mono (by assumption) (by omega)))
end

/-! ## clear, get_expiry, sliding_window_keys -/
section
variable {w : World} {A A₀ : Around} {E : Value → Shared → Prop} {s : Shared} {h₀ base : Heap} {L : Addr} {m mg mb : Str → Option Value} {outer : List Env} {env : Env}
  {p : Program} {loose : List Str} {mean : ExcName → Option Value} {Q : Value → Shared → Prop} {own : List (Addr × Obj)}
  {x dx f cl c' l st std ex ev : Addr} {t1 t2 t3 t4 : Tok} {qual : Str} {pm ctv : Value} {oc oe so eo evo : Obj} {vs : Array Value} {qt : Tok} {c : Int} {t : Tok} {n n4 : Nat} {S X₁ : Tab} {b be : Nat}
theorem erase_nothing (key : Str) : eraseAt (fun _ : Str => (none : Option Int)) key = fun _ => none := by
  funext y; unfold eraseAt; split <;> rfl
set_option maxHeartbeats 8000000 in
theorem clear_call {key : Str} {tk : Tok} (hb : b ≤ 900) (hbe : be ≤ 900)
    (B : Below A₀ base outer h₀) (F : Fr h₀ L s.heap m) (X : (hd.heap_39 w.params).In h₀) (T : Top p loose mean mg mb h₀)
    (hA : A.frames = some (env :: outer)) (hf : env.frame = some L) (hke : env.scope.kind = .function) (hh : A.handled = none) (hroom : A.depth ≤ 800)
    (N : News h₀ L s.heap (core w.params x dx f cl c' l st std ex ev t1 t2 t3 t4 qual pm ctv oc oe n n4 c t so eo evo own))
    (hoff : OwnOff own [st, ex, ev]) (Z : SOk w x dx f cl c' l st std ex ev qual oc oe vs qt)
    (hso : CtrM (PySem.strKind lawProg w) 317 std so S b) (heo : DctM (PySem.strKind lawProg w) eo X₁ b) (hev : DctM (PySem.strKind lawProg w) evo (fun _ => none) be)
    (k : ∀ h' tk so' eo' evo', Fr h₀ L h' m → News h₀ L h' (core w.params x dx f cl c' l st std ex ev t1 t2 t3 t4 qual pm ctv oc oe n n4 c t so' eo' evo' own) →
      CtrM (PySem.strKind lawProg w) 317 std so' (eraseAt S key) b → DctM (PySem.strKind lawProg w) eo' (eraseAt X₁ key) b → DctM (PySem.strKind lawProg w) evo' (fun _ => none) be →
      Q .none { s with heap := h', toks := tk }) :
    wpAny (model lawProg w) A (call (.ref 372) [.ref x, .str key tk]) Q E s := by
  have Z' := Z
  obtain ⟨hcc, lo1, lo2, lo3, ord, h2d, h2q, h3d⟩ := Z
  refine wpAny_call ?_
  w_top off
  w_strict (
    refine' code_def B F X N T hA hf hke ?k6 ?k7 ?k8 ?k9 ?kB ?_ ?c2 ?c3 ?c4 ?c5; (case k6 => k_is); (case k7 => k_is); (case k8 => show _ < 1000; omega); (case k9 => first | exact BindsTo.of_eq rfl | exact binds_K (by k_in) rfl (by k_is) rfl rfl rfl); (case c5 => decide); (case kB => exact locs rfl); (case c2 => exact rfl); (case c3 => exact rfl); (case c4 => exact rfl); k_whole; intro g' L' h' FG' F' N' B' X' T'; (try dsimp only); (try k_fold)
    k_steps
    all_goals (rename Fr h₀ L _ m => kF; rename News h₀ L _ _ => kN)
    rename DctM _ _ (eraseAt (fun _ => none) key) _ => q
    rw [erase_nothing] at q
    exact k _ _ _ _ _ kF kN (by assumption) (by assumption) q)
set_option maxHeartbeats 8000000 in
theorem expiry_call {key : Str} {tk : Tok}
    (B : Below A₀ base outer h₀) (F : Fr h₀ L s.heap m) (X : (hd.heap_39 w.params).In h₀) (T : Top p loose mean mg mb h₀)
    (hA : A.frames = some (env :: outer)) (hf : env.frame = some L) (hke : env.scope.kind = .function) (hh : A.handled = none) (hroom : A.depth ≤ 800)
    (N : News h₀ L s.heap (core w.params x dx f cl c' l st std ex ev t1 t2 t3 t4 qual pm ctv oc oe n n4 c t so eo evo own))
    (Z : SOk w x dx f cl c' l st std ex ev qual oc oe vs qt)
    (heo : DctM (PySem.strKind lawProg w) eo X₁ b)
    (k : ∀ h' tk t', Fr h₀ L h' m → News h₀ L h' (core w.params x dx f cl c' l st std ex ev t1 t2 t3 t4 qual pm ctv oc oe n n4 c t so eo evo own) →
      Q (.int ((X₁ key).getD c) t') { s with heap := h', toks := tk }) :
    wpAny (model lawProg w) A (call (.ref 387) [.ref x, .str key tk]) Q E s := by
  have Z' := Z
  obtain ⟨hcc, lo1, lo2, lo3, ord, h2d, h2q, h3d⟩ := Z
  refine wpAny_call ?_
  w_top off
  w_strict (
    refine' code_def B F X N T hA hf hke ?k6 ?k7 ?k8 ?k9 ?kB ?_ ?c2 ?c3 ?c4 ?c5; (case k6 => k_is); (case k7 => k_is); (case k8 => show _ < 1000; omega); (case k9 => first | exact BindsTo.of_eq rfl | exact binds_K (by k_in) rfl (by k_is) rfl rfl rfl); (case c5 => decide); (case kB => exact locs rfl); (case c2 => exact rfl); (case c3 => exact rfl); (case c4 => exact rfl); k_whole; intro g' L' h' FG' F' N' B' X' T'; (try dsimp only); (try k_fold)
    k_steps
    all_goals (rename Fr h₀ L _ m => kF; rename News h₀ L _ _ => kN)
    exact k _ _ _ kF kN)
end
theorem log2_of {a : Int} (h : a.natAbs < 10 ^ 40) : a.natAbs.log2 < 1920 := by
  by_cases h0 : a.natAbs = 0
  · rw [h0]; decide
  · exact (Nat.log2_lt h0).mpr (Nat.lt_trans h (by decide))
theorem itext_len {a : Int} (h : a.natAbs < 10 ^ 40) : (Str.ofString (toString a)).length ≤ 41 := by
  rw [PySem.ofString_length]
  exact int_text_length_le10 (by decide) h
theorem len_empty : Str.empty.length = 0 := by decide
theorem len_slash : (Str.ofString "/").length = 1 := by decide
/-- a window's name -/
def wkey (key : Str) (i : Int) : Str := key ++ Str.ofString "/" ++ Str.ofString (toString i)
local macro_rules | `(tactic| walk_at "formatField str") => `(tactic| (k_here; k_dflt (refine' formatField_str ?_ ?ffz; (case ffz => (rw [sizeLine_eq]; omega)); k_whole; intro t' tk')))
local macro_rules | `(tactic| walk_at "formatField int") => `(tactic| (k_here; k_dflt (refine' wpAny_formatField_int ?ffd ?_; (case ffd => exact log2_of (by omega)); k_whole)))
local macro_rules | `(tactic| walk_at "And") => `(tactic| (k_here; (with_reducible show _ ≤ sizeLine ∧ _); refine ⟨by (simp only [PySem.Str.length_append, len_empty, len_slash, sizeLine_eq]; omega), ?_⟩))
section
variable {w : World} {A A₀ : Around} {E : Value → Shared → Prop} {s : Shared} {h₀ base : Heap} {L : Addr} {m mg mb : Str → Option Value} {outer : List Env} {env : Env}
  {p : Program} {loose : List Str} {mean : ExcName → Option Value} {Q : Value → Shared → Prop}
set_option maxHeartbeats 8000000 in
theorem keys_call {q₀ : Addr} {key : Str} {tk et at' : Tok} {e a : Int} {news : List (Addr × Obj)} (hq : (q₀, methodObj (.ref 74) (.ref 440)) ∈ news) (he : 0 < e) (he2 : e ≤ 100) (hea : e ≤ a) (hbig : a < 10 ^ 39) (hkl : key.length ≤ 100)
    (B : Below A₀ base outer h₀) (F : Fr h₀ L s.heap m) (X : (hd.heap_39 w.params).In h₀) (T : Top p loose mean mg mb h₀)
    (hA : A.frames = some (env :: outer)) (hf : env.frame = some L) (hke : env.scope.kind = .function) (hh : A.handled = none) (hroom : A.depth ≤ 800)
    (N : News h₀ L s.heap news)
    (k : ∀ h' tk q t1 t2, Fr h₀ L h' m → News h₀ L h' ((q, { cls := .type "tuple", data := .seq #[.str (wkey key (a.fdiv e - 1)) t1, .str (wkey key (a.fdiv e)) t2] }) :: news) → (∀ p ∈ news, p.1 < q) → Q (.ref q) { s with heap := h', toks := tk }) :
    wpAny (model lawProg w) A (call (.ref q₀) [.str key tk, .int e et, .int a at']) Q E s := by
  unfold wkey at k
  have g1 : 0 ≤ a.fdiv e := Int.fdiv_nonneg (by omega) (by omega)
  have g2 : a.fdiv e ≤ a := by
    rw [Int.fdiv_eq_ediv_of_nonneg _ (by omega)]; exact Int.ediv_le_self _ (by omega)
  have g3 : (a - e).fdiv e = a.fdiv e - 1 := by
    rw [Int.fdiv_eq_ediv_of_nonneg _ (by omega), Int.fdiv_eq_ediv_of_nonneg _ (by omega), Int.sub_ediv_of_dvd _ (Int.dvd_refl e), Int.ediv_self (by omega)]
  have g4 := itext_len (a := (a - e).fdiv e) (by omega)
  have g5 := itext_len (a := a.fdiv e) (by omega)
  refine call_meth N hq ?_
  w_top off
  w_strict (
    refine' code_def B F X N T hA hf hke ?k6 ?k7 ?k8 ?k9 ?kB ?_ ?c2 ?c3 ?c4 ?c5; (case k6 => k_is); (case k7 => k_is); (case k8 => show _ < 1000; omega); (case k9 => first | exact BindsTo.of_eq rfl | exact binds_K (by k_in) rfl (by k_is) rfl rfl rfl); (case c5 => decide); (case kB => exact locs rfl); (case c2 => exact rfl); (case c3 => exact rfl); (case c4 => exact rfl); k_whole; intro g' L' h' FG' F' N' B' X' T'; (try dsimp only); (try k_fold)
    k_steps
    all_goals (rename Fr h₀ L _ m => kF; rename News h₀ L _ _ => kN)
    rename (∀ p ∈ news, _) => l1
    rw [g3] at kN
    simp only [PySem.Str.empty_append] at kN
    exact k _ _ _ _ _ kF kN l1)
end

/-! ## The two windows' values, get_sliding_window, clear_sliding_window -/
local macro_rules | `(tactic| walk_at "call ref") => `(tactic| (k_here; (with_reducible show wpAny _ _ (call (Value.ref 365) _) _ _ _); k_dflt (refine' get_call ?qb ?qB ?qF ?qX ?qT ?qA ?qf ?qk ?qr ?qN ?qo ?qZ ?qs ?qe ?_; (case qB => k_asm); (case qF => k_asm); (case qX => k_asm); (case qT => k_asm); (case qA => exact Around.frames_deeper (Below.stack (by assumption))); (case qf => exact rfl); (case qk => exact rfl); (case qr => k_room); (case qN => first | k_asm | exact newsDrop (by k_asm) | exact newsDrop (newsDrop (by k_asm)) | exact newsIn (pre := [_, _, _, _, _, _, _, _, _, _]) (by k_asm) | exact newsIn (pre := [_, _, _, _, _, _, _, _, _, _]) (newsIn (pre := [_, _, _, _, _, _, _, _, _, _, _]) (by k_asm))); (case qo => k_asm); (case qZ => k_asm); (case qs => k_asm); (case qe => k_asm); (case qb => omega); k_whole; intro h' tk' t' so' eo' F' N' hs' he'; (try k_sweep))))
local macro_rules | `(tactic| walk_at "call ref") => `(tactic| (k_here; (with_reducible show wpAny _ _ (call (Value.ref 350) _) _ _ _); k_dflt (refine' incr_call ?qb ?qB ?qF ?qX ?qT ?qA ?qf ?qk ?qr ?qN ?qo ?qZ ?qs ?qe ?_; (case qB => k_asm); (case qF => k_asm); (case qX => k_asm); (case qT => k_asm); (case qA => exact Around.frames_deeper (Below.stack (by assumption))); (case qf => exact rfl); (case qk => exact rfl); (case qr => k_room); (case qN => first | k_asm | exact newsDrop (by k_asm) | exact newsDrop (newsDrop (by k_asm)) | exact newsIn (pre := [_, _, _, _, _, _, _, _, _, _]) (by k_asm) | exact newsIn (pre := [_, _, _, _, _, _, _, _, _, _]) (newsIn (pre := [_, _, _, _, _, _, _, _, _, _, _]) (by k_asm))); (case qo => k_asm); (case qZ => k_asm); (case qs => k_asm); (case qe => k_asm); (case qb => omega); k_whole; intro h' tk' t' so' eo' F' N' hs' he'; (try k_sweep))))
local macro_rules | `(tactic| walk_at "call ref") => `(tactic| (k_here; (with_reducible show wpAny _ _ (call (Value.ref 358) _) _ _ _); k_dflt (refine' decr_call ?qb ?qB ?qF ?qX ?qT ?qA ?qf ?qk ?qh ?qr ?qN ?qo ?qZ ?qs ?qe ?_; (case qB => k_asm); (case qF => k_asm); (case qX => k_asm); (case qT => k_asm); (case qA => exact Around.frames_deeper (Below.stack (by assumption))); (case qf => exact rfl); (case qk => exact rfl); (case qr => k_room); (case qN => first | k_asm | exact newsDrop (by k_asm) | exact newsDrop (newsDrop (by k_asm)) | exact newsIn (pre := [_, _, _, _, _, _, _, _, _, _]) (by k_asm) | exact newsIn (pre := [_, _, _, _, _, _, _, _, _, _]) (newsIn (pre := [_, _, _, _, _, _, _, _, _, _, _]) (by k_asm))); (case qo => k_asm); (case qZ => k_asm); (case qs => k_asm); (case qe => k_asm); (case qh => first | rfl | assumption); (case qb => omega); k_whole; intro h' tk' t' so' eo' F' N' hs' he'; (try k_sweep))))
local macro_rules | `(tactic| walk_at "call ref") => `(tactic| (k_here; (with_reducible show wpAny _ _ (call (Value.ref 372) _) _ _ _); k_dflt (refine' clear_call ?qb ?qb2 ?qB ?qF ?qX ?qT ?qA ?qf ?qk ?qh ?qr ?qN ?qo ?qZ ?qs ?qe ?qv ?_; (case qB => k_asm); (case qF => k_asm); (case qX => k_asm); (case qT => k_asm); (case qA => exact Around.frames_deeper (Below.stack (by assumption))); (case qf => exact rfl); (case qk => exact rfl); (case qr => k_room); (case qN => first | k_asm | exact newsDrop (by k_asm) | exact newsDrop (newsDrop (by k_asm)) | exact newsIn (pre := [_, _, _, _, _, _, _, _, _, _]) (by k_asm) | exact newsIn (pre := [_, _, _, _, _, _, _, _, _, _]) (newsIn (pre := [_, _, _, _, _, _, _, _, _, _, _]) (by k_asm))); (case qo => k_asm); (case qZ => k_asm); (case qs => k_asm); (case qe => k_asm); (case qh => first | rfl | assumption); (case qv => k_asm); (case qb => omega); (case qb2 => omega); k_whole; intro h' tk' so' eo' evo' F' N' hs' he' hv'; (try k_sweep))))
local macro_rules | `(tactic| walk_at "call ref") => `(tactic| (k_here; (with_reducible show wpAny _ _ (call (Value.ref 387) _) _ _ _); k_dflt (refine' expiry_call ?qB ?qF ?qX ?qT ?qA ?qf ?qk ?qh ?qr ?qN ?qZ ?qe ?_; (case qB => k_asm); (case qF => k_asm); (case qX => k_asm); (case qT => k_asm); (case qA => exact Around.frames_deeper (Below.stack (by assumption))); (case qf => exact rfl); (case qk => exact rfl); (case qr => k_room); (case qN => first | k_asm | exact newsDrop (by k_asm) | exact newsDrop (newsDrop (by k_asm)) | exact newsIn (pre := [_, _, _, _, _, _, _, _, _, _]) (by k_asm) | exact newsIn (pre := [_, _, _, _, _, _, _, _, _, _]) (newsIn (pre := [_, _, _, _, _, _, _, _, _, _, _]) (by k_asm))); (case qZ => k_asm); (case qe => k_asm); (case qh => first | rfl | assumption); k_whole; intro h' tk' t' F' N'; (try k_sweep))))
local macro_rules | `(tactic| walk_at "call ref") => `(tactic| (k_here; (with_reducible show wpAny _ _ (call (Value.ref _) [Value.str _ _, Value.int _ _, Value.int _ _]) _ _ _); k_dflt (refine' keys_call ?qm ?q1 ?q2 ?q3 ?q4 ?q5 ?qB ?qF ?qX ?qT ?qA ?qf ?qk ?qh ?qr ?qN ?_; (case qN => k_asm); (case qm => k_mem); (case qB => k_asm); (case qF => k_asm); (case qX => k_asm); (case qT => k_asm); (case qA => exact Around.frames_deeper (Below.stack (by assumption))); (case qf => exact rfl); (case qk => exact rfl); (case qr => k_room); (case qh => first | rfl | assumption); (case q1 => omega); (case q2 => omega); (case q3 => omega); (case q4 => omega); (case q5 => first | assumption | omega | decide); k_whole; intro h' tk' q' u1' u2' F' N' l1'; (try k_lt l1'); (try k_sweep))))
def nS (S X : Tab) (c : Int) (pk ck : Str) : Tab := gS (gS S X c pk) (gX X c pk) c ck
def nX (X : Tab) (c : Int) (pk ck : Str) : Tab := gX (gX X c pk) c ck
def nP (S X : Tab) (c : Int) (pk : Str) : Int := (gS S X c pk pk).getD 0
def nC (S X : Tab) (c : Int) (pk ck : Str) : Int := (nS S X c pk ck ck).getD 0
abbrev tup4 (a b c d : Value) : Obj := { cls := .type "tuple", data := .seq #[a, b, c, d] }
section
variable {w : World} {A A₀ : Around} {E : Value → Shared → Prop} {s : Shared} {h₀ base : Heap} {L : Addr} {m mg mb : Str → Option Value} {outer : List Env} {env : Env}
  {p : Program} {loose : List Str} {mean : ExcName → Option Value} {Q : Value → Shared → Prop} {own : List (Addr × Obj)}
  {x dx f cl c' l st std ex ev : Addr} {t1 t2 t3 t4 : Tok} {qual : Str} {pm ctv : Value} {oc oe so eo evo : Obj} {vs : Array Value} {qt : Tok} {c : Int} {t : Tok} {n n4 : Nat} {S X₁ : Tab} {b be : Nat}
set_option maxHeartbeats 8000000 in
theorem info_call {pk ck : Str} {tk1 tk2 et nt : Tok} {e a : Int} (hb : b ≤ 900) (he : 0 < e) (he2 : e ≤ 100)
    (B : Below A₀ base outer h₀) (F : Fr h₀ L s.heap m) (X : (hd.heap_39 w.params).In h₀) (T : Top p loose mean mg mb h₀)
    (hA : A.frames = some (env :: outer)) (hf : env.frame = some L) (hke : env.scope.kind = .function) (hh : A.handled = none) (hroom : A.depth ≤ 700)
    (N : News h₀ L s.heap (core w.params x dx f cl c' l st std ex ev t1 t2 t3 t4 qual pm ctv oc oe n n4 c t so eo evo own))
    (hoff : OwnOff own [st, ex, ev]) (Z : SOk w x dx f cl c' l st std ex ev qual oc oe vs qt)
    (hso : CtrM (PySem.strKind lawProg w) 317 std so S b) (heo : DctM (PySem.strKind lawProg w) eo X₁ b)
    (k : ∀ h' tk q so' eo' u1 u2 u3 u4, Fr h₀ L h' m → News h₀ L h' ((q, tup4 (.int (nP S X₁ c pk) u1) (.int (if nP S X₁ c pk = 0 then 0 else e - (a - e).fmod e) u2) (.int (nC S X₁ c pk ck) u3) (.int (e - a.fmod e + e) u4)) :: core w.params x dx f cl c' l st std ex ev t1 t2 t3 t4 qual pm ctv oc oe n n4 c t so' eo' evo own) →
      AllLt q (core w.params x dx f cl c' l st std ex ev t1 t2 t3 t4 qual pm ctv oc oe n n4 c t so' eo' evo own) → CtrM (PySem.strKind lawProg w) 317 std so' (nS S X₁ c pk ck) b → DctM (PySem.strKind lawProg w) eo' (nX X₁ c pk ck) b → Q (.ref q) { s with heap := h', toks := tk }) :
    wpAny (model lawProg w) A (call (.ref 409) [.ref x, .str pk tk1, .str ck tk2, .int e et, .int a nt]) Q E s := by
  have Z' := Z
  obtain ⟨hcc, lo1, lo2, lo3, ord, h2d, h2q, h3d⟩ := Z
  unfold nC nS nX nP at k
  refine wpAny_call ?_
  w_top off
  w_strict (
    refine' code_def B F X N T hA hf hke ?k6 ?k7 ?k8 ?k9 ?kB ?_ ?c2 ?c3 ?c4 ?c5; (case k6 => k_is); (case k7 => k_is); (case k8 => show _ < 1000; omega); (case k9 => first | exact BindsTo.of_eq rfl | exact binds_K (by k_in) rfl (by k_is) rfl rfl rfl); (case c5 => decide); (case kB => exact locs rfl); (case c2 => exact rfl); (case c3 => exact rfl); (case c4 => exact rfl); k_whole; intro g' L' h' FG' F' N' B' X' T'; (try dsimp only); (try k_fold)
    k_steps
    all_goals (rename Fr h₀ L _ m => kF; rename News h₀ L _ _ => kN; rename (_ ∧ _) => l1)
    · rename ((gS S X₁ c pk pk).getD 0 = 0) => hle
      rw [hle] at kN
      simp only [if_pos hle, hle] at k
      exact k _ _ _ _ _ _ _ _ _ kF kN l1 (by assumption) (by assumption)
    · rename (¬ (gS S X₁ c pk pk).getD 0 = 0) => hle
      simp only [if_neg hle] at k
      exact k _ _ _ _ _ _ _ _ _ kF kN l1 (by assumption) (by assumption))
end

/-! ## get_sliding_window, clear_sliding_window -/
local macro_rules | `(tactic| walk_at "call ref") => `(tactic| (k_here; (with_reducible show wpAny _ _ (call (Value.ref 409) _) _ _ _); k_dflt (refine' info_call ?qb ?q1 ?q2 ?qB ?qF ?qX ?qT ?qA ?qf ?qk ?qh ?qr ?qN ?qo ?qZ ?qs ?qe ?_; (case qB => k_asm); (case qF => k_asm); (case qX => k_asm); (case qT => k_asm); (case qA => exact Around.frames_deeper (Below.stack (by assumption))); (case qf => exact rfl); (case qk => exact rfl); (case qr => k_room); (case qN => first | k_asm | exact newsDrop (by k_asm) | exact newsDrop (newsDrop (by k_asm)) | exact newsIn (pre := [_, _, _, _, _, _, _, _, _, _]) (by k_asm) | exact newsIn (pre := [_, _, _, _, _, _, _, _, _, _]) (newsIn (pre := [_, _, _, _, _, _, _, _, _, _, _]) (by k_asm))); (case qo => k_asm); (case qZ => k_asm); (case qs => k_asm); (case qe => k_asm); (case qh => first | rfl | assumption); (case qb => omega); (case q1 => omega); (case q2 => omega); k_whole; intro h' tk' q' so' eo' u1' u2' u3' u4' F' N' l1' hs' he'; (try k_sweep))))
section
variable {w : World} {A A₀ : Around} {E : Value → Shared → Prop} {s : Shared} {h₀ base : Heap} {L : Addr} {m mg mb : Str → Option Value} {outer : List Env} {env : Env}
  {p : Program} {loose : List Str} {mean : ExcName → Option Value} {Q : Value → Shared → Prop} {own : List (Addr × Obj)}
  {x dx f cl c' l st std ex ev : Addr} {t1 t2 t3 t4 : Tok} {qual : Str} {pm ctv : Value} {oc oe so eo evo : Obj} {vs : Array Value} {qt : Tok} {c : Int} {t : Tok} {n n4 : Nat} {S X₁ : Tab} {b be : Nat}
set_option maxHeartbeats 8000000 in
theorem getsw_call {key : Str} {tk1 et : Tok} {e : Int} (hb : b ≤ 900) (he : 0 < e) (he2 : e ≤ 100) (hec : e ≤ c) (hbig : c < 10 ^ 39) (hkl : key.length ≤ 100)
    (B : Below A₀ base outer h₀) (F : Fr h₀ L s.heap m) (X : (hd.heap_39 w.params).In h₀) (T : Top p loose mean mg mb h₀)
    (hA : A.frames = some (env :: outer)) (hf : env.frame = some L) (hke : env.scope.kind = .function) (hh : A.handled = none) (hroom : A.depth ≤ 600)
    (N : News h₀ L s.heap (core w.params x dx f cl c' l st std ex ev t1 t2 t3 t4 qual pm ctv oc oe n n4 c t so eo evo own))
    (hoff : OwnOff own [st, ex, ev]) (Z : SOk w x dx f cl c' l st std ex ev qual oc oe vs qt)
    (hso : CtrM (PySem.strKind lawProg w) 317 std so S b) (heo : DctM (PySem.strKind lawProg w) eo X₁ b)
    (k : ∀ h' tk q so' eo' u1 u2 u3 u4, Fr h₀ L h' m → News h₀ L h' ((q, tup4 (.int (nP S X₁ c (wkey key (c.fdiv e - 1))) u1) (.int (if nP S X₁ c (wkey key (c.fdiv e - 1)) = 0 then 0 else e - (c - e).fmod e) u2) (.int (nC S X₁ c (wkey key (c.fdiv e - 1)) (wkey key (c.fdiv e))) u3) (.int (e - c.fmod e + e) u4)) :: core w.params x dx f cl c' l st std ex ev t1 t2 t3 t4 qual pm ctv oc oe n n4 c t so' eo' evo own) →
      AllLt q (core w.params x dx f cl c' l st std ex ev t1 t2 t3 t4 qual pm ctv oc oe n n4 c t so' eo' evo own) → CtrM (PySem.strKind lawProg w) 317 std so' (nS S X₁ c (wkey key (c.fdiv e - 1)) (wkey key (c.fdiv e))) b → DctM (PySem.strKind lawProg w) eo' (nX X₁ c (wkey key (c.fdiv e - 1)) (wkey key (c.fdiv e))) b → Q (.ref q) { s with heap := h', toks := tk }) :
    wpAny (model lawProg w) A (call (.ref 416) [.ref x, .str key tk1, .int e et]) Q E s := by
  have Z' := Z
  obtain ⟨hcc, lo1, lo2, lo3, ord, h2d, h2q, h3d⟩ := Z
  refine wpAny_call ?_
  w_top off
  w_strict (
    refine' code_def B F X N T hA hf hke ?k6 ?k7 ?k8 ?k9 ?kB ?_ ?c2 ?c3 ?c4 ?c5; (case k6 => k_is); (case k7 => k_is); (case k8 => show _ < 1000; omega); (case k9 => first | exact BindsTo.of_eq rfl | exact binds_K (by k_in) rfl (by k_is) rfl rfl rfl); (case c5 => decide); (case kB => exact locs rfl); (case c2 => exact rfl); (case c3 => exact rfl); (case c4 => exact rfl); k_whole; intro g' L' h' FG' F' N' B' X' T'; (try dsimp only); (try k_fold)
    k_steps
    all_goals (rename Fr h₀ L _ m => kF; rename News h₀ L _ _ => kN)
    exact k _ _ _ _ _ _ _ _ _ kF kN (by assumption) (by assumption) (by assumption))
set_option maxHeartbeats 8000000 in
theorem clearsw_call {key : Str} {tk1 et : Tok} {e : Int} (hb : b ≤ 900) (hbe : be ≤ 900) (hev : DctM (PySem.strKind lawProg w) evo (fun _ => none) be) (he : 0 < e) (he2 : e ≤ 100) (hec : e ≤ c) (hbig : c < 10 ^ 39) (hkl : key.length ≤ 100)
    (B : Below A₀ base outer h₀) (F : Fr h₀ L s.heap m) (X : (hd.heap_39 w.params).In h₀) (T : Top p loose mean mg mb h₀)
    (hA : A.frames = some (env :: outer)) (hf : env.frame = some L) (hke : env.scope.kind = .function) (hh : A.handled = none) (hroom : A.depth ≤ 600)
    (N : News h₀ L s.heap (core w.params x dx f cl c' l st std ex ev t1 t2 t3 t4 qual pm ctv oc oe n n4 c t so eo evo own))
    (hoff : OwnOff own [st, ex, ev]) (Z : SOk w x dx f cl c' l st std ex ev qual oc oe vs qt)
    (hso : CtrM (PySem.strKind lawProg w) 317 std so S b) (heo : DctM (PySem.strKind lawProg w) eo X₁ b)
    (k : ∀ h' tk so' eo' evo', Fr h₀ L h' m → News h₀ L h' (core w.params x dx f cl c' l st std ex ev t1 t2 t3 t4 qual pm ctv oc oe n n4 c t so' eo' evo' own) → CtrM (PySem.strKind lawProg w) 317 std so' (eraseAt (eraseAt S (wkey key (c.fdiv e - 1))) (wkey key (c.fdiv e))) b → DctM (PySem.strKind lawProg w) eo' (eraseAt (eraseAt X₁ (wkey key (c.fdiv e - 1))) (wkey key (c.fdiv e))) b → DctM (PySem.strKind lawProg w) evo' (fun _ => none) be → Q .none { s with heap := h', toks := tk }) :
    wpAny (model lawProg w) A (call (.ref 423) [.ref x, .str key tk1, .int e et]) Q E s := by
  have Z' := Z
  obtain ⟨hcc, lo1, lo2, lo3, ord, h2d, h2q, h3d⟩ := Z
  refine wpAny_call ?_
  w_top off
  w_strict (
    refine' code_def B F X N T hA hf hke ?k6 ?k7 ?k8 ?k9 ?kB ?_ ?c2 ?c3 ?c4 ?c5; (case k6 => k_is); (case k7 => k_is); (case k8 => show _ < 1000; omega); (case k9 => first | exact BindsTo.of_eq rfl | exact binds_K (by k_in) rfl (by k_is) rfl rfl rfl); (case c5 => decide); (case kB => exact locs rfl); (case c2 => exact rfl); (case c3 => exact rfl); (case c4 => exact rfl); k_whole; intro g' L' h' FG' F' N' B' X' T'; (try dsimp only); (try k_fold)
    k_steps
    all_goals (rename Fr h₀ L _ m => kF; rename News h₀ L _ _ => kN)
    exact k _ _ _ _ _ kF kN (by assumption) (by assumption) (by assumption))
end

/-! ## acquire_sliding_window_entry -/
section
variable {w : World} {A A₀ : Around} {E : Value → Shared → Prop} {s : Shared} {h₀ base : Heap} {L : Addr} {m mg mb : Str → Option Value} {outer : List Env} {env : Env}
  {p : Program} {loose : List Str} {mean : ExcName → Option Value} {Q : Value → Shared → Prop} {own : List (Addr × Obj)}
  {x dx f cl c' l st std ex ev : Addr} {t1 t2 t3 t4 : Tok} {qual : Str} {pm ctv : Value} {oc oe so eo evo : Obj} {vs : Array Value} {qt : Tok} {c : Int} {t : Tok} {n n4 : Nat} {S X₁ : Tab} {b be : Nat}
set_option maxHeartbeats 8000000 in
theorem incr_kw_call {key : Str} {tk et ut : Tok} {e a : Int} (hb : b ≤ 900)
    (B : Below A₀ base outer h₀) (F : Fr h₀ L s.heap m) (X : (hd.heap_39 w.params).In h₀) (T : Top p loose mean mg mb h₀)
    (hA : A.frames = some (env :: outer)) (hf : env.frame = some L) (hke : env.scope.kind = .function) (hroom : A.depth ≤ 800)
    (N : News h₀ L s.heap (core w.params x dx f cl c' l st std ex ev t1 t2 t3 t4 qual pm ctv oc oe n n4 c t so eo evo own))
    (hoff : OwnOff own [st, ex, ev]) (Z : SOk w x dx f cl c' l st std ex ev qual oc oe vs qt)
    (hso : CtrM (PySem.strKind lawProg w) 317 std so S b) (heo : DctM (PySem.strKind lawProg w) eo X₁ b)
    (k : ∀ h' tk t' so' eo', Fr h₀ L h' m → News h₀ L h' (core w.params x dx f cl c' l st std ex ev t1 t2 t3 t4 qual pm ctv oc oe n n4 c t so' eo' evo own) →
      CtrM (PySem.strKind lawProg w) 317 std so' (iS S X₁ c key a) (b + 1) → DctM (PySem.strKind lawProg w) eo' (iX S X₁ c key e a) (b + 1) →
      Q (.int ((iS S X₁ c key a key).getD 0) t') { s with heap := h', toks := tk }) :
    wpAny (model lawProg w) A (call (.ref 350) [.ref x, .str key tk, .int e et] [(Str.ofString "amount", .int a ut)]) Q E s := by
  have Z' := Z
  obtain ⟨hcc, lo1, lo2, lo3, ord, h2d, h2q, h3d⟩ := Z
  unfold iX iS at k
  refine wpAny_call ?_
  w_top off
  w_strict (
    refine' code_def B F X N T hA hf hke ?k6 ?k7 ?k8 ?k9 ?kB ?_ ?c2 ?c3 ?c4 ?c5; (case k6 => k_is); (case k7 => k_is); (case k8 => show _ < 1000; omega); (case k9 => first | exact BindsTo.of_eq rfl | exact binds_K (by k_in) rfl (by k_is) rfl rfl rfl); (case c5 => decide); (case kB => exact locs rfl); (case c2 => exact rfl); (case c3 => exact rfl); (case c4 => exact rfl); k_whole; intro g' L' h' FG' F' N' B' X' T'; (try dsimp only); (try k_fold)
    k_steps
    all_goals (rename Fr h₀ L _ m => kF; rename News h₀ L _ _ => kN)
    · rename ((putAt (gS S X₁ c key) key ((gS S X₁ c key key).getD 0 + a) key).getD 0 = a) => hle
      simp only [if_pos hle] at k
      exact k _ _ _ _ _ kF kN (by assumption) (by assumption)
    · rename ((putAt (gS S X₁ c key) key ((gS S X₁ c key key).getD 0 + a) key).getD 0 ≠ a) => hle
      simp only [if_neg hle] at k
      exact k _ _ _ _ _ kF kN (by assumption) (DctM.mono (by assumption) (by omega)))

end
local macro_rules | `(tactic| walk_at "call ref") => `(tactic| (k_here; (with_reducible show wpAny _ _ (call (Value.ref 350) _ _) _ _ _); k_dflt (refine' incr_kw_call ?qb ?qB ?qF ?qX ?qT ?qA ?qf ?qk ?qr ?qN ?qo ?qZ ?qs ?qe ?_; (case qB => k_asm); (case qF => k_asm); (case qX => k_asm); (case qT => k_asm); (case qA => exact Around.frames_deeper (Below.stack (by assumption))); (case qf => exact rfl); (case qk => exact rfl); (case qr => k_room); (case qN => first | k_asm | exact newsDrop (by k_asm) | exact newsDrop (newsDrop (by k_asm)) | exact newsIn (pre := [_, _, _, _, _, _, _, _, _, _]) (by k_asm) | exact newsIn (pre := [_, _, _, _, _, _, _, _, _, _]) (newsIn (pre := [_, _, _, _, _, _, _, _, _, _, _]) (by k_asm))); (case qo => k_asm); (case qZ => k_asm); (case qs => k_asm); (case qe => k_asm); (case qb => omega); k_whole; intro h' tk' t' so' eo' F' N' hs' he'; (try k_sweep))))
theorem gX_idem (X : Tab) (c : Int) (key : Str) (hc : 0 ≤ c) : gX (gX X c key) c key = gX X c key := by
  by_cases h : (X key).getD 0 ≤ c
  · have e : gX X c key = eraseAt X key := by unfold gX; rw [if_pos h]
    rw [e]
    unfold gX
    rw [if_pos (by unfold eraseAt; rw [if_pos rfl]; exact hc)]
    funext y; unfold eraseAt; split <;> rfl
  · have e : gX X c key = X := by unfold gX; rw [if_neg h]
    rw [e, e]
theorem gS_idem (S X : Tab) (c : Int) (key : Str) (hc : 0 ≤ c) : gS (gS S X c key) (gX X c key) c key = gS S X c key := by
  by_cases h : (X key).getD 0 ≤ c
  · have e : gX X c key = eraseAt X key := by unfold gX; rw [if_pos h]
    have e2 : gS S X c key = eraseAt S key := by unfold gS; rw [if_pos h]
    rw [e, e2]
    unfold gS
    rw [if_pos (by unfold eraseAt; rw [if_pos rfl]; exact hc)]
    funext y; unfold eraseAt; split <;> rfl
  · have e : gX X c key = X := by unfold gX; rw [if_neg h]
    have e2 : gS S X c key = S := by unfold gS; rw [if_neg h]
    rw [e, e2, e2]
theorem iS_at (S X : Tab) (c : Int) (key : Str) (a : Int) : (iS S X c key a key).getD 0 = (gS S X c key key).getD 0 + a := by
  unfold iS putAt; rw [if_pos rfl]; rfl
theorem iS_nS (S X : Tab) (c : Int) (pk ck : Str) (a : Int) (hc : 0 ≤ c) : (iS (nS S X c pk ck) (nX X c pk ck) c ck a ck).getD 0 = nC S X c pk ck + a := by
  rw [iS_at]; unfold nC nS nX; rw [gS_idem _ _ _ _ hc]
theorem imul_small {a b : Int} (h : b.natAbs < 2 ^ 63) : IntMulOk a b := by
  refine IntMulOk.of_right ?_
  unfold Builtin.Int.intBits
  split
  · exact Nat.zero_le _
  · by_cases h0 : b.natAbs = 0
    · rw [h0]; decide
    · have := (Nat.log2_lt h0).mpr h; omega
/-- the earlier window's part, and this window's units -/
def wt (S X : Tab) (c : Int) (pk ck : Str) (e : Int) : Int := (nP S X c pk * (if nP S X c pk = 0 then 0 else e - (c - e).fmod e)).fdiv e + nC S X c pk ck
def aS (S X : Tab) (c : Int) (pk ck : Str) (e lim a : Int) : Tab := if a ≤ lim then (if wt S X c pk ck e + a ≤ lim then iS (nS S X c pk ck) (nX X c pk ck) c ck a else nS S X c pk ck) else S
def aX (S X : Tab) (c : Int) (pk ck : Str) (e lim a : Int) : Tab := if a ≤ lim then (if wt S X c pk ck e + a ≤ lim then iX (nS S X c pk ck) (nX X c pk ck) c ck (2 * e) a else nX X c pk ck) else X
section
variable {S X : Tab} {c : Int} {pk ck : Str} {e lim a : Int}
theorem aS_1 (h : ¬ a ≤ lim) : aS S X c pk ck e lim a = S := by unfold aS; rw [if_neg h]
theorem aX_1 (h : ¬ a ≤ lim) : aX S X c pk ck e lim a = X := by unfold aX; rw [if_neg h]
theorem aS_2 (h : a ≤ lim) (h2 : ¬ wt S X c pk ck e + a ≤ lim) : aS S X c pk ck e lim a = nS S X c pk ck := by unfold aS; rw [if_pos h, if_neg h2]
theorem aX_2 (h : a ≤ lim) (h2 : ¬ wt S X c pk ck e + a ≤ lim) : aX S X c pk ck e lim a = nX X c pk ck := by unfold aX; rw [if_pos h, if_neg h2]
theorem aS_3 (h : a ≤ lim) (h2 : wt S X c pk ck e + a ≤ lim) : aS S X c pk ck e lim a = iS (nS S X c pk ck) (nX X c pk ck) c ck a := by unfold aS; rw [if_pos h, if_pos h2]
theorem aX_3 (h : a ≤ lim) (h2 : wt S X c pk ck e + a ≤ lim) : aX S X c pk ck e lim a = iX (nS S X c pk ck) (nX X c pk ck) c ck (2 * e) a := by unfold aX; rw [if_pos h, if_pos h2]
end
section
variable {w : World} {A A₀ : Around} {E : Value → Shared → Prop} {s : Shared} {h₀ base : Heap} {L : Addr} {m mg mb : Str → Option Value} {outer : List Env} {env : Env}
  {p : Program} {loose : List Str} {mean : ExcName → Option Value} {Q : Value → Shared → Prop} {own : List (Addr × Obj)}
  {x dx f cl c' l st std ex ev : Addr} {t1 t2 t3 t4 : Tok} {qual : Str} {pm ctv : Value} {oc oe so eo evo : Obj} {vs : Array Value} {qt : Tok} {c : Int} {t : Tok} {n n4 : Nat} {S X₁ : Tab} {b be : Nat}
set_option maxHeartbeats 8000000 in
theorem acq_call {key : Str} {tk1 et lt ut : Tok} {e lim a : Int} (hb : b ≤ 800) (ha : 0 < a) (he : 0 < e) (he2 : e ≤ 100) (hec : e ≤ c) (hbig : c < 10 ^ 39) (hkl : key.length ≤ 100)
    (B : Below A₀ base outer h₀) (F : Fr h₀ L s.heap m) (X : (hd.heap_39 w.params).In h₀) (T : Top p loose mean mg mb h₀)
    (hA : A.frames = some (env :: outer)) (hf : env.frame = some L) (hke : env.scope.kind = .function) (hh : A.handled = none) (hroom : A.depth ≤ 500)
    (N : News h₀ L s.heap (core w.params x dx f cl c' l st std ex ev t1 t2 t3 t4 qual pm ctv oc oe n n4 c t so eo evo own))
    (hoff : OwnOff own [st, ex, ev]) (Z : SOk w x dx f cl c' l st std ex ev qual oc oe vs qt)
    (hso : CtrM (PySem.strKind lawProg w) 317 std so S b) (heo : DctM (PySem.strKind lawProg w) eo X₁ b)
    (k : ∀ h' tk so' eo', Fr h₀ L h' m → News h₀ L h' (core w.params x dx f cl c' l st std ex ev t1 t2 t3 t4 qual pm ctv oc oe n n4 c t so' eo' evo own) → CtrM (PySem.strKind lawProg w) 317 std so' (aS S X₁ c (wkey key (c.fdiv e - 1)) (wkey key (c.fdiv e)) e lim a) (b + 1) → DctM (PySem.strKind lawProg w) eo' (aX S X₁ c (wkey key (c.fdiv e - 1)) (wkey key (c.fdiv e)) e lim a) (b + 1) → Q (.bool (decide (a ≤ lim ∧ wt S X₁ c (wkey key (c.fdiv e - 1)) (wkey key (c.fdiv e)) e + a ≤ lim))) { s with heap := h', toks := tk }) :
    wpAny (model lawProg w) A (call (.ref 402) [.ref x, .str key tk1, .int lim lt, .int e et, .int a ut]) Q E s := by
  have Z' := Z
  obtain ⟨hcc, lo1, lo2, lo3, ord, h2d, h2q, h3d⟩ := Z
  have f1 : 0 ≤ (c - e).fmod e := Int.fmod_nonneg_of_pos _ he
  have f2 : (c - e).fmod e < e := Int.fmod_lt_of_pos _ he
  have f3 := fun a' => iS_nS S X₁ c (wkey key (c.fdiv e - 1)) (wkey key (c.fdiv e)) a' (by omega)
  have f4 : IntMulOk (nP S X₁ c (wkey key (c.fdiv e - 1))) (if nP S X₁ c (wkey key (c.fdiv e - 1)) = 0 then 0 else e - (c - e).fmod e) := imul_small (by split <;> omega)
  refine wpAny_call ?_
  w_top off
  w_strict (
    refine' code_def B F X N T hA hf hke ?k6 ?k7 ?k8 ?k9 ?kB ?_ ?c2 ?c3 ?c4 ?c5; (case k6 => k_is); (case k7 => k_is); (case k8 => show _ < 1000; omega); (case k9 => first | exact BindsTo.of_eq rfl | exact binds_K (by k_in) rfl (by k_is) rfl rfl rfl); (case c5 => decide); (case kB => exact locs rfl); (case c2 => exact rfl); (case c3 => exact rfl); (case c4 => exact rfl); k_whole; intro g' L' h' FG' F' N' B' X' T'; (try dsimp only); (try k_fold)
    k_steps
    all_goals (rename Fr h₀ L _ m => kF; rename News h₀ L _ _ => kN)
    · have e1 : ¬ a ≤ lim := by omega
      rw [aS_1 e1, aX_1 e1, decide_eq_false (fun q => e1 q.1)] at k
      exact k _ _ _ _ kF kN (CtrM.mono hso (by omega)) (DctM.mono heo (by omega))
    · have e1 : a ≤ lim := by omega
      have e2 : ¬ wt S X₁ c (wkey key (c.fdiv e - 1)) (wkey key (c.fdiv e)) e + a ≤ lim := by unfold wt; omega
      rw [aS_2 e1 e2, aX_2 e1 e2, decide_eq_false (fun q => e2 q.2)] at k
      exact k _ _ _ _ kF (newsDrop kN) (CtrM.mono (by assumption) (by omega)) (DctM.mono (by assumption) (by omega))
    · exfalso
      have f5 := f3 a
      omega
    · have e1 : a ≤ lim := by omega
      have f5 := f3 a
      have e2 : wt S X₁ c (wkey key (c.fdiv e - 1)) (wkey key (c.fdiv e)) e + a ≤ lim := by unfold wt; omega
      rw [aS_3 e1 e2, aX_3 e1 e2, decide_eq_true ⟨e1, e2⟩] at k
      exact k _ _ _ _ kF kN (by assumption) (by assumption))
end

/-! ## The law's own count of whole lengths -/
def wG (n e g : Int) : List Int → Int → List Int := fun l k => if (k + 1) * e ≤ n * (e - g) then l ++ [1] else l
theorem wG_grows (n e g : Int) : KPfGrows (wG n e g) := by
  intro l k
  unfold wG
  split <;> simp
/-- of a list of consecutive numbers the filtered count -/
theorem wG_fold (n e g : Int) : ∀ (ks : List Int) (l : List Int), (ks.foldl (wG n e g) l).length = l.length + (ks.filter fun k => decide ((k + 1) * e ≤ n * (e - g))).length := by
  intro ks
  induction ks with
  | nil => intro l; simp
  | cons k r ih =>
    intro l
    rw [List.foldl_cons, ih]
    unfold wG
    by_cases h : (k + 1) * e ≤ n * (e - g)
    · rw [if_pos h, List.filter_cons, if_pos (by simpa using h)]; simp; omega
    · rw [if_neg h, List.filter_cons, if_neg (by simpa using h)]
theorem count_below (m : Nat) : ∀ N : Nat, ((List.range N).filter fun i => decide (i < m)).length = min N m := by
  intro N
  induction N with
  | zero => simp
  | succ N ih =>
    rw [List.range_succ, List.filter_append, List.length_append, ih]
    by_cases h : N < m
    · simp [List.filter_cons, h]; omega
    · simp [List.filter_cons, h]; omega
theorem wG_count {n e g : Int} (hn : 0 ≤ n) (he : 0 < e) (hg : 0 ≤ g) (hg2 : g < e) : (((rangeKs 0 (n - 0).toNat).foldl (wG n e g) []).length : Int) = (n * (e - g)).fdiv e := by
  rw [wG_fold]
  have q0 : 0 ≤ n * (e - g) := Int.mul_nonneg hn (by omega)
  have q1 : (n * (e - g)).fdiv e = n * (e - g) / e := Int.fdiv_eq_ediv_of_nonneg _ (by omega)
  have q2 : 0 ≤ n * (e - g) / e := Int.ediv_nonneg q0 (by omega)
  have q3 : n * (e - g) / e ≤ n := by
    refine Int.ediv_le_of_le_mul he ?_
    exact Int.mul_le_mul_of_nonneg_left (by omega) hn
  have key : ∀ i : Nat, decide ((((0 : Int) + (i : Int)) + 1) * e ≤ n * (e - g)) = decide (i < (n * (e - g) / e).toNat) := by
    intro i
    have := Int.le_ediv_iff_mul_le (a := ((0 : Int) + (i : Int)) + 1) (b := n * (e - g)) he
    by_cases h : i < (n * (e - g) / e).toNat
    · rw [decide_eq_true h, decide_eq_true (this.mp (by omega))]
    · rw [decide_eq_false h, decide_eq_false (fun x => h (by have := this.mpr x; omega))]
  unfold rangeKs
  rw [List.filter_map, List.length_map]
  have e2 : ((fun k : Int => decide ((k + 1) * e ≤ n * (e - g))) ∘ fun i : Nat => (0 : Int) + (i : Int)) = fun i : Nat => decide (i < (n * (e - g) / e).toNat) := funext key
  rw [e2, count_below, q1]
  simp only [List.length_nil]
  omega
local macro_rules | `(tactic| walk_at "CompSrcT") => `(tactic| (k_here; (k_dflt (refine LCt.CompSrcT.range (by rfl) (by k_asm) (by k_asm) (by assumption) (by first | decide | exact small_one (by l_bnd) (by l_bnd) (by l_bnd) (by l_bnd)) (by first | exact rangeSize_nat _ _ | rfl) (by first | exact Nat.le_of_ble_eq_true rfl | (rw [PySem.sizeLine_eq]; first | omega | ((have hb9 := len_ints_list (by lay_of)); omega)) | size_fits) ?_)); intro g'; (k_dflt (refine' kci_range ‹List Int → Int → List Int› (fun k' t' I' oI' C' oC' D' m' ys' l' h' tk' E' hlo' hhi' hI' hC' hx' F' N' off' ne' => ?_) ?_ ?_)); (all_goals (try (simp only [LCg.Off3, and_true] at off'))); (all_goals (try ((show KPfMark → _); intro hMark')))))
local macro_rules | `(tactic| walk_at "CompEnd") => `(tactic| (k_here; refine LCg.CompEnd.intro (by assumption) (by assumption) _ (fun p hp => hp) (by assumption) True.intro ?_))
section
variable {w : World} {A A₀ : Around} {E : Value → Shared → Prop} {s : Shared} {h₀ base : Heap} {L : Addr} {m mg mb : Str → Option Value} {outer : List Env} {env : Env}
  {p : Program} {loose : List Str} {mean : ExcName → Option Value} {Q : Value → Shared → Prop} {news : List (Addr × Obj)}
set_option maxHeartbeats 8000000 in
theorem whole_call {n e g : Int} {nt et gt : Tok} (hn : 0 ≤ n) (hn2 : n ≤ 1000) (he : 0 < e) (he2 : e ≤ 100) (hg : 0 ≤ g) (hg2 : g < e)
    (B : Below A₀ base outer h₀) (F : Fr h₀ L s.heap m) (X : (hd.heap_39 w.params).In h₀) (T : Top p loose mean mg mb h₀)
    (hA : A.frames = some (env :: outer)) (hf : env.frame = some L) (hke : env.scope.kind = .function) (hh : A.handled = none) (hroom : A.depth ≤ 800)
    (N : News h₀ L s.heap news)
    (k : ∀ h' tk t', Fr h₀ L h' m → News h₀ L h' news → Q (.int ((n * (e - g)).fdiv e) t') { s with heap := h', toks := tk }) :
    wpAny (model lawProg w) A (call (.ref 447) [.int n nt, .int e et, .int g gt]) Q E s := by
  obtain ⟨ahd, ad, afr, ags, au⟩ := A
  obtain rfl : ahd = none := hh
  obtain rfl : afr = some (env :: outer) := hA
  dsimp only at hroom
  obtain ⟨G, hG⟩ : ∃ G, G = wG n e g := ⟨_, rfl⟩
  refine wpAny_call ?_
  w_top off
  w_strict (
    refine' code_defC B F X N T rfl hf hke ?k6 ?k7 ?k8 ?k9 ?kB ?kD ?_ ?c2 ?c3 ?c4; (case k6 => k_is); (case k7 => k_is); (case k8 => show ad < 1000; omega); (case k9 => first | exact BindsTo.of_eq rfl | exact binds_K (by k_in) rfl (by k_is) rfl rfl rfl); (case kB => exact rfl); (case kD => decide +kernel); (case c2 => exact rfl); (case c3 => exact rfl); (case c4 => exact rfl); k_whole; intro g' L' h' tk' cells' FG' F' N' Y' B' X' T' l1; k_cells Y'; (try simp only [List.cons_append, List.nil_append] at N'); (try dsimp only); (try k_fold)
    k_steps
    · refine kci_el ?_ rfl rfl
      rw [hG]; unfold wG; rw [if_pos (by assumption)]
    · refine kci_no ?_ rfl
      rw [hG]; unfold wG; rw [if_neg (by assumption)]
    · rename Fr h₀ L _ m => kF
      rename News h₀ L _ _ => kN
      rw [hG, wG_count hn he hg hg2]
      first
        | exact k _ _ _ kF (newsDrop (newsDrop (newsDrop kN)))
        | exact k _ _ _ kF (newsDrop (newsDrop (newsDrop (newsDrop kN))))
        | exact k _ _ _ kF (newsDrop (newsDrop (newsDrop (newsDrop (newsDrop kN)))))
    · rw [hG]; exact wG_grows n e g)
end

/-! ## A for over a list of the ledger, by a word over the whole ledger -/
section
variable {prog : Program} {w : World} {A : Around} {E : Value → Shared → Prop} {s : Shared} {env : Env} {h₀ : Heap} {x : Str} {body : List Stmt} {Q : Flow → Shared → Prop}
theorem iter_gen {l : Addr} {vs : List Value} {nn : Nat} {m₀ : Str → Option Value} {news : List (Addr × Obj)} (J : Nat → (Str → Option Value) → List (Addr × Obj) → Prop)
    (hh : A.handled = none) (hl : (l, W.listOf vs.toArray nn) ∈ news) (F : Fr h₀ env.locals s.heap m₀) (N : News h₀ env.locals s.heap news) (hj : J 0 m₀ news)
    (turn : ∀ i v m₁ news₁ h tk own, vs[i]? = some v → OwnOff own (news₁.map (·.1)) → (l, W.listOf vs.toArray nn) ∈ news₁ → J i m₁ news₁ → Fr h₀ env.locals h (fun y => if y = x then some v else m₁ y) → News h₀ env.locals h (news₁ ++ own) →
      wpAny (model prog w) A (execs body env) (InvPostG h₀ env.locals (fun m' nx => (l, W.listOf vs.toArray nn) ∈ nx ∧ J (i + 1) m' nx) own { s with heap := h, toks := tk } Q) E { s with heap := h, toks := tk })
    (done : ∀ m₁ news₁ h tk, (l, W.listOf vs.toArray nn) ∈ news₁ → J vs.length m₁ news₁ → Fr h₀ env.locals h m₁ → News h₀ env.locals h news₁ → Q .next { s with heap := h, toks := tk }) :
    wpAny (model prog w) A (pyIter (.ref l)) (fun it s₂ => LoopAtV prog w A h₀ env x body Q E it s₂) E s := by
  have hol : s.heap.get? l = some (W.listOf vs.toArray nn) := (N _ hl).1
  have hls : s.heap.IsList l vs.toArray := ⟨_, hol, rfl, nn, rfl⟩
  have hne : l ≠ s.heap.objs.size := Nat.ne_of_lt (Heap.lt_size hol)
  refine wpAny_pyIter_list hls ?_
  have WK := Walks.list (prog := prog) (w := w) hh s.heap.objs.size l hne vs.toArray
  have hlen : vs.toArray.size = vs.length := by simp
  rw [hlen] at WK
  refine ⟨_, _, _, vs.length, _, _, m₀, news, (fun i m nx => (l, W.listOf vs.toArray nn) ∈ nx ∧ J i m nx), rfl, WK, ?_, ?_, ?_, ⟨⟨_, Heap.get?_push_size _ rfl, rfl, rfl⟩, hls.at fun o e => Heap.get?_push_of_some _ e⟩, F.push _, (fun p hp => ⟨Heap.get?_push_of_some _ (N p hp).1, (N p hp).2⟩), ⟨hl, hj⟩, ?_, ?_⟩
  · intro hm
    rcases List.mem_cons.mp hm with e | hm
    · exact absurd F.ns.lt (e ▸ Nat.lt_irrefl _)
    · exact (N _ hl).2.1 ((List.mem_singleton.mp hm).symm)
  · intro b hb
    rw [List.mem_singleton.mp hb]
    exact next_is_new F
  · intro p hp hI
    exact absurd (Heap.lt_size (N p hp).1) ((List.mem_singleton.mp hI) ▸ Nat.lt_irrefl _)
  · rintro i v m₁ news₁ s₁ own ⟨hh', tk', rfl⟩ hin hP ⟨hl₁, hJ⟩ hoff hown hget hfp hst F₁ N₁
    obtain ⟨⟨oI, hoI, _⟩, _⟩ := id hst
    have hI0 : h₀.get? s.heap.objs.size = none := next_is_new F
    have hIown : (s.heap.objs.size, oI) ∈ own := hfp _ (List.mem_cons.mpr (.inl rfl)) hI0 _ hoI
    have hsep : OwnOff (own.filter fun p => decide (p.1 = s.heap.objs.size)) (news₁.map (·.1)) := by
      intro p hp b hb e
      obtain ⟨q, hq, rfl⟩ := List.mem_map.mp hb
      have h1 : p.1 = s.heap.objs.size := by simpa using (List.mem_filter.mp hp).2
      exact hoff q hq (List.mem_singleton.mpr (by rw [← e, h1]))
    have hv : vs[i]? = some v := by simpa using hP
    have N₂ : News h₀ env.locals hh' (news₁ ++ own.filter fun p => decide (p.1 = s.heap.objs.size)) := fun p hp => N₁ p ((List.mem_append.mp hp).elim (fun h => List.mem_append.mpr (.inr h)) fun h => List.mem_append.mpr (.inl ((List.mem_filter.mp h).1)))
    have hlo : hh'.get? l = some (W.listOf vs.toArray nn) := (N₁ _ (List.mem_append.mpr (.inr hl₁))).1
    refine wpAny_mono (turn i v m₁ news₁ hh' tk' _ hv hsep hl₁ hJ F₁ N₂) (fun f s₂ p => ?_) fun _ _ e => e
    have fin : InvEndG h₀ env.locals (fun m' nx => (l, W.listOf vs.toArray nn) ∈ nx ∧ J (i + 1) m' nx) (own.filter fun p => decide (p.1 = s.heap.objs.size)) { s with heap := hh', toks := tk' } s₂ →
        LoopStepU h₀ env.locals [s.heap.objs.size] own (fun m nx => (l, W.listOf vs.toArray nn) ∈ nx ∧ J (i + 1) m nx) { s with heap := hh', toks := tk' } .next s₂ := by
      rintro ⟨h', tk, m', news', nx, e, F', N', hn, ho, ha, hm⟩
      refine ⟨rfl, h', tk, m', nx, e, F', fun p hp => ?_, fun p hp => ?_, hm⟩
      · rcases List.mem_append.mp hp with h | h
        · by_cases hI : p.1 = s.heap.objs.size
          · exact N' p (ho p (List.mem_filter.mpr ⟨h, by simpa using hI⟩))
          · have h1 : p.1 = l := by
              rcases List.mem_cons.mp (hown p h) with h2 | h2
              · exact absurd h2 hI
              · exact List.mem_singleton.mp h2
            have h2 : hh'.get? p.1 = some p.2 := hget p h
            rw [h1, hlo] at h2
            have h3 : p = (l, W.listOf vs.toArray nn) := Prod.ext h1 (Option.some.inj h2).symm
            rw [h3]
            exact N' _ (hn _ hm.1)
        · exact N' p (hn p h)
      · intro hI
        exact ha (s.heap.objs.size, oI) (List.mem_filter.mpr ⟨hIown, by simp⟩) p.1 (List.mem_map.mpr ⟨p, hp, rfl⟩) (List.mem_singleton.mp hI).symm
    cases f with
    | ret v => exact .ret p
    | brk => exact .brk p
    | next => exact .next (fin p)
    | cont => exact .cont (fin p)
  · rintro h' tk m' news' F' N' _ ⟨hl', hJ⟩
    exact done m' news' h' tk hl' hJ F' N'
end

/-! ## The keys of a dict of ints, as a list -/
def Stop (P : Prop) : Prop := P
theorem stop_here {P : Prop} (h : Stop P) : P := h
def KeysAre (vs : List Value) (ks : List Str) : Prop := vs.length = ks.length ∧ ∀ (j : Nat) (v : Value), vs[j]? = some v → ∃ k t, ks[j]? = some k ∧ v = .str k t
section
variable {prog : Program} {w : World} {A : Around} {E : Value → Shared → Prop} {s : Shared} {h₀ : Heap} {L d v : Addr} {m : Str → Option Value} {news : List (Addr × Obj)} {Q : Value → Shared → Prop} {o : Obj} {f : Str → Option Int} {b : Nat}
theorem dm_view (F : Fr h₀ L s.heap m) (N : News h₀ L s.heap news) (hp : (d, o) ∈ news) (hd : DctM (PySem.strKind prog w) o f b) (lo : (d == sysModules) = false)
    (h : ∀ (D : Addr) h', Fr h₀ L h' m → News h₀ L h' ((D, { cls := .type "dict_keys", data := .fields #[.ref d] }) :: news) → (∀ q ∈ news, q.1 < D) → Q (.ref D) { s with heap := h' }) :
    wpAny (model prog w) A (call (.builtin "dict.keys") [.ref d]) Q E s := by
  obtain ⟨⟨kvs, hk, _⟩⟩ := hd
  exact kdl_view_keys F N hp hk lo h
theorem keys_valueAt {kvs : List (Str × Value)} (k : Str) : (valueAt kvs k).isSome = true ↔ k ∈ kvs.map (·.1) := by
  constructor
  · intro h
    obtain ⟨v, hv⟩ := Option.isSome_iff_exists.mp h
    obtain ⟨p, hp, rfl, _⟩ := valueAt_mem hv
    exact List.mem_map.mpr ⟨p, hp, rfl⟩
  · intro h
    obtain ⟨p, hp, rfl⟩ := List.mem_map.mp h
    obtain ⟨v, hv⟩ := any_true_valueAt (kvs := kvs) (k := p.1) (List.any_eq_true.mpr ⟨p, hp, by simp⟩)
    rw [hv]; rfl
theorem dm_list (hh : A.handled = none) (F : Fr h₀ L s.heap m) (N : News h₀ L s.heap news) (hv : (v, { cls := .type "dict_keys", data := .fields #[.ref d] }) ∈ news) (hp : (d, o) ∈ news) (hd : DctM (PySem.strKind prog w) o f b) (hb : b ≤ 1000000)
    (h : ∀ (B : Addr) c h' tk vs ks, KeysAre vs ks → ks.Nodup → (∀ k, k ∈ ks ↔ (f k).isSome = true) → Fr h₀ L h' m → News h₀ L h' ((B, W.listOf vs.toArray c) :: news) → (∀ q ∈ news, q.1 < B) → Q (.ref B) { s with heap := h', toks := tk }) :
    wpAny (model prog w) A (call (.type "list") [.ref v]) Q E s := by
  obtain ⟨⟨kvs, hk, hi, rfl, hl⟩⟩ := hd
  obtain ⟨ep, hat⟩ := (kda_dict N hp hk).dictAt
  have hnd : (kvs.map (·.1)).Nodup := hat.nodup
  refine kdl_N (kdl_keys (knd := PySem.strKind prog w) (kvs := kvs) (ep := ep)) hh F N ⟨⟨_, (N _ hv).1, rfl, rfl⟩, hat⟩ (kdl_size (by omega)) fun B c h' tk vs F' N' l1 hl hv => ?_
  refine h B c h' tk vs (kvs.map (·.1)) ⟨by simp [hl], fun j u hu => ?_⟩ hnd (fun k => ?_) F' N' l1
  · obtain ⟨k, x, hx, hk⟩ := hv j u hu
    obtain ⟨t, rfl⟩ := Value.isStrOf_shape hk
    exact ⟨k, t, by rw [List.getElem?_map, hx]; rfl, rfl⟩
  · rw [← keys_valueAt]
    unfold iat
    cases e : valueAt kvs k with
    | none => simp
    | some u => obtain ⟨i, t, rfl⟩ := hi.at e; simp [toInt]
end
section
variable {prog : Program} {w : World} {A : Around} {E : Value → Shared → Prop} {s : Shared} {env : Env} {h₀ : Heap} {x : Str} {body : List Stmt} {Q : Flow → Shared → Prop}
theorem iter_none {l : Addr} {vs : List Value} {nn : Nat} {m₀ : Str → Option Value} {news : List (Addr × Obj)}
    (hh : A.handled = none) (hl : (l, W.listOf vs.toArray nn) ∈ news) (F : Fr h₀ env.locals s.heap m₀) (N : News h₀ env.locals s.heap news) (he : vs = [])
    (k : ∀ h tk, Fr h₀ env.locals h m₀ → News h₀ env.locals h news → Q .next { s with heap := h, toks := tk }) :
    wpAny (model prog w) A (pyIter (.ref l)) (fun it s₂ => LoopAtV prog w A h₀ env x body Q E it s₂) E s := by
  refine iter_gen (fun _ m nx => m = m₀ ∧ nx = news) hh hl F N ⟨rfl, rfl⟩ ?_ ?_
  · intro i v m₁ news₁ h tk own hi
    rw [he] at hi
    simp at hi
  · rintro m₁ news₁ h tk _ ⟨rfl, rfl⟩ F' N'
    exact k h tk F' N'
theorem iter_strs {l : Addr} {vs : List Value} {ks : List Str} {nn : Nat} {m₀ : Str → Option Value} {news : List (Addr × Obj)} (J : Nat → List (Addr × Obj) → Prop)
    (hh : A.handled = none) (hl : (l, W.listOf vs.toArray nn) ∈ news) (hv : KeysAre vs ks) (F : Fr h₀ env.locals s.heap m₀) (N : News h₀ env.locals s.heap news) (hj : J 0 news)
    (turn : ∀ i k t news₁ h tk own, ks[i]? = some k → OwnOff own (news₁.map (·.1)) → (l, W.listOf vs.toArray nn) ∈ news₁ → J i news₁ → Fr h₀ env.locals h (fun y => if y = x then some (.str k t) else m₀ y) → News h₀ env.locals h (news₁ ++ own) →
      wpAny (model prog w) A (execs body env) (InvPostG h₀ env.locals (fun m' nx => (l, W.listOf vs.toArray nn) ∈ nx ∧ J (i + 1) nx ∧ ∀ z, z ≠ x → m' z = m₀ z) own { s with heap := h, toks := tk } Q) E { s with heap := h, toks := tk })
    (done : ∀ (u : Str → Option Value) news₁ h tk, J ks.length news₁ → Fr h₀ env.locals h (fun z => if z = x then u z else m₀ z) → News h₀ env.locals h news₁ → Q .next { s with heap := h, toks := tk }) :
    wpAny (model prog w) A (pyIter (.ref l)) (fun it s₂ => LoopAtV prog w A h₀ env x body Q E it s₂) E s := by
  refine iter_gen (fun i m nx => J i nx ∧ ∀ z, z ≠ x → m z = m₀ z) hh hl F N ⟨hj, fun _ _ => rfl⟩ ?_ ?_
  · rintro i v m₁ news₁ h tk own hi hsep hl₁ ⟨hJ, hm⟩ F₁ N₁
    obtain ⟨k, t, hk, rfl⟩ := hv.2 i v hi
    have e : (fun y => if y = x then some (Value.str k t) else m₁ y) = fun y => if y = x then some (Value.str k t) else m₀ y := by
      funext z
      by_cases h1 : z = x
      · simp [h1]
      · simp only [if_neg h1]; exact hm z h1
    rw [e] at F₁
    exact turn i k t news₁ h tk own hk hsep hl₁ hJ F₁ N₁
  · rintro m₁ news₁ h tk _ ⟨hJ, hm⟩ F₁ N₁
    have e : (fun z => if z = x then m₁ z else m₀ z) = m₁ := by
      funext z
      by_cases h1 : z = x
      · simp [h1]
      · simp only [if_neg h1]; exact (hm z h1).symm
    rw [hv.1] at hJ
    exact done m₁ news₁ h tk hJ (by rw [e]; exact F₁) N₁
end
/-! ## A sweep of the keys taken so far -/
def tT (S X : Str → Option Int) (c : Int) (taken : List Str) : Str → Option Int := fun k => if k ∈ taken ∧ (X k).getD 0 ≤ c then none else S k
/-- a sweep of all -/
def eT (S X : Str → Option Int) (c : Int) : Str → Option Int := fun k => if (X k).isSome = true ∧ (X k).getD 0 ≤ c then none else S k
theorem tT_nil (S X : Str → Option Int) (c : Int) : tT S X c [] = S := by funext k; unfold tT; simp
theorem tT_all {S X : Str → Option Int} {c : Int} {ks : List Str} (h : ∀ k, k ∈ ks ↔ (X k).isSome = true) : tT S X c ks = eT S X c := by
  funext k; unfold tT eT; simp only [h k]
theorem take_mem_snoc {ks : List Str} {i : Nat} {k y : Str} (hk : ks[i]? = some k) : y ∈ ks.take (i + 1) ↔ y ∈ ks.take i ∨ y = k := by
  rw [List.take_add_one, hk]; simp
theorem tT_hit {S X : Str → Option Int} {c : Int} {ks : List Str} {i : Nat} {k : Str} (hk : ks[i]? = some k) (h : (X k).getD 0 ≤ c) : eraseAt (tT S X c (ks.take i)) k = tT S X c (ks.take (i + 1)) := by
  funext y
  unfold eraseAt tT
  by_cases e : y = k
  · rw [if_pos e, if_pos ⟨(take_mem_snoc hk).mpr (.inr e), by rw [e]; exact h⟩]
  · rw [if_neg e]
    simp only [take_mem_snoc hk, e, or_false]
theorem tT_miss {S X : Str → Option Int} {c : Int} {ks : List Str} {i : Nat} {k : Str} (hk : ks[i]? = some k) (h : ¬ (X k).getD 0 ≤ c) : tT S X c (ks.take i) = tT S X c (ks.take (i + 1)) := by
  funext y
  unfold tT
  by_cases e : y = k
  · rw [e, if_neg (fun q => h q.2), if_neg (fun q => h q.2)]
  · simp only [take_mem_snoc hk, e, or_false]
theorem notin_take {ks : List Str} (hn : ks.Nodup) {i : Nat} {k : Str} (hk : ks[i]? = some k) : k ∉ ks.take i := by
  intro h
  obtain ⟨j, hj⟩ := List.mem_iff_getElem?.mp h
  have hji : j < i := by
    have := (List.getElem?_eq_some_iff.mp hj).1
    rw [List.length_take] at this; omega
  rw [List.getElem?_take, if_pos hji] at hj
  have hlt : j < ks.length := (List.getElem?_eq_some_iff.mp hj).1
  have := (List.getElem?_inj hlt hn).mp (hj.trans hk.symm)
  omega
theorem tT_at {X : Str → Option Int} {c : Int} {ks : List Str} (hn : ks.Nodup) {i : Nat} {k : Str} (hk : ks[i]? = some k) : tT X X c (ks.take i) k = X k := by
  unfold tT; rw [if_neg (fun q => notin_take hn hk q.1)]

/-! ## expire_events -/
local macro_rules | `(tactic| walk_at "getMethod ref") => `(tactic| (k_here; (with_reducible show wpAny _ _ (getMethod (Value.ref _) (Str.ofString "keys") _) _ _ _); k_dflt (refine dm_method (knd := PySem.strKind _ _) PySem.F.slot_dict_keys PySem.F.type_dict_keys (by k_asm) (by k_mem) (by k_asm) ?_)))
local macro_rules | `(tactic| walk_at "call builtin:dict.keys") => `(tactic| (k_here; k_dflt (refine' dm_view ?pF ?pN ?ph ?pd ?plo ?_; (case pF => k_asm); (case pN => k_asm); (case ph => k_mem); (case pd => k_asm); (case plo => k_asm); k_whole); intro D' h' F' N' l1; (try k_lt l1)))
local macro_rules | `(tactic| walk_at "call type:list") => `(tactic| (k_here; (with_reducible show wpAny _ _ (call (Value.type "list") [Value.ref _]) _ _ _); k_dflt (refine' dm_list ?ph ?pF ?pN ?pv ?pp ?pd ?pb ?_; (case ph => first | rfl | assumption); (case pF => k_asm); (case pN => k_asm); (case pv => k_mem); (case pp => k_mem); (case pd => k_asm); (case pb => omega); k_whole); intro B' c' h' tk' vs' ks' hv' hn' hk' F' N' l1; (try k_lt l1)))
local macro_rules | `(tactic| walk_at "pyIter ref") => `(tactic| refine stop_here ?_)
local macro_rules | `(tactic| walk_at "subscriptTail") => `(tactic| (k_here; (with_reducible show wpAny _ _ (subscriptTail _ _ (Value.ref _) (Value.str _ _)) _ _ _); k_dflt (refine' dm_item (knd := PySem.strKind _ _) ?pN ?ph ?pd (strKind_is _ _ _ _) ?pv ?_; (case pN => k_asm); (case ph => k_mem); (case pd => k_asm); (case pv => assumption); k_whole); intro t'))
local macro_rules | `(tactic| walk_at "InvEndG") => `(tactic| refine stop_here ?_)
section
variable {w : World} {A A₀ : Around} {E : Value → Shared → Prop} {s : Shared} {h₀ base : Heap} {L : Addr} {m mg mb : Str → Option Value} {outer : List Env} {env : Env}
  {p : Program} {loose : List Str} {mean : ExcName → Option Value} {Q : Value → Shared → Prop} {own : List (Addr × Obj)}
  {x dx f cl c' l st std ex ev : Addr} {t1 t2 t3 t4 : Tok} {qual : Str} {pm ctv : Value} {oc oe so eo evo : Obj} {vs : Array Value} {qt : Tok} {c : Int} {t : Tok} {n n4 : Nat} {S X₁ : Tab} {b be : Nat}
end
section
variable {prog : Program} {w : World} {A : Around} {E : Value → Shared → Prop} {s : Shared} {env : Env} {h₀ : Heap} {y : Str} {body : List Stmt} {Q : Flow → Shared → Prop}
  {own : List (Addr × Obj)} {P : Params}
  {x dx f cl c' l st std ex ev : Addr} {t1 t2 t3 t4 : Tok} {qual : Str} {pm ctv : Value} {oc oe so eo evo : Obj} {c : Int} {t : Tok} {n n4 : Nat} {S X₁ : Tab} {b : Nat}
theorem OwnOff.app {own own' : List (Addr × Obj)} {adr : List Addr} (h1 : OwnOff own adr) (h2 : OwnOff own' adr) : OwnOff (own ++ own') adr := fun p hp => (List.mem_append.mp hp).elim (h1 p) (h2 p)
theorem OwnOff.sub {own : List (Addr × Obj)} {a1 a2 : List Addr} (h : OwnOff own a1) (hs : ∀ b ∈ a2, b ∈ a1) : OwnOff own a2 := fun p hp b hb => h p hp b (hs b hb)
def SwJ (P : Params) (w : World) (x dx f cl c' l st std ex ev : Addr) (t1 t2 t3 t4 : Tok) (qual : Str) (pm ctv : Value) (oc oe evo : Obj) (c : Int) (t : Tok) (n n4 : Nat) (own : List (Addr × Obj)) (a1 a2 a3 a4 : Addr × Obj) (S X₁ : Tab) (b : Nat) (nx : List (Addr × Obj)) : Prop :=
  ∃ so' eo', nx = a1 :: a2 :: a3 :: a4 :: (core P x dx f cl c' l st std ex ev t1 t2 t3 t4 qual pm ctv oc oe n n4 c t so' eo' evo own) ∧ CtrM (PySem.strKind lawProg w) 317 std so' S b ∧ DctM (PySem.strKind lawProg w) eo' X₁ b
theorem iter_sweep {A1 : Addr} {a2 a3 a4 : Addr × Obj} {vs : List Value} {ks : List Str} {nn : Nat} {m₀ : Str → Option Value}
    (hv : KeysAre vs ks) (hnd : ks.Nodup) (hmem : ∀ k, k ∈ ks ↔ (X₁ k).isSome = true) (hh : A.handled = none)
    (F : Fr h₀ env.locals s.heap m₀) (N : News h₀ env.locals s.heap ((A1, W.listOf vs.toArray nn) :: a2 :: a3 :: a4 :: (core P x dx f cl c' l st std ex ev t1 t2 t3 t4 qual pm ctv oc oe n n4 c t so eo evo own))) (hoff : OwnOff own [st, ex, ev])
    (hso : CtrM (PySem.strKind lawProg w) 317 std so S b) (heo : DctM (PySem.strKind lawProg w) eo X₁ b)
    (turn : ∀ i k tt so1 eo1 h tk own' e0, ks[i]? = some k → X₁ k = some e0 → tT X₁ X₁ c (ks.take i) k = some e0 → OwnOff (own ++ own') [st, ex, ev] → OwnOff own' (((A1, W.listOf vs.toArray nn) :: a2 :: a3 :: a4 :: (core P x dx f cl c' l st std ex ev t1 t2 t3 t4 qual pm ctv oc oe n n4 c t so1 eo1 evo own)).map (·.1)) →
      CtrM (PySem.strKind lawProg w) 317 std so1 (tT S X₁ c (ks.take i)) b → DctM (PySem.strKind lawProg w) eo1 (tT X₁ X₁ c (ks.take i)) b →
      Fr h₀ env.locals h (fun z => if z = y then some (.str k tt) else m₀ z) → News h₀ env.locals h ((A1, W.listOf vs.toArray nn) :: a2 :: a3 :: a4 :: (core P x dx f cl c' l st std ex ev t1 t2 t3 t4 qual pm ctv oc oe n n4 c t so1 eo1 evo (own ++ own'))) →
      wpAny (model lawProg w) A (execs body env) (InvPostG h₀ env.locals (fun m' nx => ((A1, W.listOf vs.toArray nn) ∈ nx ∧ SwJ P w x dx f cl c' l st std ex ev t1 t2 t3 t4 qual pm ctv oc oe evo c t n n4 own (A1, W.listOf vs.toArray nn) a2 a3 a4 (tT S X₁ c (ks.take (i + 1))) (tT X₁ X₁ c (ks.take (i + 1))) b nx ∧ ∀ z, z ≠ y → m' z = m₀ z)) own' { s with heap := h, toks := tk } Q) E { s with heap := h, toks := tk })
    (done : ∀ (u : Str → Option Value) so' eo' h tk, CtrM (PySem.strKind lawProg w) 317 std so' (eT S X₁ c) b → DctM (PySem.strKind lawProg w) eo' (eT X₁ X₁ c) b → Fr h₀ env.locals h (fun z => if z = y then u z else m₀ z) → News h₀ env.locals h ((core P x dx f cl c' l st std ex ev t1 t2 t3 t4 qual pm ctv oc oe n n4 c t so' eo' evo own)) → Q .next { s with heap := h, toks := tk }) :
    wpAny (model lawProg w) A (pyIter (.ref A1)) (fun it s₂ => LoopAtV lawProg w A h₀ env y body Q E it s₂) E s := by
  refine iter_strs (fun i nx => SwJ P w x dx f cl c' l st std ex ev t1 t2 t3 t4 qual pm ctv oc oe evo c t n n4 own (A1, W.listOf vs.toArray nn) a2 a3 a4 (tT S X₁ c (ks.take i)) (tT X₁ X₁ c (ks.take i)) b nx) hh (.head _) hv F N ?_ ?_ ?_
  · exact ⟨so, eo, rfl, by rw [List.take_zero, tT_nil]; exact hso, by rw [List.take_zero, tT_nil]; exact heo⟩
  · rintro i k tt news₁ h tk own' hk hsep _ ⟨so1, eo1, rfl, h1, h2⟩ F₁ N₁
    obtain ⟨e0, he0⟩ := Option.isSome_iff_exists.mp ((hmem k).mp (List.mem_of_getElem? hk))
    refine turn i k tt so1 eo1 h tk own' e0 hk he0 ((tT_at hnd hk).trans he0) (OwnOff.app hoff (OwnOff.sub hsep fun b hb => ?_)) hsep h1 h2 F₁ (by simpa only [List.cons_append] using N₁)
    simp only [List.map_cons, List.mem_cons, List.not_mem_nil, or_false] at hb ⊢
    rcases hb with rfl | rfl | rfl <;> simp
  · rintro u news₁ h tk ⟨so1, eo1, rfl, h1, h2⟩ F₁ N₁
    have e : ks.take ks.length = ks := List.take_length
    rw [e, tT_all hmem] at h1 h2
    exact done u so1 eo1 h tk h1 h2 F₁ (newsDrop (newsDrop (newsDrop (newsDrop N₁))))
/-- a turn's end -/
theorem sweep_end {A1 : Addr} {a2 a3 a4 : Addr × Obj} {vs : List Value} {nn : Nat} {m₀ m' : Str → Option Value} {own' : List (Addr × Obj)} {s₁ : Shared} {h' : Heap} {tk : Nat} {so1 so2 eo1 eo2 : Obj} {S2 X2 S3 X3 : Tab}
    (F : Fr h₀ env.locals h' m') (N : News h₀ env.locals h' ((A1, W.listOf vs.toArray nn) :: a2 :: a3 :: a4 :: (core P x dx f cl c' l st std ex ev t1 t2 t3 t4 qual pm ctv oc oe n n4 c t so2 eo2 evo (own ++ own')))) (hsep : OwnOff own' (((A1, W.listOf vs.toArray nn) :: a2 :: a3 :: a4 :: (core P x dx f cl c' l st std ex ev t1 t2 t3 t4 qual pm ctv oc oe n n4 c t so1 eo1 evo own)).map (·.1)))
    (h1 : CtrM (PySem.strKind lawProg w) 317 std so2 S2 b) (h2 : DctM (PySem.strKind lawProg w) eo2 X2 b) (e1 : S2 = S3) (e2 : X2 = X3) (hm : ∀ z, z ≠ y → m' z = m₀ z) :
    InvEndG h₀ env.locals (fun m' nx => ((A1, W.listOf vs.toArray nn) ∈ nx ∧ SwJ P w x dx f cl c' l st std ex ev t1 t2 t3 t4 qual pm ctv oc oe evo c t n n4 own (A1, W.listOf vs.toArray nn) a2 a3 a4 S3 X3 b nx ∧ ∀ z, z ≠ y → m' z = m₀ z)) own' s₁ { s₁ with heap := h', toks := tk } := by
  subst e1 e2
  refine InvEndG.intro F N ⟨.head _, ⟨so2, eo2, rfl, h1, h2⟩, hm⟩ hsep (fun p hp => ?_) (fun p hp => ?_)
  · have : p ∈ ((A1, W.listOf vs.toArray nn) :: a2 :: a3 :: a4 :: (core P x dx f cl c' l st std ex ev t1 t2 t3 t4 qual pm ctv oc oe n n4 c t so2 eo2 evo own)) ++ own' := List.mem_append_left _ hp
    simpa only [List.cons_append] using this
  · have : p ∈ ((A1, W.listOf vs.toArray nn) :: a2 :: a3 :: a4 :: (core P x dx f cl c' l st std ex ev t1 t2 t3 t4 qual pm ctv oc oe n n4 c t so2 eo2 evo own)) ++ own' := List.mem_append_right _ hp
    simpa only [List.cons_append] using this
end
section
variable {w : World} {A A₀ : Around} {E : Value → Shared → Prop} {s : Shared} {h₀ base : Heap} {L : Addr} {m mg mb : Str → Option Value} {outer : List Env} {env : Env}
  {p : Program} {loose : List Str} {mean : ExcName → Option Value} {Q : Value → Shared → Prop} {own : List (Addr × Obj)}
  {x dx f cl c' l st std ex ev : Addr} {t1 t2 t3 t4 : Tok} {qual : Str} {pm ctv : Value} {oc oe so eo evo : Obj} {vs : Array Value} {qt : Tok} {c : Int} {t : Tok} {n n4 : Nat} {S X₁ : Tab} {b be : Nat}
set_option maxHeartbeats 8000000 in
theorem expire_call (hb : b ≤ 900) (hbe : be ≤ 900)
    (B : Below A₀ base outer h₀) (F : Fr h₀ L s.heap m) (X : (hd.heap_39 w.params).In h₀) (T : Top p loose mean mg mb h₀)
    (hA : A.frames = some (env :: outer)) (hf : env.frame = some L) (hke : env.scope.kind = .function) (hh : A.handled = none) (hroom : A.depth ≤ 700)
    (N : News h₀ L s.heap (core w.params x dx f cl c' l st std ex ev t1 t2 t3 t4 qual pm ctv oc oe n n4 c t so eo evo own))
    (hoff : OwnOff own [st, ex, ev]) (Z : SOk w x dx f cl c' l st std ex ev qual oc oe vs qt)
    (hso : CtrM (PySem.strKind lawProg w) 317 std so S b) (heo : DctM (PySem.strKind lawProg w) eo X₁ b) (hev : DctM (PySem.strKind lawProg w) evo (fun _ => none) be)
    (k : ∀ h' tk so' eo', Fr h₀ L h' m → News h₀ L h' (core w.params x dx f cl c' l st std ex ev t1 t2 t3 t4 qual pm ctv oc oe n n4 c t so' eo' evo own) → CtrM (PySem.strKind lawProg w) 317 std so' (eT S X₁ c) b → DctM (PySem.strKind lawProg w) eo' (eT X₁ X₁ c) b → Q .none { s with heap := h', toks := tk }) :
    wpAny (model lawProg w) A (call (.ref 342) [.ref x]) Q E s := by
  have Z' := Z
  obtain ⟨hcc, lo1, lo2, lo3, ord, h2d, h2q, h3d⟩ := Z
  obtain ⟨ahd, ad, afr, ags, au⟩ := A
  obtain rfl : ahd = none := hh
  obtain rfl : afr = some (env :: outer) := hA
  dsimp only at hroom
  refine wpAny_call ?_
  w_top off
  w_strict (
    refine' code_def B F X N T rfl hf hke ?k6 ?k7 ?k8 ?k9 ?kB ?_ ?c2 ?c3 ?c4 ?c5; (case k6 => k_is); (case k7 => k_is); (case k8 => show ad < 1000; omega); (case k9 => first | exact BindsTo.of_eq rfl | exact binds_K (by k_in) rfl (by k_is) rfl rfl rfl); (case c5 => decide); (case kB => exact locs rfl); (case c2 => exact rfl); (case c3 => exact rfl); (case c4 => exact rfl); k_whole; intro g' L' h' FG' F' N' B' X' T'; (try dsimp only); (try k_fold)
    k_steps
    rename KeysAre _ _ => hv1
    rename (∀ k, k ∈ _ ↔ _) => hk1
    unfold Stop
    refine iter_none rfl (.head _) (by assumption) (by assumption) (List.length_eq_zero_iff.mp ?_) ?_
    · rw [hv1.1]
      refine List.length_eq_zero_iff.mpr (List.eq_nil_iff_forall_not_mem.mpr fun a ha => ?_)
      have := (hk1 a).mp ha
      simp at this
    clear hv1 hk1
    intro h2 tk2 F' N'
    (try k_sweep)
    k_steps
    rename KeysAre _ _ => hv2
    rename (∀ k, k ∈ _ ↔ _) => hk2
    rename (List.Nodup _) => hn2
    unfold Stop
    refine iter_sweep (env := envOf _ _ _ _ _) hv2 hn2 hk2 rfl (by assumption) (by assumption) hoff hso heo ?_ ?_
    · intro i key tt so1 eo1 h3 tk3 own' e0 hki hke0 hcur hoff2 hsep hs1 he1 F3 N3
      clear hso heo
      have hget : (X₁ key).getD 0 = e0 := by rw [hke0]; rfl
      k_steps
      · rename e0 ≤ c => hle
        unfold Stop
        exact sweep_end (env := envOf _ _ _ _ _) (by assumption) (by assumption) hsep (by assumption) (by assumption) (tT_hit hki (by rw [hget]; exact hle)) (tT_hit hki (by rw [hget]; exact hle)) (fun z hz => if_neg hz)
      · rename ¬ e0 ≤ c => hle
        unfold Stop
        exact sweep_end (env := envOf _ _ _ _ _) (by assumption) (by assumption) hsep (by assumption) (by assumption) (tT_miss hki (by rw [hget]; exact hle)) (tT_miss hki (by rw [hget]; exact hle)) (fun z hz => if_neg hz)
    · intro u so2 eo2 h3 tk3 hs3 he3 F3 N3
      k_steps
      rename Fr h₀ L _ m => kF
      rename News h₀ L _ _ => kN
      exact k _ _ _ _ kF kN hs3 he3)
end

/-! ## super().__init__() of an object of a class over dict -/
theorem wd_slot_get : Slot "wrapper_descriptor" "__get__" "wrapper_descriptor.__get__" :=
  .of (owner := "wrapper_descriptor") (n := "__get__") (by rw [typeLookup_type, builtinLookup_eq_fast]; kernel_rfl) (by decide +kernel) (by decide +kernel) (by decide +kernel)
    (by first | exact .inl (by decide +kernel) | exact .inr (by decide +kernel)) (by rw [isSubtype_type]; kernel_rfl)
theorem wd_entry_get : entryFor table "wrapper_descriptor.__get__" = some Builtin.«wrapper_descriptor.__get__» := entryFor_of_tree (by kernel_rfl)
theorem wd_args_get (a b c : Value) : argsOk "wrapper_descriptor.__get__" ⟨[a, b, c], []⟩ := by unfold argsOk; kernel_rfl
theorem wd_type_init : typeOf (.builtin "dict.__init__") = pure (.type "wrapper_descriptor") := by show builtinType _ = _; rw [builtinType_eq_fast]; kernel_rfl
theorem di_kind : builtinKind "dict.__init__" = some .slot := by decide +kernel
theorem di_split : splitId "dict.__init__" = some ("dict", "__init__") := by decide +kernel
theorem di_quiet {as : Args} : (Code.builtin "dict.__init__" as).quiet = true := Code.quiet_builtin _ (by decide +kernel)
abbrev mwObj (x : Addr) : Obj := { cls := .type "method-wrapper", data := .fields #[.builtin "dict.__init__", .ref x] }
section
variable {prog : Program} {w : World} {M : Model} {A : Around} {E : Value → Shared → Prop} {s : Shared} {K : Frag} {h₀ : Heap} {L : Addr} {m : Str → Option Value} {news : List (Addr × Obj)} {x C D so : Addr} {ox : Obj} {odx : Option Obj}
theorem wd_run_get {P : Fin → Shared → Prop} (hi : Looks M s.heap (isInstance (.ref x) (.type "dict")) true) (h : P (.done (.ret (.ref s.heap.objs.size))) { s with heap := s.heap.push (mwObj x) }) :
    wpAny M A (Builtin.«wrapper_descriptor.__get__» ⟨[.builtin "dict.__init__", .ref x, .ref C], []⟩) P E s := by
  unfold Builtin.«wrapper_descriptor.__get__»
  refine wpAny_bind (wpAny_of_eq (a := (.builtin "dict.__init__", some (.ref x), some (.ref C))) (by first | rfl | kernel_rfl) ?_)
  show wpAny _ _ ((kfb_private% "checkInstance") (.builtin "dict.__init__") (.ref x) >>= fun _ => (newFields "method-wrapper" [.builtin "dict.__init__", .ref x] >>= fun v => ret v)) _ _ _
  refine wpAny_bind ?_
  refine wpAny_bind (wpAny_of_eq (a := (Str.ofString "__init__", Value.type "dict")) (by first | rfl | kernel_rfl) ?_)
  show wpAny _ _ (isInstance (.ref x) (.type "dict") >>= _) _ _ _
  refine wpAny_bind (hi.here ?_)
  simp only [Bool.not_true, Bool.false_eq_true, if_false]
  refine wpAny_pure ?_
  exact wpAny_bind (wpAny_newObj_type (wpAny_pure h))
theorem sup_ga {h : Heap} {g : Array GenState} {d : Drawn} {t : Nat} {os : OsState} {l₀ l : List Value} {tk : Tok} {Q : Fin → Shared → Prop}
    (hso : h.get? so = some { cls := .type "super", dict := none, data := .fields #[.ref D, .ref x, .ref C], slots := #[] }) (hno : Looks (model prog w) h (opaqueClassAbove (.ref C)) none)
    (hC : Looks (model prog w) h (mroOf (.ref C)) l₀) (hl : (l₀.dropWhile (· != .ref D)).drop 1 = l) (X : K.In h)
    (hf : alongIn K (Str.ofString "__init__") l = some (some (.builtin "dict.__init__"))) (hi : Looks (model prog w) h (isInstance (.ref x) (.type "dict")) true) (hxC : x ≠ C)
    (hq : Q (.done (.ret (.ref h.objs.size))) ⟨h.push (mwObj x), g, d, t, os⟩) :
    wpAny (model prog w) A (Builtin.«super.__getattribute__» ⟨[.ref so, .str (Str.ofString "__init__") tk], []⟩) Q E ⟨h, g, d, t, os⟩ := by
  have hlk := wd_slot_get.lookup
  have hTw : (⟨h, g, d, t, os⟩ : Shared).TypeIs (.builtin "dict.__init__") "wrapper_descriptor" := wd_type_init
  have hne : (Value.ref x == Value.ref C) = false := by simp [hxC]
  have hdt : ({ cls := .type "super", dict := none, data := .fields #[.ref D, .ref x, .ref C], slots := #[] } : Obj).data = .fields #[.ref D, .ref x, .ref C] := rfl
  have f0 : (#[.ref D, .ref x, .ref C] : Array Value)[0]? = some (.ref D) := rfl
  have f1 : (#[.ref D, .ref x, .ref C] : Array Value)[1]? = some (.ref x) := rfl
  have f2 : (#[.ref D, .ref x, .ref C] : Array Value)[2]? = some (.ref C) := rfl
  have hn : (Str.ofString "__init__" == ("__class__" : Str)) = false := by decide
  unfold Builtin.«super.__getattribute__»
  repeat (first
    | (with_reducible refine wpAny_field hso hdt f0 ?_) | (with_reducible refine wpAny_field hso hdt f1 ?_) | (with_reducible refine wpAny_field hso hdt f2 ?_)
    | (with_reducible refine ks_wpAny_notOpaque hno ?_)
    | (with_reducible refine Looks.at hC ?_; rw [hl])
    | (refine ks_forIn_along X (fun _ _ => rfl) rfl ?_ hf)
    | (with_reducible refine wpAny_typeOf hTw ?_)
    | (with_reducible refine wpAny_call_entry wd_slot_get hTw wd_entry_get ?_ (wd_args_get _ _ _))
    | (with_reducible refine wd_run_get hi ?_)
    | (with_reducible refine ⟨_, rfl, ?_⟩)
    | (simp only [hn, hne, Bool.or_false, Bool.false_eq_true, if_false])
    | wp_step
    | dsimp only)
  all_goals exact hq
theorem sup_getMethod {h : Heap} {g : Array GenState} {d : Drawn} {t : Nat} {os : OsState} {l₀ l : List Value} {pl : Sem Bool} {Q : Value × List Value → Shared → Prop}
    (hso : h.get? so = some { cls := .type "super", dict := none, data := .fields #[.ref D, .ref x, .ref C], slots := #[] }) (hno : Looks (model prog w) h (opaqueClassAbove (.ref C)) none)
    (hC : Looks (model prog w) h (mroOf (.ref C)) l₀) (hl : (l₀.dropWhile (· != .ref D)).drop 1 = l) (X : K.In h)
    (hf : alongIn K (Str.ofString "__init__") l = some (some (.builtin "dict.__init__"))) (hi : Looks (model prog w) h (isInstance (.ref x) (.type "dict")) true) (hxC : x ≠ C)
    (hq : Q (.ref h.objs.size, []) ⟨h.push (mwObj x), g, d, t + 1, os⟩) :
    wpAny (model prog w) A (getMethod (.ref so) (Str.ofString "__init__") pl) Q E ⟨h, g, d, t, os⟩ := by
  have hlk := F.ks_slot_super_ga.lookup
  have hcan := F.ks_canon_super_ga
  have hT : ∀ t', (⟨h, g, d, t', os⟩ : Shared).TypeIs (.ref so) "super" := fun _ => ⟨_, hso, rfl⟩
  unfold getMethod
  refine wpAny_bind (wpAny_specialOf (hT _) hlk ?_)
  show wpAny _ _ (if (Manifest.canonical "super.__getattribute__" != "object.__getattribute__") = true then _ else _) _ _ _
  rw [if_pos hcan]
  unfold getAttr getAttrBy
  refine wpAny_bind (wpAny_bind (wpAny_mkText (wpAny_holding (wpAny_bind (wpAny_typeOf (hT _) (wpAny_bind (wpAny_of_eq hlk ?_)))))))
  show wpAny _ _ (getAttrByItsOwn (.ref so) (.str (Str.ofString "__init__") t) (.type "super") (.builtin "super.__getattribute__") true false) _ _ _
  unfold getAttrByItsOwn hookBefore callGetattribute boundAndCalled
  refine wpAny_bind (wpAny_of_eq (show (if onTheHeap (.type "super") then typeLookup (.type "super") "__getattr__" else pure none) = pure none from rfl) ?_)
  refine wpAny_bind (wpAny_attempt (wpAny_holding ?_))
  show wpAny _ _ (bindSpecial (.builtin "super.__getattribute__") (.ref so) >>= _) _ _ _
  refine wpAny_bind (wpAny_of_eq (F.ks_slot_super_ga.bind _) ?_)
  refine wpAny_mono (Q := fun v s' => v = .ref h.objs.size ∧ s' = ⟨h.push (mwObj x), g, d, t + 1, os⟩) (E := fun _ _ => False)
    (wpAny_call_entry F.ks_slot_super_ga (hT _) F.ks_entry_super_ga (sup_ga hso hno hC hl X hf hi hxC ⟨_, rfl, rfl, rfl⟩) (F.ks_gaArgs_super _ _)) (fun v s' hv => ?_) fun _ _ z => z.elim
  obtain ⟨rfl, rfl⟩ := hv
  exact wpAny_pure (wpAny_pure hq)
/-- over the ledger -/
theorem sup_method {pl : Sem Bool} {Q : Value × List Value → Shared → Prop} (F : Fr h₀ L s.heap m) (X₀ : K.In h₀) (N : News h₀ L s.heap news) (hso : (so, ks_superObj D x C) ∈ news) (ho : nsIn K cStatics "thirdparty.any" = some none)
    (hm : ks_superIn K C D "__init__" = some (some (.builtin "dict.__init__"))) (hi : Looks (model prog w) s.heap (isInstance (.ref x) (.type "dict")) true) (hxC : x ≠ C)
    (h : ∀ q h', Fr h₀ L h' m → News h₀ L h' ((q, mwObj x) :: news) → (∀ p ∈ news, p.1 < q) → Q (.ref q, []) { s with heap := h', toks := s.toks + 1 }) : wpAny (model prog w) A (getMethod (.ref so) (Str.ofString "__init__") pl) Q E s := by
  have X : K.In s.heap := X₀.keeps F.keep
  obtain ⟨hh, g, d, t, os⟩ := s
  cases hc : clsIn K C with
  | none => unfold ks_superIn at hm; rw [hc] at hm; cases hm
  | some cd =>
    unfold ks_superIn at hm
    rw [hc] at hm
    refine sup_getMethod (N _ hso).1 (looks_opaque X ho) (l₀ := cd.mro) ?_ rfl X hm hi hxC ?_
    · exact fun A Q E s k q => wpAny_bind ((looks_clsIn X hc) A _ E s k (wpAny_pure q))
    · obtain ⟨F', N', l'⟩ := ks_newsPush (s := ⟨hh, g, d, t, os⟩) (o := mwObj x) F N rfl (Heap.get?_push_at rfl rfl) (fun b o e => Heap.get?_push_of_some _ e)
      exact h _ _ F' N' l'
/-- the method-wrapper is called without arguments -/
theorem mw_callWith {q : Addr} {pos : Pos} {env : Env} {Q : Value → Shared → Prop} (hq : s.heap.get? q = some (mwObj x)) (h : wpAny M A (call (.ref q) ([] ++ [])) Q E s) :
    wpAny M A (callWith pos (.ref q) [] (backTo pos (starEach [] env)) []) Q E s := by
  unfold callWith
  refine wpAny_bind (wpAny_holding (evalArgs_nil3 (wpAny_bind (wpAny_standAt ?_))))
  refine wpAny_bind (m := keeperOf (.ref q)) ?_
  unfold keeperOf
  refine wpAny_bind (wpAny_load hq ?_)
  simp only [show (Value.type "method-wrapper" != Value.type "method") = true by decide, show (Value.type "method-wrapper" == Value.type "builtin_function_or_method" || Value.type "method-wrapper" == Value.type "method-wrapper") = true by decide, if_true]
  refine wpAny_pure ?_
  exact wpAny_bind (wpAny_mono h (fun r s₂ hr => wpAny_bind (wpAny_holding (wpAny_point (wpAny_pure hr)))) fun _ _ x => x)
theorem di_check (a : Value) : checkBoundCall "dict.__init__" ⟨[a], []⟩ = pure () := by first | kernel_rfl | rfl
theorem mw_call {KK : Type} [DecidableEq KK] {knd : KeyKind prog w KK} {kvs : List (KK × Value)} {dx q : Addr} {o : Obj} {Q : Value → Shared → Prop} (X : K.In s.heap) (c : CtrCls K C) (ho : s.heap.get? x = some o) (hd : CtrIs knd C dx o kvs) (hq : s.heap.get? q = some (mwObj x)) (h : Q .none s) :
    wpAny (model prog w) A (call (.ref q) []) Q E s := by
  refine wpAny_call (codeAny_of_tree ?_)
  show wpAny _ A.in1 (callAny (.ref q) ⟨[], []⟩) _ _ s
  simp only [callAny]
  refine wpAny_bind (wpAny_load hq ?_)
  refine KFB.if_so (show (Value.type "method-wrapper" == Value.type "method" || Value.type "method-wrapper" == Value.type "builtin_function_or_method" || Value.type "method-wrapper" == Value.type "method-wrapper") = true by decide) ?_
  refine wpAny_bind (wpAny_of_eq (a := ()) (di_check _) ?_)
  refine wpAny_bind (wpAny_pure (wpAny_pure ?_))
  refine ⟨di_quiet, codeAny_builtin PySem.F.entry_dict_init ?_⟩
  unfold Builtin.«dict.__init__»
  refine wpAny_bind ?_
  unfold Builtin.Dict.selfAndRest
  refine wpAny_bind (ctr_notOrdered (d := x) (rest := []) X c ho hd ?_)
  show wpAny _ _ (pure (x, [])) _ _ _
  refine wpAny_pure ?_
  show wpAny _ _ (Builtin.Dict.addKeywords x [] >>= fun _ => ret .none) _ _ _
  refine wpAny_bind ?_
  unfold Builtin.Dict.addKeywords
  rw [List.forIn_nil]
  exact wpAny_bind (wpAny_pure (wpAny_pure (wpAny_pure h)))
end

/-! ## A def with **kwds that closes over __class__, and a call with ** of an empty dict -/
section
variable {prog : Program} {w : World} {A A₀ : Around} {s : Shared} {K : Frag} {L : Addr} {h₀ base : Heap} {m mg mb : Str → Option Value} {news : List (Addr × Obj)} {p : Program} {loose : List Str} {mean : ExcName → Option Value}
theorem sup_frame {E : Value → Shared → Prop} {env : Env} {outer : List Env} {R : Result → Shared → Prop} {scope : Scope} {binds : List (Str × Value)} {cdv : Value} {cc : Addr} {f : Addr} {qual : Str} {body : List Stmt}
    (B : Below A₀ base outer h₀) (F : Fr h₀ L s.heap m) (N : News h₀ L s.heap news) (hlim : h₀.NoLimit) (hA : A.frames = some (env :: outer)) (hf : env.frame = some L) (hke : env.scope.kind = .function)
    (hloc : ∀ y ∈ binds, scope.names.lookup y.1 = some .local)
    (h : ∀ g L' h₁, Fr h₀ L g m → Fr g L' h₁ (fun y => binds.reverse.lookup y) → News g L' h₁ news → Below A base (env :: outer) g → h₀.StaysIn g →
      _root_.PySem.wpAt (model prog w) (A.deeper (ksEnv qual scope L' f cdv cc)) (.func body (ksEnv qual scope L' f cdv cc)) (execs body (ksEnv qual scope L' f cdv cc))
        (fun fl s' => LeaveK h₀ L m g R (match fl with | .ret v => v | _ => .none) s')
        (fun e s' => wpAny (model prog w) (A.deeper (ksEnv qual scope L' f cdv cc)) (leaving (ksEnv qual scope L' f cdv cc) e) (fun _ s'' => R (.error e) s'') (fun e' s'' => R (.error e') s'') s')
        { s with heap := h₁, toks := s.toks + binds.length })
    (hcell : ∀ x ∈ scope.names, x.2 ≠ .cell) (hk : scope.kind = .function) :
    wpAny (model prog w) A.in1 (newFunctionEnv scope mainGlobals [(Str.ofString "__class__", cc)] binds (qual ++ ".<locals>.") (some f) cdv none builtinsNs) (fun env' s₂ => s₂.heap.NoLimit ∧ codeAny (model prog w) A (.func body env') R s₂) E s := by
  obtain ⟨FG, BG, st, lv⟩ := groundX (R := R) B F N hA hf hke
  refine wpAny_newFunctionEnv hcell hloc (fun h₁ hns hsb => ⟨(hlim.keeps F.keep).fresh _ hsb, ks_codeAny_funcAt ?_⟩) hk
  have hk₁ : ∀ b o, s.heap.get? b = some o → h₁.get? b = some o := fun b o e => hsb.extBut b o (Nat.ne_of_lt (Heap.lt_size e)) (Heap.get?_push_of_some _ e)
  exact ks_wpAt_mono (h _ s.heap.objs.size h₁ FG ⟨hns, fun b o e => hk₁ b o (of_hideAll _ e), Nat.le_of_eq (hideAll_size _ _)⟩
    (fun p hp => ⟨hk₁ _ _ (N p hp).1, Nat.ne_of_lt (Heap.lt_size (N p hp).1), hideAll_none _ (List.mem_map_of_mem hp)⟩) BG st) (fun fl s' hl => lv _ _ hl) fun _ _ y => y
theorem sup_more {env : Env} {outer : List Env} {R : Result → Shared → Prop} {name qual : Str} {params : Arguments} {body : List Stmt} {scope : Scope} {cc : Addr} {dV kV doc pm cdv ct oc : Value} {an od : Option Addr} {osl : Array (Option Value)} {f : Addr} {args : Args} {nm : Str} {ex front : List (Str × Value)} {g₁ : Addr → Sem (List (Str × Value))}
    (B : Below A₀ base outer h₀) (F : Fr h₀ L s.heap m) (X₀ : K.In h₀) (N : News h₀ L s.heap news) (T : Top p loose mean mg mb h₀) (hA : A.frames = some (env :: outer)) (hf : env.frame = some L) (hke : env.scope.kind = .function)
    (ho : K.lookup f = some ⟨oc, od, .func (ksFn name qual params body scope dV kV doc pm an cdv ct cc), osl⟩) (hcd : codeIn K cdv qual = true) (hroom : A.depth < recursionLimit)
    (hx : args.kw.filter (fun x => !ownKw params x.1) = ex) (hnm : params.kwarg.map (·.arg) = some nm) (hn : kwDistinct ex = true)
    (hp : peekA K ⟨prog, w.params⟩ (bindArgs (ksFn name qual params body scope dV kV doc pm an cdv ct cc) args) = some (dictOf [] 0, g₁))
    (hk₁ : ∀ D, g₁ D = (forIn ex PUnit.unit (fun x _ => (nsSet D x.1 x.2 >>= fun _ => pure (ForInStep.yield PUnit.unit))) >>= fun _ => pure (front ++ [(nm, Value.ref D)])))
    (hloc : ∀ D, ∀ y ∈ front ++ [(nm, Value.ref D)], scope.names.lookup y.1 = some .local)
    (h : ∀ D o g L' h₁ tk, (∀ p ∈ news, p.1 < D) → (D == sysModules) = false → o.IsDictOf (strKind prog w) ex → Fr h₀ L g m → Fr g L' h₁ (fun y => (front ++ [(nm, Value.ref D)]).reverse.lookup y) → News g L' h₁ ((D, o) :: news) → Below A base (env :: outer) g → K.In g → Top p loose mean mg mb g →
      _root_.PySem.wpAt (model prog w) (A.deeper (ksEnv qual scope L' f cdv cc)) (.func body (ksEnv qual scope L' f cdv cc)) (execs body (ksEnv qual scope L' f cdv cc))
        (fun fl s' => LeaveK h₀ L m g R (match fl with | .ret v => v | _ => .none) s')
        (fun e s' => wpAny (model prog w) (A.deeper (ksEnv qual scope L' f cdv cc)) (leaving (ksEnv qual scope L' f cdv cc) e) (fun _ s'' => R (.error e) s'') (fun e' s'' => R (.error e') s'') s')
        { s with heap := h₁, toks := tk })
    (hco : scope.isCoroutine = false) (hgen : scope.isGenerator = false) (hk : scope.kind = .function)
    (hcell : ∀ x ∈ scope.names, x.2 ≠ .cell) : codeAny (model prog w) A (.call (.ref f) args) R s := by
  have _ := hx
  have _ := hnm
  have hn' := kwDistinct_nodup hn
  refine codeAny_call_function (fd := ksFn name qual params body scope dV kV doc pm an cdv ct cc) (body := body) hroom ((X₀.keeps F.keep) _ _ ho) rfl hco hgen rfl (codeRec_of (X₀.keeps F.keep) hcd) ?_
  refine wp_of_peekA (o := dictOf [] 0) F N (X₀.keeps F.keep) rfl _ g₁ hp fun h' F' N' l => ?_
  rw [hk₁]
  refine wpAny_bind (kp_fill ex { s with heap := h' } [] 0 F' N' (fun p hp => Nat.ne_of_lt (l p hp)) (fun _ he => nomatch he) (fun _ he => nomatch he) hn' fun h'' F'' N'' => wpAny_pure ?_)
  exact sup_frame (s := { s with heap := h'', toks := s.toks + ex.length }) B F'' N'' T.nolimit hA hf hke (hloc _)
    (fun g L' h₁ FG FL NG BG st => h _ _ g L' h₁ _ l (F.notModules (modules_low T.nolimit)) (kp_isDict s.toks (0 + ex.length) hn') FG FL NG BG (X₀.keeps st) (T.keeps st)) hcell hk
end
section
variable {prog : Program} {w : World} {M : Model} {A : Around} {E : Value → Shared → Prop} {s : Shared} {K : Frag} {h₀ : Heap} {L D q : Addr} {m : Str → Option Value} {news : List (Addr × Obj)} {o : Obj}
/-- what ** of an empty dict needs -/
def EmptyAt (h : Heap) (D : Addr) : Prop := ∃ o ep, h.get? D = some o ∧ o.cls = .type "dict" ∧ o.data = .dict #[] ep
def SplatE (q : Addr) (v : Value) (Q : Shared → Prop) (s : Shared) : Prop := ∃ D, v = .ref D ∧ EmptyAt s.heap D ∧ (D == sysModules) = false ∧ EmptyAt s.heap q ∧ Q s
def PushD (Q : Addr → Shared → Prop) (s : Shared) : Prop := Q s.heap.objs.size { s with heap := s.heap.push (dictOf [] 0) }
theorem pushD_N {Q : Addr → Shared → Prop} (F : Fr h₀ L s.heap m) (N : News h₀ L s.heap news) (h : ∀ q h', Fr h₀ L h' m → News h₀ L h' ((q, dictOf [] 0) :: news) → (∀ p ∈ news, p.1 < q) → Q q { s with heap := h' }) : PushD Q s :=
  h _ _ (F.push _) (News.push F N _) fun p hp => Heap.lt_size (N p hp).1
theorem splatE_N {Q : Shared → Prop} (N : News h₀ L s.heap news) (hq : (q, dictOf [] 0) ∈ news) (hD : (D, o) ∈ news) (hd : o.IsDictOf (PySem.strKind prog w) []) (lo : (D == sysModules) = false) (h : Q s) : SplatE q (.ref D) Q s := by
  refine ⟨D, rfl, ?_, lo, ⟨_, _, (N _ hq).1, rfl, rfl⟩, h⟩
  obtain ⟨es, ep, h1, h2, _, hp, _⟩ := hd
  have e1 : es = #[] := by
    have := hp.length
    simpa using this
  exact ⟨o, ep, (N _ hD).1, h1.1, by rw [h2, e1]⟩
theorem keywordsIn_empty {f : Value} {Q : List (Str × Value) → Shared → Prop} (hq : EmptyAt s.heap q) (h : Q [] s) : wpAny M A (keywordsIn f q) Q E s := by
  obtain ⟨o, ep, ho, hc, hd⟩ := hq
  unfold keywordsIn
  refine wpAny_bind (wpAny_dictEntries ho hd ?_)
  refine wpAny_bind ?_
  rw [← Array.forIn_toList, List.forIn_nil]
  exact wpAny_pure (wpAny_pure h)
theorem mm_empty {Q : Unit → Shared → Prop} (hD : EmptyAt s.heap D) (lo : (D == sysModules) = false) (hq : EmptyAt s.heap q) (h : Q () s) : wpAny (model prog w) A (mergeMapping q (.ref D) true) Q E s := by
  obtain ⟨o, ep, ho, hc, hd⟩ := hD
  obtain ⟨o2, ep2, ho2, hc2, hd2⟩ := hq
  have hT : s.TypeIs (.ref D) "dict" := ⟨o, ho, hc⟩
  have hs := PySem.F.slot_dict_iter.lookup
  have hsub : isSubtype (.type "dict") (.type "dict") = pure true := by rw [isSubtype_type]; kernel_rfl
  unfold mergeMapping
  repeat (any_goals (first | assumption | (with_reducible refine wpAny_of_eq hsub ?_) | (simp only [lo, Bool.false_eq_true, if_false, if_true]) | (with_reducible refine wpAny_dictEntries ho hd ?_) | (with_reducible refine wpAny_dictEntries ho2 hd2 ?_) | (with_reducible refine wpAny_dictEpoch ho hd ?_) | (rw [← Array.forIn_toList, List.forIn_nil]) | wp_step))
theorem merged_empty {f : Value} {x : Sem Value} {pos : Pos} {Q : Addr → Shared → Prop}
    (h : PushD (fun q s₁ => wpAny (model prog w) A x (fun v s₂ => SplatE q v (fun s₃ => Q q s₃) s₂) E s₁) s) : wpAny (model prog w) A (mergedKeywords f [(none, (do let v ← x; standAt pos; pure v))]) Q E s := by
  unfold mergedKeywords
  refine wpAny_bind (wpAny_alloc (wpAny_bind (wpAny_holding ?_)))
  dsimp only
  rw [List.forIn_cons]
  dsimp only
  refine wpAny_bind (wpAny_bind (wpAny_bind (KFB.if_so rfl (wpAny_pure ?_))))
  refine wpAny_bind (wpAny_bind (wpAny_mono h (fun v s₂ h₂ => wpAny_bind (wpAny_standAt (wpAny_pure ?_))) fun _ _ z => z))
  obtain ⟨D, rfl, hD, lo, hq, h₂⟩ := h₂
  refine wpAny_bind (wpAny_onRaise (wpAny_holding ?_))
  refine wpAny_tryCatch (wpAny_onRaise (mm_empty hD lo hq ?_))
  refine wpAny_pure ?_
  dsimp only
  rw [List.forIn_nil]
  refine wpAny_pure ?_
  refine KFB.if_so rfl (wpAny_pure ?_)
  exact wpAny_pure h₂
/-- a call with positional arguments and ** of an empty dict -/
theorem callWith_KS {P : Heap → Prop} {env : Env} {pos : Pos} {f : Value} {first : List Value} {Q : Value → Shared → Prop} {e kwe : Expr} {rest : List Expr} (hkp : ∀ h, P h → ∃ k, (k = Keeper.frame ∨ k = Keeper.machine ∨ k = Keeper.boundFrame) ∧ Looks (model prog w) h (keeperOf f) k)
    (h : wpAny (model prog w) A (spliced (backTo pos (starEach (e :: rest) env))) (fun vs s₁ => PushD (fun q s₂ => wpAny (model prog w) A (eval kwe env) (fun v s₃ => SplatE q v (fun s₄ => P s₄.heap ∧ wpAny (model prog w) A (call f (first ++ vs)) Q E s₄) s₃) E s₂) s₁) E s)
    (he : starEach (e :: rest) env = (false, eval e env) :: starEach rest env := by rfl) {kw : Keyword} (hkw : keywordEach [kw] env = [(none, eval kwe env)] := by rfl) :
    wpAny (model prog w) A (callWith pos f first (backTo pos (starEach (e :: rest) env)) (backToKw pos (keywordEach [kw] env))) Q E s := by
  unfold callWith
  rw [hkw]
  refine wpAny_bind (wpAny_holding ?_)
  refine wpAny_mono (Q := fun a s₁ => P s₁.heap ∧ wpAny (model prog w) A (call f (first ++ a.pos) a.kw) Q E s₁) (E := E) ?_ (fun a s₁ h₁ => wpAny_bind (wpAny_standAt ?_)) fun _ _ x => x
  · rw [he] at h ⊢
    unfold evalArgs
    dsimp only
    show wpAny _ _ (spliced (backTo pos ((false, eval e env) :: starEach rest env)) >>= _) _ _ _
    refine wpAny_bind (wpAny_mono h (fun vs s₁ h₁ => wpAny_bind (wpAny_pure ?_)) fun _ _ x => x)
    refine wpAny_holding ?_
    refine KFB.if_not rfl ?_
    refine wpAny_bind (merged_empty ?_)
    unfold PushD at h₁ ⊢
    refine wpAny_mono h₁ (fun v s₂ h₂ => ?_) fun _ _ x => x
    obtain ⟨D, rfl, hD, lo, hq, h₂⟩ := h₂
    refine ⟨D, rfl, hD, lo, hq, ?_⟩
    refine wpAny_bind (wpAny_pure ?_)
    refine wpAny_bind (wpAny_holding (keywordsIn_empty hq ?_))
    exact wpAny_pure h₂
  · obtain ⟨k, hk', L⟩ := hkp _ h₁.1
    have hst : ((backTo pos (starEach (e :: rest) env)).any (·.1) || (backToKw pos [(none, eval kwe env)]).any (·.1.isNone)) = true := by rw [Bool.or_eq_true]; exact .inr rfl
    simp only [hst]
    refine wpAny_bind (L.here ?_)
    have tail : ∀ {t : Sem Value}, wpAny (model prog w) A t Q E s₁ → wpAny (model prog w) A (t >>= fun r => holding [r] point >>= fun _ => pure r) Q E s₁ :=
      fun ht => wpAny_bind (wpAny_mono ht (fun r s₂ hr => wpAny_bind (wpAny_holding (wpAny_point (wpAny_pure hr)))) fun _ _ x => x)
    have marked (mk : Value) : wpAny (model prog w) A (callMarked mk f (first ++ a.pos) a.kw) Q E s₁ := by unfold callMarked; exact Calls.wpAny_keep h₁.2
    rcases hk' with rfl | rfl | rfl <;> dsimp only <;> first | exact tail (marked _) | exact tail (wpAny_operating h₁.2)
theorem methodCall_SKW {env : Env} {o : Expr} {name : Str} {apos pos : Pos} {args : List Expr} {kws : List Keyword} {Q : Value → Shared → Prop}
    (h : wpAny M A (eval o env) (fun ov s₁ => wpAny M A (getAttr ov name true) (fun g s₂ => wpAny M A (callWith pos g [] (backTo pos (starEach args env)) (backToKw pos (keywordEach kws env))) Q E s₂) E s₁) E s)
    (he : eval (.Call (.Attribute o name apos) args kws pos) env = (do
      let ov ← eval o env
      standAt apos.atName
      let (f, first) ← holding [ov] (do pure (← getAttr ov name true, []))
      callWith pos f first (backTo pos (starEach args env)) (backToKw pos (keywordEach kws env))) := by rfl) :
    wpAny M A (eval (.Call (.Attribute o name apos) args kws pos) env) Q E s := by
  rw [he]
  refine wpAny_bind (wpAny_mono h (fun ov s₁ h₁ => wpAny_bind (wpAny_standAt (wpAny_bind (wpAny_holding (wpAny_bind (wpAny_mono h₁ (fun fx s₂ h₂ => wpAny_pure ?_) fun _ _ x => x)))))) fun _ _ x => x)
  exact h₂
end

/-! ## Counter() -/
section
variable {prog : Program} {w : World} {A : Around} {E : Value → Shared → Prop} {s : Shared} {h₀ : Heap} {L d : Addr} {m : Str → Option Value} {news : List (Addr × Obj)} {KF : Frag} {C dx : Addr} {o : Obj}
theorem ctr_inst {h : Heap} {x : Addr} (N : News h₀ L h news) (hx : (x, ctrNew C dx) ∈ news) (hd : (dx, dictOf [] 0) ∈ news) : InstAt h x (ctrNew C dx) C (some (dictOf [] 0)) := ⟨(N _ hx).1, rfl, rfl, (N _ hd).1⟩
theorem ctrNew_inst {M : Model} {h : Heap} {x : Addr} (X : KF.In h) (ho : h.get? x = some (ctrNew C dx)) (c : CtrCls KF C) : Looks M h (isInstance (.ref x) (.type "dict")) true :=
  (show Looks M h (typeOf (.ref x)) (.ref C) from (Looks.ld ho).andThen .now).andThen (looks_mroIn X c.sub)
theorem ctr_methodF {KK : Type} [DecidableEq KK] {knd : KeyKind prog w KK} {kvs : List (KK × Value)} {name : Str} {f : Addr} {ga : String} {pl : Sem Bool} {es : List DictEntry} {n : Nat} {Q : Value × List Value → Shared → Prop} (X : KF.In s.heap) (ho : s.heap.get? d = some o) (hd : CtrIs knd C dx o kvs) (hx : s.heap.get? dx = some (dictOf es n))
    (hga : findIn KF (.ref C) "__getattribute__" = some (some (.builtin ga))) (hcan : Manifest.canonical ga = "object.__getattribute__") (hk : findIn KF (.ref C) "__getattr__" = some none)
    (hf : findIn KF (.ref C) name = some (some (.ref f))) (ht : typeIn KF (.ref f) = some (.type "function")) (hl : getL name es = some none) (h : Q (.ref f, [.ref d]) s) :
    wpAny (model prog w) A (getMethod (.ref d) name pl) Q E s := by
  unfold getMethod specialOf
  have T := CtrIs.type (M := model prog w) ho hd
  refine wpAny_bind (wpAny_bind (T.here ((looks_findIn X hga).here ?_)))
  dsimp only
  rw [hcan, if_neg (by decide)]
  refine wpAny_bind (wpAny_bind (T.here ((looks_findIn X hk).here ?_)))
  refine wpAny_bind (wpAny_bind (T.here ((looks_findIn X hf).here (wpAny_bind ((looks_typeIn X ht).here ?_)))))
  rw [if_neg (by decide +kernel)]
  obtain ⟨es', ep, rfl, _⟩ := hd
  refine wpAny_bind (wpAny_loadPart ho ?_)
  refine wpAny_bind (wpAny_bind (wpAny_loadPart hx ?_))
  rw [nsLook_of (r := none) (by rw [lookIn_dict]; exact hl)]
  refine wpAny_pure ?_
  exact wpAny_bind (wpAny_rule (wpAny_pure h))
theorem ga_kind : builtinKind "dict.__getattribute__" = some .slot := by decide +kernel
theorem ga_split : splitId "dict.__getattribute__" = some ("dict", "__getattribute__") := by decide +kernel
/-- a bound method of an object of a class over dict -/
theorem ctr_bound {x f : Addr} {name : Str} {expr : Bool} {Q : Value → Shared → Prop} (F : Fr h₀ L s.heap m) (X₀ : KF.In h₀) (c : CtrCls KF C) (N : News h₀ L s.heap news) (hx : (x, ctrNew C dx) ∈ news) (hd : (dx, dictOf [] 0) ∈ news)
    (hga : findIn KF (.ref C) "__getattribute__" = some (some (.builtin "dict.__getattribute__"))) (hk : findIn KF (.ref C) "__getattr__" = some none)
    (hh : hasDictIn KF C = true) (ha : findIn KF (.ref C) name = some (some (.ref f))) (hf : isFn KF (.ref f) = true)
    (hgf : specialIn KF (.ref f) "__get__" = some (some (.builtin "function.__get__"))) (ht : takesIn KF (.ref f) = some false) (hc : copiedNames.contains name = false)
    (h : ∀ q h', Fr h₀ L h' m → News h₀ L h' ((q, methodObj (.ref f) (.ref x)) :: news) → (∀ p ∈ news, p.1 < q) → Q (.ref q) { s with heap := h', toks := s.toks + 1 }) : wpAny (model prog w) A (getAttr (.ref x) name expr) Q E s := by
  have X : KF.In s.heap := X₀.keeps F.keep
  have I := ctr_inst N hx hd
  have hi : Looks (model prog w) s.heap (isInstance (.ref x) (.type "dict")) true := ctrNew_inst X (N _ hx).1 c
  have hfo : findObj KF C (some (dictOf [] 0)) name = some (.bind (.builtin "function.__get__") (.ref f)) := findObj_fn hh ha hgf ht hc (by show lookIn name (dictOf [] 0) = _; rw [lookIn_dict]; rfl)
  have L3 := looks_find (M := model prog w) X I hfo
  have L1 := looks_findIn (M := model prog w) X hga
  have L2 := looks_findIn (M := model prog w) X hk
  have L0 := I.type (M := model prog w)
  have keep : ∀ b o, s.heap.get? b = some o → ({ s with toks := s.toks + 1 } : Shared).heap.get? b = some o := fun _ _ e => e
  unfold getAttr getAttrBy
  refine wpAny_bind (wpAny_mkText (wpAny_holding (wpAny_bind (L0 _ _ _ _ keep (wpAny_bind (L1 _ _ _ _ keep ?_))))))
  show wpAny _ _ (getAttrByItsOwn (.ref x) (.str name s.toks) (.ref C) (.builtin "dict.__getattribute__") true expr) _ _ _
  unfold getAttrByItsOwn hookBefore callGetattribute boundAndCalled
  show wpAny _ _ (typeLookup (.ref C) "__getattr__" >>= _) _ _ _
  refine wpAny_bind (L2 _ _ _ _ keep ?_)
  refine wpAny_bind (wpAny_attempt (wpAny_holding ?_))
  have hx0 : (expr && onTheHeap (Value.builtin "dict.__getattribute__")) = false := by cases expr <;> rfl
  rw [hx0]
  refine KFB.if_not rfl ?_
  refine wpAny_bind (wpAny_of_eq (PySem.F.slot_dict_getattribute.bind _) ?_)
  refine wpAny_call (codeAny_call_builtin PySem.F.slot_dict_getattribute.plain am_entry_dict_getattribute (check_looks (i := "dict.__getattribute__") (owner := "dict") (n := "__getattribute__") (self := .ref x) (rest := [.str name s.toks]) (kw := []) (.inl ga_kind) ga_split hi (PySem.F.args_dict_getattribute_2 _ _) ?_))
  unfold Builtin.«object.__getattribute__»
  refine wpAny_bind (wpAny_of_eq (a := (Value.ref x, [Value.str name s.toks])) (by first | rfl | kernel_rfl) ?_)
  dsimp only
  refine wpAny_bind (wpAny_of_eq (a := name) (by first | rfl | kernel_rfl) ?_)
  refine wpAny_bind (L0 _ _ _ _ keep (wpAny_bind (L3 _ _ _ _ keep ?_)))
  show wpAny _ _ (holding [.ref f] (call (.builtin "function.__get__") [.ref f, .ref x, .ref C]) >>= ret) _ _ _
  refine wpAny_bind (wpAny_holding ?_)
  refine wpAny_call (fn_get (s := { s with toks := s.toks + 1 }) X (beq_iff_eq.mp hf) ?_)
  exact wpAny_pure (handed_on rfl (h s.heap.objs.size _ (F.push _) (N.push F _) fun p hp => Heap.lt_size (N p hp).1))
theorem nil_truthy {o : Obj} {Q : Bool → Shared → Prop} (N : News h₀ L s.heap news) (hp : (d, o) ∈ news) (lo : (d == sysModules) = false) (hd : o.IsDictOf (PySem.strKind prog w) []) (h : Q false { s with toks := s.toks + 1 + 1 }) : wpAny (model prog w) A (truthy (.ref d)) Q E s :=
  wpAny_truthy_dict (knd := PySem.strKind prog w) lo (kda_dict N hp hd) (by decide) h
end
local macro_rules | `(tactic| walk_at "truthy ref") => `(tactic| (k_here; k_dflt (refine' nil_truthy ?pN ?ph ?plo ?pd ?_; (case pN => k_asm); (case ph => k_mem); (case plo => k_asm); (case pd => k_asm); k_whole); (try simp only [Bool.false_eq_true, if_false])))
section
variable {w : World} {A A₀ : Around} {E : Value → Shared → Prop} {s : Shared} {h₀ base : Heap} {L : Addr} {m mg mb : Str → Option Value} {outer : List Env} {env : Env}
  {p : Program} {loose : List Str} {mean : ExcName → Option Value} {Q : Value → Shared → Prop} {news : List (Addr × Obj)}
set_option maxHeartbeats 8000000 in
theorem update_code {x : Addr} {R : Result → Shared → Prop}
    (B : Below A₀ base outer h₀) (F : Fr h₀ L s.heap m) (X : (hd.heap_39 w.params).In h₀) (T : Top p loose mean mg mb h₀)
    (hA : A.frames = some (env :: outer)) (hf : env.frame = some L) (hke : env.scope.kind = .function) (hh : A.handled = none) (hroom : A.depth ≤ 800)
    (N : News h₀ L s.heap news)
    (k : ∀ h' tk, Fr h₀ L h' m → News h₀ L h' news → R (.ok (.ret .none)) { s with heap := h', toks := tk }) :
    codeAny (model lawProg w) A (.call (.ref 160) ⟨[.ref x, .none], []⟩) R s := by
  obtain ⟨ahd, ad, afr, ags, au⟩ := A
  obtain rfl : ahd = none := hh
  obtain rfl : afr = some (env :: outer) := hA
  dsimp only at hroom
  w_top off
  w_strict (
    refine' kpc_more B F X N T rfl hf hke ?k6 ?k7 ?k8 ?kX ?kM ?kN ?kD ?kR ?kP ?kT ?kB ?_ ?c2 ?c3 ?c4 ?c5; (case k6 => k_is); (case k7 => k_is); (case k8 => show ad < 1000; omega); (case kX => kp_lit); (case kM => exact rfl); (case kN => exact rfl); (case kD => kp_flats); (case kR => exact rfl); (case kP => exact rfl); (case kT => exact fun _ => rfl); (case kB => exact fun _ => locs rfl); (case c5 => decide); (case c2 => exact rfl); (case c3 => exact rfl); (case c4 => exact rfl); k_whole; intro D' o' g' L' h' tk' l1 lo' hs' fs' FG' F' N' B' X' T'; (try k_lt l1); (try dsimp only); (try k_fold)
    k_steps
    rename Fr h₀ L _ m => kF
    rename News h₀ L _ _ => kN
    exact k _ _ kF (newsDrop kN))
end
local macro_rules | `(tactic| walk_at "eval Call Attribute") => `(tactic| (k_here; (with_reducible show wpAny _ _ (eval (Expr.Call (Expr.Attribute _ _ _) _ (_ :: _) _) _) _ _ _); refine methodCall_SKW ?_))
local macro_rules | `(tactic| walk_at "getAttr ref") => `(tactic| (k_here; k_dflt (refine' ctr_bound ?k1 ?k2 ?kc ?k3 ?m1 ?m2 ?k4 ?k5 ?k6 ?k7 ?k8 ?k9 ?k10 ?k11 ?_; (case k1 => k_asm); (case k2 => k_asm); (case kc => k_asm); (case k3 => k_asm); (case m1 => k_mem); (case m2 => k_mem); (case k4 => k_is); (case k5 => k_is); (case k6 => k_is); (case k7 => k_is); (case k8 => k_is); (case k9 => k_is); (case k10 => k_is); (case k11 => decide +kernel); k_whole); intro q' h' F' N' l1; (try k_lt l1)))
local macro_rules | `(tactic| walk_at "PushD") => `(tactic| (refine pushD_N (by k_asm) (by k_asm) ?_; intro q' h' F' N' l1; (try k_lt l1); (try dsimp only)))
local macro_rules | `(tactic| walk_at "SplatE") => `(tactic| (refine splatE_N (by k_asm) (by k_mem) (by k_mem) (by k_asm) (by k_asm) ?_; refine ⟨methP (by k_asm) (by k_mem) (Frag.In.keeps (by k_asm) (Fr.keep (by k_asm))), ?_⟩; (try dsimp only [List.nil_append, List.cons_append])))
local macro_rules | `(tactic| walk_at "call ref") => `(tactic| (k_here; (with_reducible show wpAny _ _ (call (Value.ref _) [Value.none]) _ _ _); k_dflt (refine' call_meth ?qm1 ?qm2 (update_code ?qB ?qF ?qX ?qT ?qA ?qf ?qk ?qh ?qr ?qN ?_); (case qm1 => k_asm); (case qm2 => k_mem); (case qB => k_asm); (case qF => k_asm); (case qX => k_asm); (case qT => k_asm); (case qA => exact Around.frames_deeper (Below.stack (by assumption))); (case qf => exact rfl); (case qk => exact rfl); (case qr => k_room); (case qN => k_asm); (case qh => first | rfl | assumption); k_whole; intro h' tk' F' N'; (try dsimp only))))
local macro_rules | `(tactic| walk_at "getMethod ref") => `(tactic| (k_here; k_dflt (first
  | ((with_reducible show wpAny _ _ (getMethod (Value.ref _) (Str.ofString "update") _) _ _ _); refine' ctr_methodF (knd := PySem.strKind _ _) ?mX ?mo ?md ?mx ?ma ?mb ?mc ?me ?mt ?ml ?_; (case mX => exact Frag.In.keeps (by k_asm) (Fr.keep (by k_asm))); (case mo => exact News.get (by k_asm) (by k_mem)); (case md => exact CtrIs.new _ _); (case mx => exact News.get (by k_asm) (by k_mem)); (case ma => k_is); (case mb => decide +kernel); (case mc => k_is); (case me => k_is); (case mt => k_is); (case ml => exact rfl); k_whole)
  | ((with_reducible show wpAny _ _ (getMethod (Value.ref _) (Str.ofString "__init__") _) _ _ _); refine' sup_method ?mF ?mX ?mN ?mo ?mt ?mm ?mi ?mh ?_; (case mF => k_asm); (case mX => k_asm); (case mN => k_asm); (case mo => k_mem); (case mt => k_is); (case mm => ks_is); (case mi => exact ctrNew_inst (Frag.In.keeps (by k_asm) (Fr.keep (by k_asm))) (News.get (by k_asm) (by k_mem)) (by assumption)); (case mh => exact Nat.ne_of_gt (by assumption)); k_whole; intro q' h' F' N' l1; (try k_lt l1)))))
local macro_rules | `(tactic| walk_at "callWith ref nil") => `(tactic| (k_here; k_dflt (refine' mw_callWith ?mq ?_; (case mq => exact News.get (by k_asm) (by k_mem)); k_whole; try dsimp only [List.nil_append, List.cons_append])))
local macro_rules | `(tactic| walk_at "call ref nil") => `(tactic| (k_here; k_dflt (refine' mw_call (knd := PySem.strKind lawProg _) ?mX ?mc ?mo ?md ?mq ?_; (case mX => exact Frag.In.keeps (by k_asm) (Fr.keep (by k_asm))); (case mq => exact News.get (by k_asm) (by k_mem)); (case mo => exact News.get (by k_asm) (by k_mem)); (case md => exact CtrIs.new _ _); (case mc => k_asm); k_whole)))
local macro_rules | `(tactic| walk_at "wpAt") => `(tactic| (ks_step "attributeBase Call"; k_here; k_dflt (refine ks_node (by k_asm) (by k_asm) (by k_asm) (by k_asm) (by k_is) (by rfl) (by rfl) (ctr_inst (by k_asm) (by k_mem) (by k_mem)) (by k_is) (by rfl) (by first | rfl | decide +kernel) (by k_is) (by k_is) (by k_is) (by k_is) (by decide) (by rfl) (by rfl) (by rfl) (by rfl) (by decide +kernel) (by first | boot_by_name | rfl | kernel_rfl) ?_; intro so' h' F' N' l1; (try k_lt l1))))
section
variable {w : World} {A A₀ : Around} {E : Value → Shared → Prop} {s : Shared} {h₀ base : Heap} {L : Addr} {m mg mb : Str → Option Value} {outer : List Env} {env : Env}
  {p : Program} {loose : List Str} {mean : ExcName → Option Value} {Q : Value → Shared → Prop} {news : List (Addr × Obj)}
set_option maxHeartbeats 8000000 in
theorem init_code {x : Nat} {dx : Addr} {R : Result → Shared → Prop} (hcc : CtrCls (hd.heap_39 w.params) 317) (hx : 317 < x)
    (B : Below A₀ base outer h₀) (F : Fr h₀ L s.heap m) (X : (hd.heap_39 w.params).In h₀) (T : Top p loose mean mg mb h₀)
    (hA : A.frames = some (env :: outer)) (hf : env.frame = some L) (hke : env.scope.kind = .function) (hh : A.handled = none) (hroom : A.depth ≤ 700)
    (N : News h₀ L s.heap ((x, ctrNew 317 dx) :: (dx, dictOf [] 0) :: news))
    (k : ∀ h' tk, Fr h₀ L h' m → News h₀ L h' ((x, ctrNew 317 dx) :: (dx, dictOf [] 0) :: news) → R (.ok (.ret (.ref x))) { s with heap := h', toks := tk }) :
    codeAny (model lawProg w) A (.call (.ref 115) ⟨[.ref x], []⟩) (InitBack x R) s := by
  obtain ⟨ahd, ad, afr, ags, au⟩ := A
  obtain rfl : ahd = none := hh
  obtain rfl : afr = some (env :: outer) := hA
  dsimp only at hroom
  w_top off
  w_strict (
    refine' sup_more B F X N T rfl hf hke ?k6 ?k7 ?k8 ?kX ?kM ?kN ?kP ?kT ?kB ?_ ?c2 ?c3 ?c4 ?c5; (case k6 => k_is); (case k7 => k_is); (case k8 => show ad < 1000; omega); (case kX => kp_lit); (case kM => exact rfl); (case kN => exact rfl); (case kP => exact rfl); (case kT => exact fun _ => rfl); (case kB => exact fun _ => locs rfl); (case c5 => decide); (case c2 => exact rfl); (case c3 => exact rfl); (case c4 => exact rfl); k_whole; intro D' o' g' L' h' tk' l1 lo' hs' FG' F' N' B' X' T'; (try k_lt l1); (try dsimp only); (try k_fold)
    k_steps
    refine' callWith_KS (P := MethP (hd.heap_39 w.params) _ 160 (.ref x)) (keeps_M ?kf) ?_
    case kf => k_is
    k_steps
    rename Fr h₀ L _ m => kF
    rename News h₀ L _ _ => kN
    exact k _ _ kF (newsDrop (newsDrop (newsDrop (newsDrop (newsDrop kN))))))
/-- Counter() -/
theorem counter_call (hcc : CtrCls (hd.heap_39 w.params) 317)
    (B : Below A₀ base outer h₀) (F : Fr h₀ L s.heap m) (X : (hd.heap_39 w.params).In h₀) (T : Top p loose mean mg mb h₀)
    (hA : A.frames = some (env :: outer)) (hf : env.frame = some L) (hke : env.scope.kind = .function) (hh : A.handled = none) (hroom : A.depth ≤ 600)
    (N : News h₀ L s.heap news)
    (k : ∀ (st std : Nat) h' tk, Fr h₀ L h' m → News h₀ L h' ((st, ctrNew 317 std) :: (std, dictOf [] 0) :: news) → (∀ p ∈ news, p.1 < std) → std < st → 317 < std → Q (.ref st) { s with heap := h', toks := tk }) :
    wpAny (model lawProg w) A (call (.ref 317) []) Q E s := by
  refine wpAny_call ?_
  have X' := X.keeps F.keep
  have hi : findIn (hd.heap_39 w.params) (.ref 317) "__init__" = some (some (.ref 115)) := by k_is
  have ht : typeIn (hd.heap_39 w.params) (.ref 115) = some (.type "function") := by k_is
  obtain ⟨oc, od, cd, sl, ho, e2, e3, e4⟩ : ∃ oc od cd sl, (hd.heap_39 w.params).lookup 317 = some ⟨oc, od, .cls cd, sl⟩ ∧ cd.hasDel = false ∧ (sl.toList[4]?).join = some (.builtin "dict.__new__") ∧ cd.mro = [.ref 317, .type "dict", .type "object"] := ⟨_, _, _, _, by k_is, rfl, rfl, rfl⟩
  have h317 : 317 < s.heap.objs.size := Heap.lt_size (X' _ _ ho)
  obtain ⟨hh', g, d, t, os⟩ := s
  refine make_D (fI := 115) (makesD_of X' ho e2 e3 e4 (by k_is) (by k_is)) (looks_findIn X' hi) (fun self => bind_fn X' self ht) ?_
  have N' := (N.push F emptyDict).push (F.push _) (ctrNew 317 hh'.objs.size)
  rw [Heap.size_push] at N'
  refine init_code (s := ⟨(hh'.push emptyDict).push (ctrNew 317 hh'.objs.size), g, d, t, os⟩) hcc (Nat.lt_succ_of_lt h317) B ((F.push _).push _) X T hA hf hke hh ?_ N' ?_
  · show A.depth + 1 ≤ 700; omega
  · intro h2 tk2 F2 N2
    exact k _ _ h2 tk2 F2 N2 (fun p hp => Heap.lt_size (N p hp).1) (Nat.lt_succ_self _) h317
theorem CtrM.new {prog : Program} {KK : Type} [DecidableEq KK] {knd : KeyKind prog w KK} {C dx : Addr} : CtrM knd C dx (ctrNew C dx) (fun _ => none) 0 := ⟨⟨[], CtrIs.new _ _, AllInt.nil, rfl, Nat.le_refl _⟩⟩
theorem DctM.new {prog : Program} {KK : Type} [DecidableEq KK] {knd : KeyKind prog w KK} : DctM knd (dictOf [] 0) (fun _ => none) 0 := by
  refine ⟨⟨[], ⟨#[], 0, ⟨rfl, rfl, rfl⟩, rfl, fun _ h => by simp at h, Pairs.nil, List.nodup_nil⟩, AllInt.nil, rfl, Nat.le_refl _⟩⟩
end

/-! ## MemoryStorage(clock) -/
local macro_rules | `(tactic| walk_at "call ref nil") => `(tactic| (k_here; (with_reducible show wpAny _ _ (call (Value.ref 317) _) _ _ _); k_dflt (refine' counter_call ?qc ?qB ?qF ?qX ?qT ?qA ?qf ?qk ?qh ?qr ?qN ?_; (case qc => k_asm); (case qB => k_asm); (case qF => k_asm); (case qX => k_asm); (case qT => k_asm); (case qA => exact Around.frames_deeper (Below.stack (by assumption))); (case qf => exact rfl); (case qk => exact rfl); (case qh => first | rfl | assumption); (case qr => simp only [depth_deeper, depth_under_make]; omega); (case qN => k_asm); k_whole; intro st' std' h' tk' F' N' l1 l2 l3; (try k_lt l1); (try k_sweep))))
section
variable {w : World} {A A₀ : Around} {E : Value → Shared → Prop} {s : Shared} {h₀ base : Heap} {L : Addr} {m mg mb : Str → Option Value} {outer : List Env} {env : Env}
  {p : Program} {loose : List Str} {mean : ExcName → Option Value} {Q : Value → Shared → Prop} {news : List (Addr × Obj)}
set_option maxHeartbeats 8000000 in
theorem store_call {f : Addr} (hcc : CtrCls (hd.heap_39 w.params) 317)
    (B : Below A₀ base outer h₀) (F : Fr h₀ L s.heap m) (X : (hd.heap_39 w.params).In h₀) (T : Top p loose mean mg mb h₀)
    (hA : A.frames = some (env :: outer)) (hf : env.frame = some L) (hke : env.scope.kind = .function) (hh : A.handled = none) (hroom : A.depth ≤ 500)
    (N : News h₀ L s.heap news)
    (k : ∀ (dx x std st ex ev : Nat) t1 t2 t3 t4 n4 eo evo h' tk, Fr h₀ L h' m → News h₀ L h' ((ev, evo) :: (ex, eo) :: (st, ctrNew 317 std) :: (std, dictOf [] 0) :: (x, instObj 440 dx) :: (dx, dictOf (storeEs w.params f st ex ev t1 t2 t3 t4) n4) :: news) →
      DctM (PySem.strKind lawProg w) eo (fun _ => none) 0 → DctM (PySem.strKind lawProg w) evo (fun _ => none) 0 → (∀ p ∈ news, p.1 < dx) → dx < x → x < std → std < st → st < ex → ex < ev → 317 < std → Q (.ref x) { s with heap := h', toks := tk }) :
    wpAny (model lawProg w) A (call (.ref 440) [.ref f]) Q E s := by
  obtain ⟨ahd, ad, afr, ags, au⟩ := A
  obtain rfl : ahd = none := hh
  obtain rfl : afr = some (env :: outer) := hA
  dsimp only at hroom
  w_top off
  w_strict (
    refine' call_cls F X N ?k4 ?k5 ?k6 ?_; (case k4 => k_is); (case k5 => k_is); (case k6 => k_is); intro x' d' h' F' N' l1 l2; (have hlt := l1); (have hxd := l2); (try k_lt l1); (try k_lt2 l2)
    refine' code_def B F' X N' T rfl hf hke ?k6 ?k7 ?k8 ?k9 ?kB ?_ ?c2 ?c3 ?c4 ?c5; (case k6 => k_is); (case k7 => k_is); (case k8 => show ad + 1 < 1000; omega); (case k9 => first | exact BindsTo.of_eq rfl | exact binds_K (by k_in) rfl (by k_is) rfl rfl rfl); (case c5 => decide); (case kB => exact locs rfl); (case c2 => exact rfl); (case c3 => exact rfl); (case c4 => exact rfl); k_whole; intro g' L' h' FG' F' N' B' X' T'; (try dsimp only); (try k_fold)
    k_steps
    rename Fr h₀ L _ m => kF
    rename News h₀ L _ _ => kN
    exact k _ _ _ _ _ _ _ _ _ _ _ _ _ _ _ kF kN ⟨⟨[], by assumption, AllInt.nil, rfl, Nat.le_refl _⟩⟩ ⟨⟨[], by assumption, AllInt.nil, rfl, Nat.le_refl _⟩⟩ hlt hxd (by first | assumption | omega) (by assumption) (by first | assumption | omega) (by first | assumption | omega) (by assumption))
end

/-! ## A dict whose keys are tuples of a str and an int -/
section
variable {prog : Program} {w : World} {A : Around} {E : Value → Shared → Prop} {s : Shared}
theorem str_eq_int (a : Str) (t : Tok) (b : Int) (u : Tok) : Gives (Builtin.«str.__eq__» ⟨[.str a t, .int b u], []⟩) (.val (Value.notImplemented)) :=
  .of_wp fun M A E s Q h => by obtain ⟨hp, g, d, tk, os⟩ := s; wp_walk; exact ⟨_, rfl, h⟩
theorem int_eq_str (a : Str) (t : Tok) (b : Int) (u : Tok) : Gives (Builtin.«int.__eq__» ⟨[.int b u, .str a t], []⟩) (.val (Value.notImplemented)) :=
  .of_wp fun M A E s Q h => by obtain ⟨hp, g, d, tk, os⟩ := s; wp_walk; exact ⟨_, rfl, h⟩
theorem sub_is : isSubtype (.type "int") (.type "str") = pure false := by rw [isSubtype_type]; kernel_rfl
theorem sub_si : isSubtype (.type "str") (.type "int") = pure false := by rw [isSubtype_type]; kernel_rfl
theorem eqBool_si {a : Str} {t : Tok} {b : Int} {u : Tok} {Q : Bool → Shared → Prop} (h : Q false s) : wpAny (model prog w) A (eqBool (.str a t) (.int b u)) Q E s := by
  unfold eqBool
  refine wpAny_holding ?_
  show wpAny _ _ (if (Value.str a t == Value.int b u) = true then _ else _) Q E s
  rw [if_neg (by rw [show (Value.str a t == Value.int b u) = false from rfl]; exact Bool.false_ne_true)]
  refine wpAny_bind (EqNone.wpAny_richCompare_eq_decline (k := false) (fun s' => typeIs_str s' a t) (fun s' => typeIs_int s' b u) (by decide) sub_is PySem.F.slot_str_eq PySem.F.slot_int_eq_refl rfl
    (call_gives PySem.F.slot_str_eq (typeIs_str s a t) PySem.F.entry_str_eq (PySem.F.args_str_eq_2 _ _) (str_eq_int a t b u)
      ⟨rfl, call_gives PySem.F.slot_int_eq_refl (typeIs_int s b u) PySem.F.entry_int_eq (PySem.F.args_int_eq_2 _ _) (int_eq_str a t b u) ⟨rfl, ?_⟩⟩))
  exact wpAny_truthy_bool h
theorem eqBool_is {a : Str} {t : Tok} {b : Int} {u : Tok} {Q : Bool → Shared → Prop} (h : Q false s) : wpAny (model prog w) A (eqBool (.int b u) (.str a t)) Q E s := by
  unfold eqBool
  refine wpAny_holding ?_
  show wpAny _ _ (if (Value.int b u == Value.str a t) = true then _ else _) Q E s
  rw [if_neg (by rw [show (Value.int b u == Value.str a t) = false from rfl]; exact Bool.false_ne_true)]
  refine wpAny_bind (EqNone.wpAny_richCompare_eq_decline (k := false) (fun s' => typeIs_int s' b u) (fun s' => typeIs_str s' a t) (by decide) sub_si PySem.F.slot_int_eq PySem.F.slot_str_eq_refl rfl
    (call_gives PySem.F.slot_int_eq (typeIs_int s b u) PySem.F.entry_int_eq (PySem.F.args_int_eq_2 _ _) (int_eq_str a t b u)
      ⟨rfl, call_gives PySem.F.slot_str_eq_refl (typeIs_str s a t) PySem.F.entry_str_eq (PySem.F.args_str_eq_2 _ _) (str_eq_int a t b u) ⟨rfl, ?_⟩⟩))
  exact wpAny_truthy_bool h
def mixIs : Str ⊕ Int → Value → Bool
  | .inl k, v => Value.isStrOf k v
  | .inr i, v => Value.isInt i v
def mixHash (w : World) : Str ⊕ Int → Int
  | .inl k => hashStr w k
  | .inr i => hashInt i
def mixKind (prog : Program) (w : World) : KeyKind prog w (Str ⊕ Int) where
  is := mixIs
  hash := mixHash w
  inj := fun v a b ha hb => by
    cases a <;> cases b
    · exact congrArg _ (Value.isStrOf_inj v _ _ ha hb)
    · obtain ⟨t, rfl⟩ := Value.isStrOf_shape ha; exact absurd hb (by simp [mixIs, Value.isInt])
    · obtain ⟨t, rfl⟩ := Value.isInt_shape ha; exact absurd hb (by simp [mixIs, Value.isStrOf])
    · exact congrArg _ (Value.isInt_inj v _ _ ha hb)
  byValue := fun k v h => by
    cases k
    · obtain ⟨t, rfl⟩ := Value.isStrOf_shape h; rfl
    · obtain ⟨t, rfl⟩ := Value.isInt_shape h; rfl
  pyHash := fun {A E s k v Q} hv h => by
    cases k
    · obtain ⟨t, rfl⟩ := Value.isStrOf_shape hv; exact wpAny_pyHash_str h
    · obtain ⟨t, rfl⟩ := Value.isInt_shape hv; exact wpAny_pyHash_int h
  eqBool := fun {A E s a b u v Q} hu hv h => by
    cases a <;> cases b
    · obtain ⟨t, rfl⟩ := Value.isStrOf_shape hu
      obtain ⟨t', rfl⟩ := Value.isStrOf_shape hv
      exact wpAny_eqBool_str (by simpa using h)
    · obtain ⟨t, rfl⟩ := Value.isStrOf_shape hu
      obtain ⟨t', rfl⟩ := Value.isInt_shape hv
      exact eqBool_si (by simpa using h)
    · obtain ⟨t, rfl⟩ := Value.isInt_shape hu
      obtain ⟨t', rfl⟩ := Value.isStrOf_shape hv
      exact eqBool_is (by simpa using h)
    · obtain ⟨t, rfl⟩ := Value.isInt_shape hu
      obtain ⟨t', rfl⟩ := Value.isInt_shape hv
      refine wpAny_eqBool_int ?_
      have e : ∀ x y : Int, (x == y) = decide ((Sum.inr x : Str ⊕ Int) = Sum.inr y) := fun x y => by
        by_cases hxy : x = y
        · subst hxy; simp
        · simp [hxy]
      rw [e]; exact h
  «strs» := fun k x t v h => by
    cases k with
    | inl k0 =>
      have h' : Value.isStrOf k0 (.str x t) = true := h
      obtain ⟨u, hu⟩ := Value.isStrOf_shape h'
      injection hu with hx
      subst hx
      cases v <;> rfl
    | inr i0 => exact absurd (show Value.isInt i0 (.str x t) = true from h) (by simp [Value.isInt])
end
abbrev Book := List (Str ⊕ Int) → Option Int
abbrev bkey (k : Str) (p : Int) : List (Str ⊕ Int) := [.inl k, .inr p]
abbrev tup2 (a b : Value) : Obj := { cls := .type "tuple", data := .seq #[a, b] }
section
variable (prog : Program) (w : World)
/-- the book: what its object holds, the tuples of its keys in the ledger -/
structure BookM (bo : Obj) (tups : List (Addr × Obj)) (f : Book) (b : Nat) : Prop where
  out : ∃ xs es ep, bo.ExactDict ∧ bo.data = .dict es ep ∧ es.toList = xs.map (entryOfKey (tupleKind (mixKind prog w))) ∧ (xs.map (·.1)).Nodup ∧
    (∀ x ∈ xs, ∃ ok, (x.2.1, ok) ∈ tups ∧ TupKeyObj (mixKind prog w) x.1 ok) ∧ AllInt (kvsOf xs) ∧ iat (kvsOf xs) = f ∧ xs.length ≤ b
variable {prog w}
variable {A : Around} {E : Value → Shared → Prop} {s : Shared} {h₀ h : Heap} {L bk q : Addr} {m : Str → Option Value} {news tups : List (Addr × Obj)} {bo : Obj} {f : Book} {b : Nat} {k : Str} {p : Int} {t u : Tok}
theorem tup2_key : TupKeyObj (mixKind prog w) (bkey k p) (tup2 (.str k t) (.int p u)) :=
  TupKeyObj.made (.cons (show Value.isStrOf k (.str k t) = true by simp [Value.isStrOf]) (.cons (show Value.isInt p (.int p u) = true by simp [Value.isInt]) .nil))
theorem BookM.new {o : Obj} (hd : o.IsDictOf (PySem.strKind prog w) []) : BookM prog w o [] (fun _ => none) 0 := by
  obtain ⟨es, ep, hc, hdat, _, hp, _⟩ := hd
  have he : es.toList = [] := List.length_eq_zero_iff.mp hp.length
  exact ⟨[], es, ep, hc, hdat, he, List.nodup_nil, fun _ hx => by simp at hx, AllInt.nil, rfl, Nat.le_refl _⟩
theorem BookM.more {tups' : List (Addr × Obj)} (B : BookM prog w bo tups f b) (h : ∀ q ∈ tups, q ∈ tups') : BookM prog w bo tups' f b :=
  let ⟨xs, es, ep, h1, h2, h3, h4, h5, h6⟩ := B.out; ⟨⟨xs, es, ep, h1, h2, h3, h4, fun x hx => let ⟨ok, a1, a2⟩ := h5 x hx; ⟨ok, h _ a1, a2⟩, h6⟩⟩
theorem bk_get {i₀ : Int} {t₀ : Tok} {Q : Value → Shared → Prop} (hu : A.units + 1 < cLine) (N : News h₀ L s.heap news) (hb : (bk, bo) ∈ news) (lo : (bk == sysModules) = false) (B : BookM prog w bo tups f b) (ht : ∀ q ∈ tups, q ∈ news) (hq : (q, tup2 (.str k t) (.int p u)) ∈ news)
    (hQ : ∀ t' tk, Q (.int ((f (bkey k p)).getD i₀) t') { s with toks := tk }) : wpAny (model prog w) A (call (.builtin "dict.get") [.ref bk, .ref q, .int i₀ t₀]) Q E s := by
  obtain ⟨xs, es, ep, h1, h2, h3, h4, h5, hi, rfl, _⟩ := B.out
  have hd : s.heap.DictOfH (tupleKind (mixKind prog w)) bk xs := ⟨bo, es, ep, N.get hb, h1, h2, h3, fun x hx => let ⟨_, hmk, tt⟩ := h5 x hx; tt.key (N.get (ht _ hmk)), h4⟩
  obtain ⟨t', e⟩ := hi.getD (bkey k p) i₀ t₀
  refine call_meetsIn PySem.F.slot_dict_get hd.typeIs PySem.F.entry_dict_get (PySem.F.args_dict_get_3 _ _ _) (meetsH_dict_get_default (tupleKind (mixKind prog w)) bk q lo _) ⟨hu, bkey k p, xs, (tup2_key (t := t) (u := u)).key (N.get hq), hd, ?_⟩
  rw [← valueAt_kvsOf, e]
  exact hQ _ _
theorem bk_method {pl : Sem Bool} {Q : Value × List Value → Shared → Prop} (N : News h₀ L s.heap news) (hb : (bk, bo) ∈ news) (B : BookM prog w bo tups f b) (hQ : Q (.builtin "dict.get", [.ref bk]) s) :
    wpAny (model prog w) A (getMethod (.ref bk) (Str.ofString "get") pl) Q E s := by
  obtain ⟨xs, es, ep, h1, h2, _⟩ := B.out
  have hT : s.TypeIs (.ref bk) "dict" := ⟨bo, N.get hb, h1.1⟩
  exact getMethod_builtin hT PySem.F.plainAttrs_dict PySem.F.slot_dict_get PySem.F.type_dict_get (fun d hd => by injection hd with hd; subst hd; exact ⟨bo, N.get hb, h1.2.1⟩) hQ
theorem bk_set {g : Obj → List (Addr × Obj)} {v : Int} {tv : Tok} {Q : Unit → Shared → Prop} (hu : A.units + 1 < cLine) (F : Fr h₀ L s.heap m) (N : News h₀ L s.heap news) (U : UpdF bk bo news g) (B : BookM prog w bo tups f b) (ht : ∀ q ∈ tups, q ∈ news) (hq : (q, tup2 (.str k t) (.int p u)) ∈ news) (hsz : b ≤ 1000000)
    (hQ : ∀ h' o' tk, Fr h₀ L h' m → News h₀ L h' (g o') → BookM prog w o' ((q, tup2 (.str k t) (.int p u)) :: tups) (Mine.putAt f (bkey k p) v) (b + 1) → Q () { s with heap := h', toks := tk }) : wpAny (model prog w) A (setItem (.ref bk) (.ref q) (.int v tv)) Q E s := by
  obtain ⟨xs, es, ep, h1, h2, h3, h4, h5, hi, rfl, hl⟩ := B.out
  have hd : s.heap.DictOfH (tupleKind (mixKind prog w)) bk xs := ⟨bo, es, ep, N.get (UpdF.mem U), h1, h2, h3, fun x hx => let ⟨_, hmk, tt⟩ := h5 x hx; tt.key (N.get (ht _ hmk)), h4⟩
  refine wpAny_setItem_heap (knd := tupleKind (mixKind prog w)) (k := bkey k p) (xs := xs) hu ((tup2_key (t := t) (u := u)).key (N.get hq)) hd (fun h' hd' hs' => ?_) (by rw [sizeLine_eq]; omega)
  obtain ⟨o', es', ep', ho', hc', hdat', he', hk', hn'⟩ := hd'
  obtain ⟨F', N'⟩ := cm_upd F N U ho' hs'
  refine hQ h' o' _ F' N' ⟨⟨_, es', ep', hc', hdat', he', hn', fun x hx => ?_, ?_, ?_, ?_⟩⟩
  · rcases mem_storedH hx with ⟨y, hy, e1, e2⟩ | ⟨e1, e2⟩
    · obtain ⟨ok, a1, a2⟩ := h5 y hy
      exact ⟨ok, .tail _ (e2 ▸ a1), e1 ▸ a2⟩
    · rw [e1, e2]
      exact ⟨_, .head _, tup2_key⟩
  · rw [kvsOf_storedH]; exact hi.stored _ _ _
  · rw [kvsOf_storedH]; exact funext fun y => iat_stored _ _ y _ _
  · have e1 : (storedH xs (bkey k p) q (.int v tv)).length = (kvsOf (storedH xs (bkey k p) q (.int v tv))).length := by unfold kvsOf; rw [List.length_map]
    have e2 : (kvsOf xs).length = xs.length := by unfold kvsOf; rw [List.length_map]
    rw [e1, kvsOf_storedH]
    exact Nat.le_trans (stored_length_le _ _ _) (by omega)
end

/-! ## Tuples of strs, of ints, compared -/
section
variable {prog : Program} {w : World} {A : Around} {E : Value → Shared → Prop} {s : Shared} {h₀ : Heap} {L q q2 : Addr} {m : Str → Option Value} {news : List (Addr × Obj)} {Q : Value → Shared → Prop}
theorem ne_two {a b a' b' : Str} {t u t' u' : Tok} (N : News h₀ L s.heap news) (hu : A.units < cLine) (h1 : (q, tup2 (.str a t) (.str b u)) ∈ news) (h2 : (q2, tup2 (.str a' t') (.str b' u')) ∈ news) (ea : a = a') (eb : b = b') (h : Q (.bool false) s) :
    wpAny (model prog w) A (compareOp .NotEq (.ref q) (.ref q2)) Q E s := by
  subst ea eb
  have R := PySem.SeqAt.RcNeAt.tuples (A := A) (s := s) (l := q) (b := q2) (items := #[.str a t, .str b u]) (items2 := #[.str a t', .str b u']) (e := fun _ => true) ⟨_, N.get h1, rfl, _, rfl⟩ ⟨_, N.get h2, rfl, _, rfl⟩ hu (fun j h1 h2 => ?_)
  · exact R prog w E Q h
  · intro prog w E Q hQ
    match j, h1, h2 with
    | 0, _, _ => exact wpAny_eqBool_str (by simpa using hQ)
    | 1, _, _ => exact wpAny_eqBool_str (by simpa using hQ)
    | n + 2, h1, _ => exact absurd h1 (by simp)
theorem ne_four {a b c d a' b' c' d' : Int} {t1 t2 t3 t4 u1 u2 u3 u4 : Tok} (N : News h₀ L s.heap news) (hu : A.units < cLine) (h1 : (q, ({ cls := .type "tuple", data := .seq #[.int a t1, .int b t2, .int c t3, .int d t4] } : Obj)) ∈ news) (h2 : (q2, ({ cls := .type "tuple", data := .seq #[.int a' u1, .int b' u2, .int c' u3, .int d' u4] } : Obj)) ∈ news)
    (ea : a = a') (eb : b = b') (ec : c = c') (ed : d = d') (h : Q (.bool false) s) :
    wpAny (model prog w) A (compareOp .NotEq (.ref q) (.ref q2)) Q E s := by
  subst ea eb ec ed
  have R := PySem.SeqAt.RcNeAt.tuples (A := A) (s := s) (l := q) (b := q2) (items := #[.int a t1, .int b t2, .int c t3, .int d t4]) (items2 := #[.int a u1, .int b u2, .int c u3, .int d u4]) (e := fun _ => true) ⟨_, N.get h1, rfl, _, rfl⟩ ⟨_, N.get h2, rfl, _, rfl⟩ hu (fun j h1 h2 => ?_)
  · exact R prog w E Q h
  · intro prog w E Q hQ
    match j, h1, h2 with
    | 0, _, _ => exact wpAny_eqBool_int (by simpa using hQ)
    | 1, _, _ => exact wpAny_eqBool_int (by simpa using hQ)
    | 2, _, _ => exact wpAny_eqBool_int (by simpa using hQ)
    | 3, _, _ => exact wpAny_eqBool_int (by simpa using hQ)
    | n + 4, h1, _ => exact absurd h1 (by simp)
end

/-! ## The law's own statements, by place -/
def lawDef : List Stmt → Option (List Stmt × Scope)
  | [] => none
  | .FunctionDef n _ b _ _ _ sc _ _ _ :: r => if n == (Str.ofString "law") then some (b, sc) else lawDef r
  | _ :: r => lawDef r
def lawStmts : List Stmt := match lawDef lawProg.main.body with
  | some (b, _) => b
  | none => []
def lawScope : Scope := match lawDef lawProg.main.body with
  | some (_, s) => s
  | none => { kind := .function, names := [], isGenerator := false, isCoroutine := false }
def forBody : List Stmt → List Stmt
  | [] => []
  | .For _ _ b _ _ :: _ => b
  | _ :: r => forBody r
def theFor : List Stmt → List Stmt
  | [] => []
  | .For a b c d e :: _ => [.For a b c d e]
  | _ :: r => theFor r
def loopBody : List Stmt := forBody lawStmts
def innerBody : List Stmt := forBody loopBody
def innerFor : List Stmt := theFor loopBody
def outerFor : List Stmt := theFor lawStmts
abbrev lawEnv (sc : Scope) (L fa : Addr) : Env := envOfC (Str.ofString "law") sc L fa (.ref 453)
/-- what the names stand for that no turn assigns -/
def lawMap (u : Str → Option Value) (x ln bk : Addr) : Str → Option Value := fun y =>
  if y = Str.ofString "book" then some (.ref bk) else if y = Str.ofString "store" then some (.ref x) else if y = Str.ofString "lengths" then some (.ref ln) else u y
theorem lawMap_self {m : Str → Option Value} {x ln bk : Addr} (h1 : m (Str.ofString "book") = some (.ref bk)) (h2 : m (Str.ofString "store") = some (.ref x)) (h3 : m (Str.ofString "lengths") = some (.ref ln)) : m = lawMap m x ln bk := by
  funext y
  unfold lawMap
  by_cases e1 : y = Str.ofString "book"
  · rw [if_pos e1, e1, h1]
  · rw [if_neg e1]
    by_cases e2 : y = Str.ofString "store"
    · rw [if_pos e2, e2, h2]
    · rw [if_neg e2]
      by_cases e3 : y = Str.ofString "lengths"
      · rw [if_pos e3, e3, h3]
      · rw [if_neg e3]

/-! ## The plain law: what the store holds beside the book -/
theorem cps_slash : (Str.ofString "/").cps.toList = [47] := by decide
theorem cps_a : (Str.ofString "a").cps.toList = [97] := by decide
theorem cps_b : (Str.ofString "b").cps.toList = [98] := by decide
theorem wkey_cps (k : Str) (m : Nat) : (wkey k ((m : Nat) : Int)).cps.toList = k.cps.toList ++ ([47] ++ (Nat.toDigits 10 m).map Char.toNat) := by
  unfold wkey
  rw [PySem.Str.cps_append, PySem.Str.cps_append, Array.toList_append, Array.toList_append, cps_slash, PySem.W.KIN.signs_num, List.append_assoc]
theorem digits_inj {m n : Nat} (h : (Nat.toDigits 10 m).map Char.toNat = (Nat.toDigits 10 n).map Char.toNat) : m = n := by
  rw [← PySem.W.KIN.val_back m, ← PySem.W.KIN.val_back n, h]
def OneKey (k : Str) : Prop := k = Str.ofString "a" ∨ k = Str.ofString "b"
theorem wkey_inj {k k' : Str} {q q' : Int} (hk : OneKey k) (hk' : OneKey k') (hq : 0 ≤ q) (hq' : 0 ≤ q') (h : wkey k q = wkey k' q') : k = k' ∧ q = q' := by
  obtain ⟨m, rfl⟩ := Int.eq_ofNat_of_zero_le hq
  obtain ⟨n, rfl⟩ := Int.eq_ofNat_of_zero_le hq'
  have e := congrArg (fun s : Str => s.cps.toList) h
  simp only [wkey_cps] at e
  rcases hk with rfl | rfl <;> rcases hk' with rfl | rfl
  · rw [cps_a] at e
    simp only [List.cons_append, List.nil_append, List.cons.injEq, true_and] at e
    exact ⟨rfl, by rw [digits_inj e]⟩
  · rw [cps_a, cps_b] at e
    simp at e
  · rw [cps_a, cps_b] at e
    simp at e
  · rw [cps_b] at e
    simp only [List.cons_append, List.nil_append, List.cons.injEq, true_and] at e
    exact ⟨rfl, by rw [digits_inj e]⟩
theorem bkey_inj {k k' : Str} {q q' : Int} : bkey k q = bkey k' q' ↔ k = k' ∧ q = q' := by simp [bkey]
/-- each key's length, and the keys -/
structure LenOk (len : Tab) : Prop where
  out : ∀ k e, len k = some e → 0 < e ∧ e ≤ 51 ∧ OneKey k
/-- the store tells what the book tells -/
def Inv (len : Tab) (c : Int) (S X : Tab) (f : Book) (B : Int) : Prop :=
  ∀ k e, len k = some e → ∀ q, c.fdiv e - 1 ≤ q →
    (S (wkey k q)).getD 0 = (f (bkey k q)).getD 0 ∧ 0 ≤ (f (bkey k q)).getD 0 ∧ (f (bkey k q)).getD 0 ≤ B ∧ (c.fdiv e < q → (f (bkey k q)).getD 0 = 0) ∧ (0 < (f (bkey k q)).getD 0 → (q + 2) * e ≤ (X (wkey k q)).getD 0)
section
variable {len : Tab} {c : Int} {S X : Tab} {f : Book} {B : Int}
theorem fdiv_pos {c e : Int} (he : 0 < e) (hec : e ≤ c) : 1 ≤ c.fdiv e := by
  rw [Int.fdiv_eq_ediv_of_nonneg _ (Int.le_of_lt he)]
  exact (Int.le_ediv_iff_mul_le he).mpr (by omega)
theorem fdiv_up {c e : Int} (he : 0 < e) : c < (c.fdiv e + 1) * e := by
  rw [Int.fdiv_eq_ediv_of_nonneg _ (Int.le_of_lt he)]
  exact Int.lt_ediv_add_one_mul_self c he
theorem fdiv_down {c e : Int} (he : 0 < e) : c.fdiv e * e ≤ c := by
  rw [Int.fdiv_eq_ediv_of_nonneg _ (Int.le_of_lt he)]
  exact Int.ediv_mul_le c (by omega)
theorem fdiv_mono {c c' e : Int} (he : 0 < e) (h : c ≤ c') : c.fdiv e ≤ c'.fdiv e := by
  rw [Int.fdiv_eq_ediv_of_nonneg _ (Int.le_of_lt he), Int.fdiv_eq_ediv_of_nonneg _ (Int.le_of_lt he)]
  exact Int.ediv_le_ediv he h
theorem Inv.alive (I : Inv len c S X f B) {k : Str} {e q : Int} (hk : len k = some e) (he : 0 < e) (hq : c.fdiv e - 1 ≤ q) (h : 0 < (f (bkey k q)).getD 0) : c < (X (wkey k q)).getD 0 := by
  have h1 := (I k e hk q hq).2.2.2.2 h
  have h2 := fdiv_up (c := c) he
  have h3 : (c.fdiv e + 1) * e ≤ (q + 2) * e := Int.mul_le_mul_of_nonneg_right (by omega) (Int.le_of_lt he)
  omega
theorem Inv.get (I : Inv len c S X f B) (hl : LenOk len) (y : Str) : Inv len c (gS S X c y) (gX X c y) f B := by
  intro k e hk q hq
  obtain ⟨he, _, _⟩ := hl.out k e hk
  obtain ⟨h1, h2, h3, h4, h5⟩ := I k e hk q hq
  have hal := I.alive hk he hq
  refine ⟨?_, h2, h3, h4, fun h => ?_⟩
  · unfold gS
    split
    · unfold eraseAt
      by_cases ey : wkey k q = y
      · rw [if_pos ey]
        rename_i hx
        rw [← ey] at hx
        have : ¬ 0 < (f (bkey k q)).getD 0 := fun h => by have := hal h; omega
        show (0 : Int) = _
        omega
      · rw [if_neg ey]; exact h1
    · exact h1
  · unfold gX
    split
    · unfold eraseAt
      by_cases ey : wkey k q = y
      · rename_i hx
        rw [← ey] at hx
        have := hal h
        omega
      · rw [if_neg ey]; exact h5 h
    · exact h5 h
theorem Inv.val (I : Inv len c S X f B) (hl : LenOk len) {k : Str} {e q : Int} (hk : len k = some e) (hq : c.fdiv e - 1 ≤ q) : (gS S X c (wkey k q) (wkey k q)).getD 0 = (f (bkey k q)).getD 0 := ((I.get hl _) k e hk q hq).1
theorem Inv.both (I : Inv len c S X f B) (hl : LenOk len) (pk ck : Str) : Inv len c (nS S X c pk ck) (nX X c pk ck) f B := (I.get hl pk).get hl ck
theorem Inv.nP (I : Inv len c S X f B) (hl : LenOk len) {k : Str} {e : Int} (hk : len k = some e) : nP S X c (wkey k (c.fdiv e - 1)) = (f (bkey k (c.fdiv e - 1))).getD 0 := I.val hl hk (Int.le_refl _)
theorem Inv.nC (I : Inv len c S X f B) (hl : LenOk len) {k : Str} {e : Int} (hk : len k = some e) (pk : Str) : nC S X c pk (wkey k (c.fdiv e)) = (f (bkey k (c.fdiv e))).getD 0 := (I.get hl pk).val hl hk (by omega)
theorem Inv.later (I : Inv len c S X f B) (hl : LenOk len) {c' : Int} (h : c ≤ c') : Inv len c' S X f B := by
  intro k e hk q hq
  obtain ⟨he, _, _⟩ := hl.out k e hk
  have := fdiv_mono he h
  obtain ⟨h1, h2, h3, h4, h5⟩ := I k e hk q (by omega)
  exact ⟨h1, h2, h3, fun h => h4 (by omega), h5⟩
theorem Inv.mono (I : Inv len c S X f B) {B' : Int} (h : B ≤ B') : Inv len c S X f B' := by
  intro k e hk q hq
  obtain ⟨h1, h2, h3, h4, h5⟩ := I k e hk q hq
  exact ⟨h1, h2, by omega, h4, h5⟩
/-- one window's value is set -/
theorem Inv.put (I : Inv len c S X f B) (hl : LenOk len) (hec : ∀ k e, len k = some e → e ≤ c) {k : Str} {e q v : Int} {X' : Tab} (hk : len k = some e) (hq : c.fdiv e - 1 ≤ q) (hq2 : q ≤ c.fdiv e) (hv : 0 ≤ v) (hvB : v ≤ B)
    (hX : ∀ y, y ≠ wkey k q → X' y = X y) (hX2 : 0 < v → (q + 2) * e ≤ (X' (wkey k q)).getD 0) : Inv len c (putAt S (wkey k q) v) X' (putAt f (bkey k q) v) B := by
  intro k' e' hk' q' hq'
  obtain ⟨he, _, ho⟩ := hl.out k e hk
  obtain ⟨he', _, ho'⟩ := hl.out k' e' hk'
  obtain ⟨h1, h2, h3, h4, h5⟩ := I k' e' hk' q' hq'
  have p1 := fdiv_pos he (hec k e hk)
  have p2 := fdiv_pos he' (hec k' e' hk')
  by_cases ey : k' = k ∧ q' = q
  · obtain ⟨rfl, rfl⟩ := ey
    obtain rfl : e = e' := Option.some.inj (hk.symm.trans hk')
    have e1 : putAt f (bkey k' q') v (bkey k' q') = some v := by unfold putAt; rw [if_pos rfl]
    have e2 : putAt S (wkey k' q') v (wkey k' q') = some v := by unfold putAt; rw [if_pos rfl]
    rw [e1, e2]
    exact ⟨rfl, hv, hvB, fun h => by omega, hX2⟩
  · have n1 : ¬ bkey k' q' = bkey k q := fun h => ey (bkey_inj.mp h)
    have n2 : wkey k' q' ≠ wkey k q := fun h => ey (wkey_inj ho' ho (by omega) (by omega) h)
    have e1 : putAt f (bkey k q) v (bkey k' q') = f (bkey k' q') := by unfold putAt; rw [if_neg n1]
    have e2 : putAt S (wkey k q) v (wkey k' q') = S (wkey k' q') := by unfold putAt; rw [if_neg n2]
    rw [e1, e2, hX _ n2]
    exact ⟨h1, h2, h3, h4, h5⟩
theorem Inv.incr (I : Inv len c S X f B) (hl : LenOk len) (hec : ∀ k e, len k = some e → e ≤ c) {k : Str} {e a : Int} (hk : len k = some e) (ha : 0 < a) (ha2 : a ≤ 4) :
    Inv len c (iS S X c (wkey k (c.fdiv e)) a) (iX S X c (wkey k (c.fdiv e)) (2 * e) a) (putAt f (bkey k (c.fdiv e)) ((f (bkey k (c.fdiv e))).getD 0 + a)) (B + 4) := by
  have hv := I.val hl hk (q := c.fdiv e) (by omega)
  have I' := I.get hl (wkey k (c.fdiv e))
  obtain ⟨he, _, _⟩ := hl.out k e hk
  obtain ⟨h1, h2, h3, h4, h5⟩ := I' k e hk (c.fdiv e) (by omega)
  unfold iS
  rw [hv]
  refine (I'.mono (B' := B + 4) (by omega)).put hl hec hk (by omega) (Int.le_refl _) (by omega) (by omega) ?_ ?_
  · intro y hy
    unfold iX
    split
    · unfold putAt; rw [if_neg hy]
    · rfl
  · intro _
    unfold iX
    split
    · have e1 : putAt (gX X c (wkey k (c.fdiv e))) (wkey k (c.fdiv e)) (c + 2 * e) (wkey k (c.fdiv e)) = some (c + 2 * e) := by unfold putAt; rw [if_pos rfl]
      rw [e1]
      have := fdiv_down (c := c) he
      show (c.fdiv e + 2) * e ≤ c + 2 * e
      rw [Int.add_mul]; omega
    · rename_i hne
      refine h5 ?_
      have e2 : (iS S X c (wkey k (c.fdiv e)) a (wkey k (c.fdiv e))).getD 0 = (f (bkey k (c.fdiv e))).getD 0 + a := by
        unfold iS putAt; rw [if_pos rfl, hv]; rfl
      rw [e2] at hne
      omega
theorem Inv.incr_val (I : Inv len c S X f B) (hl : LenOk len) {k : Str} {e a : Int} (hk : len k = some e) : (iS S X c (wkey k (c.fdiv e)) a (wkey k (c.fdiv e))).getD 0 = (f (bkey k (c.fdiv e))).getD 0 + a := by
  unfold iS putAt; rw [if_pos rfl, I.val hl hk (by omega)]; rfl
theorem Inv.decr (I : Inv len c S X f B) (hl : LenOk len) (hec : ∀ k e, len k = some e → e ≤ c) {k : Str} {e q a : Int} (hk : len k = some e) (hq : c.fdiv e - 1 ≤ q) (hq2 : q ≤ c.fdiv e) (ha : 0 < a) :
    Inv len c (dS S X c (wkey k q) a) (gX X c (wkey k q)) (putAt f (bkey k q) (if (f (bkey k q)).getD 0 - a > 0 then (f (bkey k q)).getD 0 - a else 0)) B := by
  have hv := I.val hl hk hq
  have I' := I.get hl (wkey k q)
  obtain ⟨h1, h2, h3, h4, h5⟩ := I' k e hk q hq
  unfold dS
  rw [hv]
  have ev : (if 0 > (f (bkey k q)).getD 0 - a then 0 else (f (bkey k q)).getD 0 - a) = (if (f (bkey k q)).getD 0 - a > 0 then (f (bkey k q)).getD 0 - a else 0) := by
    split <;> split <;> omega
  rw [ev]
  refine I'.put hl hec hk hq hq2 (by split <;> omega) (by split <;> omega) (fun _ _ => rfl) (fun h => h5 ?_)
  split at h <;> omega
theorem eraseAt_put {S' : Tab} {y : Str} : ∀ z, (eraseAt S' y z).getD 0 = (putAt S' y 0 z).getD 0 := by
  intro z; unfold eraseAt putAt; split <;> rfl
theorem Inv.congr (I : Inv len c S X f B) {S' : Tab} (h : ∀ y, (S' y).getD 0 = (S y).getD 0) : Inv len c S' X f B := by
  intro k e hk q hq
  rw [h]; exact I k e hk q hq
theorem Inv.clear (I : Inv len c S X f B) (hl : LenOk len) (hec : ∀ k e, len k = some e → e ≤ c) (hB : 0 ≤ B) {k : Str} {e : Int} (hk : len k = some e) :
    Inv len c (eraseAt (eraseAt S (wkey k (c.fdiv e - 1))) (wkey k (c.fdiv e))) (eraseAt (eraseAt X (wkey k (c.fdiv e - 1))) (wkey k (c.fdiv e))) (putAt (putAt f (bkey k (c.fdiv e)) 0) (bkey k (c.fdiv e - 1)) 0) B := by
  have e0 : putAt (putAt f (bkey k (c.fdiv e)) 0) (bkey k (c.fdiv e - 1)) 0 = putAt (putAt f (bkey k (c.fdiv e - 1)) 0) (bkey k (c.fdiv e)) 0 := by
    funext z; unfold putAt; split <;> split <;> rfl
  rw [e0]
  have J1 := (I.put hl hec (X' := eraseAt X (wkey k (c.fdiv e - 1))) hk (Int.le_refl _) (by omega) (Int.le_refl 0) hB (fun y hy => by unfold eraseAt; rw [if_neg hy]) (fun h => absurd h (by omega))).congr (S' := eraseAt S (wkey k (c.fdiv e - 1))) eraseAt_put
  exact (J1.put hl hec (X' := eraseAt (eraseAt X (wkey k (c.fdiv e - 1))) (wkey k (c.fdiv e))) hk (q := c.fdiv e) (by omega) (Int.le_refl _) (Int.le_refl 0) hB (fun y hy => by unfold eraseAt; rw [if_neg hy]) (fun h => absurd h (by omega))).congr (S' := eraseAt (eraseAt S (wkey k (c.fdiv e - 1))) (wkey k (c.fdiv e))) eraseAt_put
theorem Inv.expire (I : Inv len c S X f B) (hl : LenOk len) : Inv len c (eT S X c) (eT X X c) f B := by
  intro k e hk q hq
  obtain ⟨he, _, _⟩ := hl.out k e hk
  obtain ⟨h1, h2, h3, h4, h5⟩ := I k e hk q hq
  have hal := I.alive hk he hq
  refine ⟨?_, h2, h3, h4, fun h => ?_⟩
  · unfold eT
    split
    · rename_i hx
      have : ¬ 0 < (f (bkey k q)).getD 0 := fun h => by have := hal h; omega
      show (0 : Int) = _
      omega
    · exact h1
  · unfold eT
    split
    · rename_i hx
      have := hal h
      omega
    · exact h5 h
theorem fmod_sub {c e : Int} (he : 0 < e) : (c - e).fmod e = c.fmod e := by
  rw [Int.fmod_eq_emod_of_nonneg _ (Int.le_of_lt he), Int.fmod_eq_emod_of_nonneg _ (Int.le_of_lt he), Int.sub_emod_right]
theorem Inv.wtIs (I : Inv len c S X f B) (hl : LenOk len) {k : Str} {e : Int} (hk : len k = some e) :
    wt S X c (wkey k (c.fdiv e - 1)) (wkey k (c.fdiv e)) e = ((f (bkey k (c.fdiv e - 1))).getD 0 * (e - c.fmod e)).fdiv e + (f (bkey k (c.fdiv e))).getD 0 := by
  obtain ⟨he, _, _⟩ := hl.out k e hk
  unfold Mine.wt
  rw [I.nP hl hk, I.nC hl hk, fmod_sub he]
  split
  · rename_i h0
    rw [h0, Int.zero_mul, Int.zero_mul]
  · rfl
end

/-! ## The law's frame: its rules -/
section
variable {prog : Program} {w : World} {A : Around} {E : Value → Shared → Prop} {s : Shared} {h₀ : Heap} {L l : Addr} {m : Str → Option Value} {news : List (Addr × Obj)}
theorem fdiv_nonneg {c e : Int} (hc : 0 ≤ c) (he : 0 < e) : 0 ≤ c.fdiv e := Int.fdiv_nonneg hc (Int.le_of_lt he)
theorem fdiv_le {c e : Int} (hc : 0 ≤ c) (he : 0 < e) : c.fdiv e ≤ c := by
  rw [Int.fdiv_eq_ediv_of_nonneg _ (Int.le_of_lt he)]
  exact Int.ediv_le_self _ hc
theorem ownCons {own : List (Addr × Obj)} {st ex ev q : Nat} {o : Obj} (h : OwnOff own [st, ex, ev]) (h1 : st < q) (h2 : ex < q) (h3 : ev < q) : OwnOff ((q, o) :: own) [st, ex, ev] := by
  intro p hp b hb
  rcases List.mem_cons.mp hp with rfl | hp
  · simp only [List.mem_cons, List.not_mem_nil, or_false] at hb
    rcases hb with rfl | rfl | rfl
    · exact Nat.ne_of_gt h1
    · exact Nat.ne_of_gt h2
    · exact Nat.ne_of_gt h3
  · exact h p hp b hb
theorem ownLow {own : List (Addr × Obj)} {st ex ev q : Nat} {o : Obj} (h : OwnOff own [st, ex, ev]) (h1 : q < st) (h2 : q < ex) (h3 : q < ev) : OwnOff ((q, o) :: own) [st, ex, ev] := by
  intro p hp b hb
  rcases List.mem_cons.mp hp with rfl | hp
  · simp only [List.mem_cons, List.not_mem_nil, or_false] at hb
    rcases hb with rfl | rfl | rfl
    · exact Nat.ne_of_lt h1
    · exact Nat.ne_of_lt h2
    · exact Nat.ne_of_lt h3
  · exact h p hp b hb
theorem newsCore {P : Params} {x dx f cl c' l st std ex ev : Addr} {t1 t2 t3 t4 : Tok} {qual : Str} {pm ctv : Value} {oc oe so eo evo : Obj} {n n4 : Nat} {c : Int} {t : Tok} {own : List (Addr × Obj)} {h : Heap} {q : Addr × Obj}
    (N : News h₀ L h (q :: core P x dx f cl c' l st std ex ev t1 t2 t3 t4 qual pm ctv oc oe n n4 c t so eo evo own)) : News h₀ L h (core P x dx f cl c' l st std ex ev t1 t2 t3 t4 qual pm ctv oc oe n n4 c t so eo evo (q :: own)) :=
  newsIn (pre := [_, _, _, _, _, _, _, _, _, _]) N
theorem newsUncore {P : Params} {x dx f cl c' l st std ex ev : Addr} {t1 t2 t3 t4 : Tok} {qual : Str} {pm ctv : Value} {oc oe so eo evo : Obj} {n n4 : Nat} {c : Int} {t : Tok} {own own' : List (Addr × Obj)} {h : Heap}
    (hs : ∀ p ∈ own', p ∈ own) (N : News h₀ L h (core P x dx f cl c' l st std ex ev t1 t2 t3 t4 qual pm ctv oc oe n n4 c t so eo evo own)) : News h₀ L h (core P x dx f cl c' l st std ex ev t1 t2 t3 t4 qual pm ctv oc oe n n4 c t so eo evo own') := fun p hp => by
  refine N p ?_
  have hp : p ∈ ([(st, so), (ex, eo), (ev, evo), (x, instObj 440 dx), (dx, dictOf (storeEs P f st ex ev t1 t2 t3 t4) n4), (f, lamObj qual cl pm c' ctv), (c', oc), (cl, oe), (l, W.listOf #[.int c t] n), (std, dictOf [] 0)] ++ own') := hp
  rcases List.mem_append.mp hp with h1 | h1
  · exact List.mem_append_left own h1
  · exact List.mem_append_right [(st, so), (ex, eo), (ev, evo), (x, instObj 440 dx), (dx, dictOf (storeEs P f st ex ev t1 t2 t3 t4) n4), (f, lamObj qual cl pm c' ctv), (c', oc), (cl, oe), (l, W.listOf #[.int c t] n), (std, dictOf [] 0)] (hs p h1)
theorem ln_item {value slice : PySem.Expr} {n : Nat} {c : Int} {t u : Tok} {Q : Value → Shared → Prop} (N : News h₀ L s.heap news) (hm : (l, W.listOf #[.int c t] n) ∈ news) (h : Q (.int c t) s)
    (hs : subscripted slice false (.ref l) (.int 0 u) = operate [.ref l, .int 0 u] (getItem (.ref l) (.int 0 u)) := by with_unfolding_all rfl) :
    wpAny (model prog w) A (subscriptTail value slice (.ref l) (.int 0 u)) Q E s :=
  item_litK (vs := [.int c t]) ⟨_, (N _ hm).1, rfl, n, rfl⟩ (by decide) (by decide) rfl h hs
end
local macro_rules | `(tactic| walk_at "subscriptTail") => `(tactic| (k_here; (with_reducible show wpAny _ _ (subscriptTail _ _ (Value.ref _) (Value.int 0 _)) _ _ _); k_dflt (refine' ln_item ?pN ?pm ?_; (case pN => k_asm); (case pm => k_mem); k_whole)))
local macro_rules | `(tactic| walk_at "getMethod ref") => `(tactic| (k_here; (with_reducible show wpAny _ _ (getMethod (Value.ref _) (Str.ofString "get") _) _ _ _); k_dflt (refine' bk_method ?mN ?mh ?mb ?_; (case mN => k_asm); (case mb => assumption); (case mh => k_mem); k_whole)))
local macro_rules | `(tactic| walk_at "call builtin:dict.get") => `(tactic| (k_here; (with_reducible show wpAny _ _ (call (Value.builtin _) [Value.ref _, Value.ref _, Value.int _ _]) _ _ _); k_dflt (refine' bk_get ?pu ?pN ?ph ?pl ?pB ?pt ?pq ?_; (case pN => k_asm); (case pB => assumption); (case ph => k_mem); (case pl => k_asm); (case pq => k_mem); (case pu => exact (show callerA.units + 3 + 1 < cLine by decide)); (case pt => (intro tq thq; (rename (∀ q ∈ _, q ∈ _) => htups); (have thq2 := htups tq thq); repeat (first | exact thq2 | refine List.Mem.tail _ ?_))); k_whole); intro t' tk'))
local macro_rules | `(tactic| walk_at "call type:str") => `(tactic| (k_here; (with_reducible show wpAny _ _ (call (Value.type "str") [Value.int _ _]) _ _ _); k_dflt (refine' str_of_int (log2_of ?pl) ?_; (case pl => omega))))
local macro_rules | `(tactic| walk_at "newTuple") => `(tactic| (k_here; k_dflt (refine' kup_newTuple ?F ?N ?_ ?z; (case F => k_asm); (case N => k_asm); (case z => kmk_size)); intro D' h' F' N' l1; (try k_lt l1); (try k_sweep); (try (replace N' := newsCore N'))))
local macro_rules | `(tactic| walk_at "compareOp NotEq") => `(tactic| (k_here; (with_reducible show wpAny _ _ (compareOp CmpOp.NotEq (Value.ref _) (Value.ref _)) _ _ _); k_dflt (first
  | (refine' ne_two ?pN ?pu ?p1 ?p2 ?pa ?pb ?_; (case pN => k_asm); (case p1 => k_mem); (case p2 => k_mem); (case pu => exact (show callerA.units + 3 < cLine by decide)); (case pa => rfl); (case pb => rfl); k_whole)
  | (refine' ne_four ?pN ?pu ?p1 ?p2 ?pa ?pb ?pc ?pd ?_; (case pN => k_asm); (case p1 => k_mem); (case p2 => k_mem); (case pu => exact (show callerA.units + 3 < cLine by decide)); (case pa => first | assumption | (simp only [*]; done) | omega | (simp only [*]; omega) | fail "law: another value"); (case pb => first | assumption | (simp only [*]; done) | omega | (simp only [*]; omega) | fail "law: another value"); (case pc => first | assumption | (simp only [*]; done) | omega | (simp only [*]; omega) | fail "law: another value"); (case pd => first | assumption | (simp only [*]; done) | omega | (simp only [*]; omega) | fail "law: another value"); k_whole))))
local macro_rules | `(tactic| walk_at "call ref") => `(tactic| (k_here; (with_reducible show wpAny _ _ (call (Value.ref 365) _) _ _ _); k_dflt (refine' get_call ?qb ?qB ?qF ?qX ?qT ?qA ?qf ?qk ?qr ?qN ?qo ?qZ ?qs ?qe ?_; (case qB => k_asm); (case qF => k_asm); (case qX => k_asm); (case qT => k_asm); (case qA => exact Around.frames_deeper (Below.stack (by assumption))); (case qf => exact rfl); (case qk => exact rfl); (case qr => k_room); (case qN => first | k_asm | exact newsDrop (by k_asm) | exact newsDrop (newsDrop (by k_asm)) | exact newsDrop (newsDrop (newsDrop (by k_asm)))); (case qo => (repeat (first | k_asm | (refine ownCons ?_ (by omega) (by omega) (by omega)) | (refine ownLow ?_ (by omega) (by omega) (by omega))))); (case qZ => k_asm); (case qs => k_asm); (case qe => k_asm); (case qb => omega); k_whole; intro h' tk' t' so' eo' F' N' hs' he'; (try k_sweep))))
local macro_rules | `(tactic| walk_at "call ref") => `(tactic| (k_here; (with_reducible show wpAny _ _ (call (Value.ref 350) _) _ _ _); k_dflt (refine' incr_call ?qb ?qB ?qF ?qX ?qT ?qA ?qf ?qk ?qr ?qN ?qo ?qZ ?qs ?qe ?_; (case qB => k_asm); (case qF => k_asm); (case qX => k_asm); (case qT => k_asm); (case qA => exact Around.frames_deeper (Below.stack (by assumption))); (case qf => exact rfl); (case qk => exact rfl); (case qr => k_room); (case qN => first | k_asm | exact newsDrop (by k_asm) | exact newsDrop (newsDrop (by k_asm)) | exact newsDrop (newsDrop (newsDrop (by k_asm)))); (case qo => (repeat (first | k_asm | (refine ownCons ?_ (by omega) (by omega) (by omega)) | (refine ownLow ?_ (by omega) (by omega) (by omega))))); (case qZ => k_asm); (case qs => k_asm); (case qe => k_asm); (case qb => omega); k_whole; intro h' tk' t' so' eo' F' N' hs' he'; (try k_sweep))))
local macro_rules | `(tactic| walk_at "call ref") => `(tactic| (k_here; (with_reducible show wpAny _ _ (call (Value.ref 358) _) _ _ _); k_dflt (refine' decr_call ?qb ?qB ?qF ?qX ?qT ?qA ?qf ?qk ?qh ?qr ?qN ?qo ?qZ ?qs ?qe ?_; (case qB => k_asm); (case qF => k_asm); (case qX => k_asm); (case qT => k_asm); (case qA => exact Around.frames_deeper (Below.stack (by assumption))); (case qf => exact rfl); (case qk => exact rfl); (case qr => k_room); (case qN => first | k_asm | exact newsDrop (by k_asm) | exact newsDrop (newsDrop (by k_asm)) | exact newsDrop (newsDrop (newsDrop (by k_asm)))); (case qo => (repeat (first | k_asm | (refine ownCons ?_ (by omega) (by omega) (by omega)) | (refine ownLow ?_ (by omega) (by omega) (by omega))))); (case qZ => k_asm); (case qs => k_asm); (case qe => k_asm); (case qh => first | rfl | assumption); (case qb => omega); k_whole; intro h' tk' t' so' eo' F' N' hs' he'; (try k_sweep))))
local macro_rules | `(tactic| walk_at "call ref") => `(tactic| (k_here; (with_reducible show wpAny _ _ (call (Value.ref 372) _) _ _ _); k_dflt (refine' clear_call ?qb ?qb2 ?qB ?qF ?qX ?qT ?qA ?qf ?qk ?qh ?qr ?qN ?qo ?qZ ?qs ?qe ?qv ?_; (case qB => k_asm); (case qF => k_asm); (case qX => k_asm); (case qT => k_asm); (case qA => exact Around.frames_deeper (Below.stack (by assumption))); (case qf => exact rfl); (case qk => exact rfl); (case qr => k_room); (case qN => first | k_asm | exact newsDrop (by k_asm) | exact newsDrop (newsDrop (by k_asm)) | exact newsDrop (newsDrop (newsDrop (by k_asm)))); (case qo => (repeat (first | k_asm | (refine ownCons ?_ (by omega) (by omega) (by omega)) | (refine ownLow ?_ (by omega) (by omega) (by omega))))); (case qZ => k_asm); (case qs => k_asm); (case qe => k_asm); (case qh => first | rfl | assumption); (case qv => k_asm); (case qb => omega); (case qb2 => omega); k_whole; intro h' tk' so' eo' evo' F' N' hs' he' hv'; (try k_sweep))))
local macro_rules | `(tactic| walk_at "call ref") => `(tactic| (k_here; (with_reducible show wpAny _ _ (call (Value.ref 387) _) _ _ _); k_dflt (refine' expiry_call ?qB ?qF ?qX ?qT ?qA ?qf ?qk ?qh ?qr ?qN ?qZ ?qe ?_; (case qB => k_asm); (case qF => k_asm); (case qX => k_asm); (case qT => k_asm); (case qA => exact Around.frames_deeper (Below.stack (by assumption))); (case qf => exact rfl); (case qk => exact rfl); (case qr => k_room); (case qN => first | k_asm | exact newsDrop (by k_asm) | exact newsDrop (newsDrop (by k_asm)) | exact newsDrop (newsDrop (newsDrop (by k_asm)))); (case qZ => k_asm); (case qe => k_asm); (case qh => first | rfl | assumption); k_whole; intro h' tk' t' F' N'; (try k_sweep))))
local macro_rules | `(tactic| walk_at "call ref") => `(tactic| (k_here; (with_reducible show wpAny _ _ (call (Value.ref _) [Value.str _ _, Value.int _ _, Value.int _ _]) _ _ _); k_dflt (refine' keys_call ?qm ?q1 ?q2 ?q3 ?q4 ?q5 ?qB ?qF ?qX ?qT ?qA ?qf ?qk ?qh ?qr ?qN ?_; (case qN => k_asm); (case qm => k_mem); (case qB => k_asm); (case qF => k_asm); (case qX => k_asm); (case qT => k_asm); (case qA => exact Around.frames_deeper (Below.stack (by assumption))); (case qf => exact rfl); (case qk => exact rfl); (case qr => k_room); (case qh => first | rfl | assumption); (case q1 => omega); (case q2 => omega); (case q3 => omega); (case q4 => omega); (case q5 => first | assumption | omega | decide); k_whole; intro h' tk' q' u1' u2' F' N' l1'; (try k_lt l1'); (try k_sweep))))
local macro_rules | `(tactic| walk_at "call ref") => `(tactic| (k_here; (with_reducible show wpAny _ _ (call (Value.ref 416) _) _ _ _); k_dflt (refine' getsw_call ?qb ?e1 ?e2 ?e3 ?e4 ?e5 ?qB ?qF ?qX ?qT ?qA ?qf ?qk ?qh ?qr ?qN ?qo ?qZ ?qs ?qe ?_; (case qB => k_asm); (case qF => k_asm); (case qX => k_asm); (case qT => k_asm); (case qA => exact Around.frames_deeper (Below.stack (by assumption))); (case qf => exact rfl); (case qk => exact rfl); (case qr => k_room); (case qN => first | k_asm | exact newsDrop (by k_asm) | exact newsDrop (newsDrop (by k_asm)) | exact newsDrop (newsDrop (newsDrop (by k_asm)))); (case qo => (repeat (first | k_asm | (refine ownCons ?_ (by omega) (by omega) (by omega)) | (refine ownLow ?_ (by omega) (by omega) (by omega))))); (case qZ => k_asm); (case qs => k_asm); (case qe => k_asm); (case qh => first | rfl | assumption); (case qb => omega); (case e1 => omega); (case e2 => omega); (case e3 => omega); (case e4 => omega); (case e5 => first | assumption | omega | decide); k_whole; intro h' tk' q' so' eo' u1' u2' u3' u4' F' N' l1' hs' he'; (try k_lt l1'); (try k_sweep))))
local macro_rules | `(tactic| walk_at "call ref") => `(tactic| (k_here; (with_reducible show wpAny _ _ (call (Value.ref 423) _) _ _ _); k_dflt (refine' clearsw_call ?qb ?qb2 ?qv ?e1 ?e2 ?e3 ?e4 ?e5 ?qB ?qF ?qX ?qT ?qA ?qf ?qk ?qh ?qr ?qN ?qo ?qZ ?qs ?qe ?_; (case qB => k_asm); (case qF => k_asm); (case qX => k_asm); (case qT => k_asm); (case qA => exact Around.frames_deeper (Below.stack (by assumption))); (case qf => exact rfl); (case qk => exact rfl); (case qr => k_room); (case qN => first | k_asm | exact newsDrop (by k_asm) | exact newsDrop (newsDrop (by k_asm)) | exact newsDrop (newsDrop (newsDrop (by k_asm)))); (case qo => (repeat (first | k_asm | (refine ownCons ?_ (by omega) (by omega) (by omega)) | (refine ownLow ?_ (by omega) (by omega) (by omega))))); (case qZ => k_asm); (case qs => k_asm); (case qe => k_asm); (case qh => first | rfl | assumption); (case qv => k_asm); (case qb => omega); (case qb2 => omega); (case e1 => omega); (case e2 => omega); (case e3 => omega); (case e4 => omega); (case e5 => first | assumption | omega | decide); k_whole; intro h' tk' so' eo' evo' F' N' hs' he' hv'; (try k_sweep))))
local macro_rules | `(tactic| walk_at "call ref") => `(tactic| (k_here; (with_reducible show wpAny _ _ (call (Value.ref 402) _) _ _ _); k_dflt (refine' acq_call ?qb ?qa ?e1 ?e2 ?e3 ?e4 ?e5 ?qB ?qF ?qX ?qT ?qA ?qf ?qk ?qh ?qr ?qN ?qo ?qZ ?qs ?qe ?_; (case qB => k_asm); (case qF => k_asm); (case qX => k_asm); (case qT => k_asm); (case qA => exact Around.frames_deeper (Below.stack (by assumption))); (case qf => exact rfl); (case qk => exact rfl); (case qr => k_room); (case qN => first | k_asm | exact newsDrop (by k_asm) | exact newsDrop (newsDrop (by k_asm)) | exact newsDrop (newsDrop (newsDrop (by k_asm)))); (case qo => (repeat (first | k_asm | (refine ownCons ?_ (by omega) (by omega) (by omega)) | (refine ownLow ?_ (by omega) (by omega) (by omega))))); (case qZ => k_asm); (case qs => k_asm); (case qe => k_asm); (case qh => first | rfl | assumption); (case qb => omega); (case qa => omega); (case e1 => omega); (case e2 => omega); (case e3 => omega); (case e4 => omega); (case e5 => first | assumption | omega | decide); k_whole; intro h' tk' so' eo' F' N' hs' he'; (try k_sweep))))
local macro_rules | `(tactic| walk_at "call ref") => `(tactic| (k_here; (with_reducible show wpAny _ _ (call (Value.ref 342) _) _ _ _); k_dflt (refine' expire_call ?qb ?qb2 ?qB ?qF ?qX ?qT ?qA ?qf ?qk ?qh ?qr ?qN ?qo ?qZ ?qs ?qe ?qv ?_; (case qB => k_asm); (case qF => k_asm); (case qX => k_asm); (case qT => k_asm); (case qA => exact Around.frames_deeper (Below.stack (by assumption))); (case qf => exact rfl); (case qk => exact rfl); (case qr => k_room); (case qN => first | k_asm | exact newsDrop (by k_asm) | exact newsDrop (newsDrop (by k_asm)) | exact newsDrop (newsDrop (newsDrop (by k_asm)))); (case qo => (repeat (first | k_asm | (refine ownCons ?_ (by omega) (by omega) (by omega)) | (refine ownLow ?_ (by omega) (by omega) (by omega))))); (case qZ => k_asm); (case qs => k_asm); (case qe => k_asm); (case qh => first | rfl | assumption); (case qv => k_asm); (case qb => omega); (case qb2 => omega); k_whole; intro h' tk' so' eo' F' N' hs' he'; (try k_sweep))))
local macro_rules | `(tactic| walk_at "call ref") => `(tactic| (k_here; (with_reducible show wpAny _ _ (call (Value.ref 447) _) _ _ _); k_dflt (refine' whole_call ?e1 ?e2 ?e3 ?e4 ?e5 ?e6 ?qB ?qF ?qX ?qT ?qA ?qf ?qk ?qh ?qr ?qN ?_; (case qB => k_asm); (case qF => k_asm); (case qX => k_asm); (case qT => k_asm); (case qA => exact Around.frames_deeper (Below.stack (by assumption))); (case qf => exact rfl); (case qk => exact rfl); (case qr => k_room); (case qh => first | rfl | assumption); (case qN => k_asm); (case e1 => omega); (case e2 => omega); (case e3 => omega); (case e4 => omega); (case e5 => omega); (case e6 => omega); k_whole; intro h' tk' t' F' N'; (try k_sweep))))

/-! ## A look at one key behind a deed -/
section
variable {M : Model} {A : Around} {E : Value → Shared → Prop} {s : Shared} {h₀ : Heap} {L : Addr} {m : Str → Option Value} {news : List (Addr × Obj)}
def JoinEnd (z : Int) (h₀ : Heap) (L : Addr) (m : Str → Option Value) (news : List (Addr × Obj)) (s : Shared) (v : Value) (s' : Shared) : Prop := ∃ t h' tk, v = .int z t ∧ Fr h₀ L h' m ∧ News h₀ L h' news ∧ s' = { s with heap := h', toks := tk }
/-- two ways of a conditional expression meet in one int -/
theorem join_int {z : Int} {T : Sem Value} {Q : Value → Shared → Prop} (_F : Fr h₀ L s.heap m) (_N : News h₀ L s.heap news)
    (h1 : wpAny M A T (JoinEnd z h₀ L m news s) E s)
    (h2 : ∀ t h' tk, Fr h₀ L h' m → News h₀ L h' news → Q (.int z t) { s with heap := h', toks := tk }) : wpAny M A T Q E s :=
  wpAny_mono h1 (fun v s' z => by obtain ⟨t, h', tk, rfl, F', N', rfl⟩ := z; exact h2 t h' tk F' N') fun _ _ e => e
end
theorem getD_up {o : Option Int} {v c : Int} (h : v ≤ o.getD 0) (hv : 0 < v) : v ≤ o.getD c := by
  cases o with
  | none => exact absurd h (by show ¬ v ≤ 0; omega)
  | some i => exact h
local macro_rules | `(tactic| walk_at "eval IfExp") => `(tactic| refine stop_here ?_)
section
variable {w : World} {E : Value → Shared → Prop} {s : Shared} {h₀ base : Heap} {L fa : Addr} {u mg mb : Str → Option Value} {outer : List Env}
  {pp : Program} {loose : List Str} {mean : ExcName → Option Value} {Q : Flow → Shared → Prop} {own tups : List (Addr × Obj)}
  {x dx f c' l st std ex ev bk ln : Addr} {t1 t2 t3 t4 : Tok} {qual : Str} {pm ctv : Value} {oc oe so eo evo bo lo : Obj} {vs : Array Value} {qt : Tok} {c BB : Int} {t : Tok} {n n4 : Nat} {S X₁ lenF : Tab} {fB : Book} {b bB : Nat}
set_option maxHeartbeats 8000000 in
theorem inner_turn {ky : Str} {kt : Tok} {e : Int} (hb : b ≤ 800) (he : lenF ky = some e) (hl : LenOk lenF) (hec' : ∀ k e, lenF k = some e → e ≤ c) (hbig : c < 10 ^ 39) (hkl : ky.length ≤ 100)
    (I : Inv lenF c S X₁ fB BB)
    (B : Below callerA base outer h₀) (F : Fr h₀ L s.heap (fun y => if y = Str.ofString "key" then some (.str ky kt) else lawMap u x ln bk y)) (X : (hd.heap_39 w.params).In h₀) (T : Top pp loose mean mg mb h₀)
    (N : News h₀ L s.heap (core w.params x dx f (L + 1) c' l st std ex ev t1 t2 t3 t4 qual pm ctv oc oe n n4 c t so eo evo ((bk, bo) :: (ln, lo) :: own)))
    (hoff : OwnOff ((bk, bo) :: (ln, lo) :: own) [st, ex, ev]) (Z : SOk w x dx f (L + 1) c' l st std ex ev qual oc oe vs qt)
    (hso : CtrM (PySem.strKind lawProg w) 317 std so S b) (heo : DctM (PySem.strKind lawProg w) eo X₁ b)
    (hlo : DctM (PySem.strKind lawProg w) lo lenF 2) (hbo : BookM lawProg w bo tups fB bB) (htu : ∀ q ∈ tups, q ∈ own) (lob : (bk == sysModules) = false)
    (k : ∀ u' S' X' so' eo' h' tk, Fr h₀ L h' (lawMap u' x ln bk) → News h₀ L h' (core w.params x dx f (L + 1) c' l st std ex ev t1 t2 t3 t4 qual pm ctv oc oe n n4 c t so' eo' evo ((bk, bo) :: (ln, lo) :: own)) →
      CtrM (PySem.strKind lawProg w) 317 std so' S' b → DctM (PySem.strKind lawProg w) eo' X' b → Inv lenF c S' X' fB BB → Q .next { s with heap := h', toks := tk }) :
    wpAny (model lawProg w) (callerA.deeper (lawEnv lawScope L fa)) (execs innerBody (lawEnv lawScope L fa)) Q E s := by
  have Z' := Z
  obtain ⟨hcc, lo1, lo2, lo3, ord, h2d, h2q, h3d⟩ := Z
  obtain ⟨he0, he2, _⟩ := hl.out _ _ he
  have hec := hec' _ _ he
  conv in (occs := *) lawScope => all_goals whnf
  conv in innerBody => whnf
  unfold lawMap at F
  have hp0 : 0 ≤ c.fdiv e := fdiv_nonneg (by omega) (by omega)
  have hp1 : c.fdiv e ≤ c := fdiv_le (by omega) (by omega)
  have hP := I.nP hl he
  have hC := fun pk => I.nC hl he pk
  have hM := fmod_sub (c := c) he0
  have hA0 := (I _ _ he (c.fdiv e - 1) (Int.le_refl _)).2.1
  have hH0 := (I _ _ he (c.fdiv e) (by omega)).2.1
  have I1 := I.both hl (wkey ky (c.fdiv e - 1)) (wkey ky (c.fdiv e))
  have I2 := I1.get hl (wkey ky (c.fdiv e - 1))
  have I3 := I2.get hl (wkey ky (c.fdiv e))
  have hg0 := I1.val hl he (q := c.fdiv e - 1) (Int.le_refl _)
  have hg1 := I2.val hl he (q := c.fdiv e) (by omega)
  have hx := (I3 _ _ he (c.fdiv e) (by omega)).2.2.2.2
  have htup : (nP S X₁ c (wkey ky (c.fdiv e - 1)) == (fB (bkey ky (c.fdiv e - 1))).getD 0 && ((if nP S X₁ c (wkey ky (c.fdiv e - 1)) = 0 then 0 else e - (c - e).fmod e) == (if (fB (bkey ky (c.fdiv e - 1))).getD 0 = 0 then 0 else e - c.fmod e) && (nC S X₁ c (wkey ky (c.fdiv e - 1)) (wkey ky (c.fdiv e)) == (fB (bkey ky (c.fdiv e))).getD 0 && e - c.fmod e + e == 2 * e - c.fmod e))) = true := by
    rw [hP, hC, hM]
    simp only [beq_self_eq_true, Bool.true_and, beq_iff_eq]
    omega
  w_top off
  w_strict (
    (try k_fold)
    k_steps
    unfold Stop
    rename Fr h₀ L _ _ => F9
    rename News h₀ L _ _ => N9
    refine join_int (z := if (fB (bkey ky (c.fdiv e - 1))).getD 0 = 0 then 0 else e - c.fmod e) F9 N9 (IfExp_ ?_) ?_
    · k_steps
      · exact ⟨_, _, _, by rw [if_neg (by assumption)], by assumption, by assumption, rfl⟩
      · exact ⟨_, _, _, by rw [if_pos (by assumption)], by assumption, by assumption, rfl⟩
    · intro tz hz tkz Fz Nz
      k_steps
      all_goals first
        | (exfalso; exact absurd hg0 (by assumption))
        | (exfalso; exact absurd hg1 (by assumption))
        | (exfalso; rename (_ && _) = false => hq; rw [htup] at hq; exact Bool.noConfusion hq)
        | (exfalso; rename (_ && _) ≠ true => hq; exact hq htup)
        | (exfalso; rename _ ≠ (0 : Int) => hq; rename _ < _ => hq2; exact absurd (getD_up (hx (by omega)) (Int.mul_pos (by omega) he0)) (Int.not_le.mpr hq2))
        | skip
      all_goals (rename Fr h₀ L _ _ => kF; rename News h₀ L _ _ => kN)

      all_goals exact k _ _ _ _ _ _ _ (Eq.mp (congrArg (Fr h₀ L _) (lawMap_self rfl rfl rfl)) kF) (newsUncore (fun p hp => by repeat (first | exact hp | refine List.Mem.tail _ ?_)) kN) (by assumption) (by assumption) I3)
end

/-! ## The look at both keys -/
def innerForStmt : Stmt := match innerFor with
  | s :: _ => s
  | [] => .Pass { line := 0, col := 0, endLine := 0, endCol := 0 }
section
variable {w : World} {E : Value → Shared → Prop} {s : Shared} {h₀ base : Heap} {L fa : Addr} {u mg mb : Str → Option Value} {outer : List Env}
  {pp : Program} {loose : List Str} {mean : ExcName → Option Value} {Q : Flow → Shared → Prop} {own tups : List (Addr × Obj)}
  {x dx f c' l st std ex ev bk ln : Addr} {t1 t2 t3 t4 : Tok} {qual : Str} {pm ctv : Value} {oc oe so eo evo bo lo : Obj} {vs : Array Value} {qt : Tok} {c BB : Int} {t : Tok} {n n4 : Nat} {S X₁ lenF : Tab} {fB : Book} {b bB be : Nat}
theorem core_own {P : Params} {cl : Addr} {p : Addr × Obj} (h : p ∈ own) : p ∈ core P x dx f cl c' l st std ex ev t1 t2 t3 t4 qual pm ctv oc oe n n4 c t so eo evo own :=
  List.mem_append_right [(st, so), (ex, eo), (ev, evo), (x, instObj 440 dx), (dx, dictOf (storeEs P f st ex ev t1 t2 t3 t4) n4), (f, lamObj qual cl pm c' ctv), (c', oc), (cl, oe), (l, W.listOf #[.int c t] n), (std, dictOf [] 0)] h
theorem perm_one {a b q : Addr × Obj} {own own' : List (Addr × Obj)} : ∀ p ∈ a :: b :: q :: (own ++ own'), p ∈ q :: (a :: b :: own ++ own') := by
  intro p hp
  simp only [List.cons_append, List.mem_cons, List.mem_append] at hp ⊢
  rcases hp with h | h | h | h | h <;> simp [h]
theorem perm_off {st ex ev q : Nat} {o : Obj} {a b : Addr × Obj} {own own' : List (Addr × Obj)} {R : Prop} {adr : List Addr} (h : OwnOff (a :: b :: own) [st, ex, ev]) (l : st < q ∧ ex < q ∧ ev < q ∧ R) (h' : OwnOff own' (q :: st :: ex :: ev :: adr)) : OwnOff (a :: b :: (q, o) :: (own ++ own')) [st, ex, ev] := by
  intro p hp y hy
  simp only [List.mem_cons, List.mem_append] at hp
  have hy' : y = st ∨ y = ex ∨ y = ev := by simpa using hy
  rcases hp with rfl | rfl | rfl | hp | hp
  · exact h _ (.head _) y hy
  · exact h _ (.tail _ (.head _)) y hy
  · rcases hy' with rfl | rfl | rfl
    · exact Nat.ne_of_gt l.1
    · exact Nat.ne_of_gt l.2.1
    · exact Nat.ne_of_gt l.2.2.1
  · exact h _ (.tail _ (.tail _ hp)) y hy
  · exact h' p hp y (by rcases hy' with rfl | rfl | rfl <;> simp)
theorem core_mono {P : Params} {cl : Addr} {own' : List (Addr × Obj)} (hs : ∀ p ∈ own, p ∈ own') : ∀ p ∈ core P x dx f cl c' l st std ex ev t1 t2 t3 t4 qual pm ctv oc oe n n4 c t so eo evo own, p ∈ core P x dx f cl c' l st std ex ev t1 t2 t3 t4 qual pm ctv oc oe n n4 c t so eo evo own' := fun p hp => by
  have hp : p ∈ ([(st, so), (ex, eo), (ev, evo), (x, instObj 440 dx), (dx, dictOf (storeEs P f st ex ev t1 t2 t3 t4) n4), (f, lamObj qual cl pm c' ctv), (c', oc), (cl, oe), (l, W.listOf #[.int c t] n), (std, dictOf [] 0)] ++ own) := hp
  rcases List.mem_append.mp hp with h1 | h1
  · exact List.mem_append_left own' h1
  · exact core_own (hs p h1)
end
local macro_rules | `(tactic| walk_at "pyIter ref") => `(tactic| refine stop_here ?_)
section
variable {w : World} {E : Value → Shared → Prop} {s : Shared} {h₀ base : Heap} {L fa : Addr} {u mg mb : Str → Option Value} {outer : List Env}
  {pp : Program} {loose : List Str} {mean : ExcName → Option Value} {Q : Flow → Shared → Prop} {own tups : List (Addr × Obj)}
  {x dx f c' l st std ex ev bk ln : Addr} {t1 t2 t3 t4 : Tok} {qual : Str} {pm ctv : Value} {oc oe so eo evo bo lo : Obj} {vs : Array Value} {qt : Tok} {c BB : Int} {t : Tok} {n n4 : Nat} {S X₁ lenF : Tab} {fB : Book} {b bB be : Nat}
def InJ (w : World) (L x dx f c' l st std ex ev bk ln : Addr) (t1 t2 t3 t4 : Tok) (qual : Str) (pm ctv : Value) (oc oe evo : Obj) (c : Int) (t : Tok) (n n4 : Nat) (own : List (Addr × Obj)) (lenF : Tab) (fB : Book) (BB : Int) (b : Nat) (q : Addr × Obj) (m : Str → Option Value) (nx : List (Addr × Obj)) : Prop :=
  ∃ u S' X' so' eo', m = lawMap u x ln bk ∧ nx = q :: core w.params x dx f (L + 1) c' l st std ex ev t1 t2 t3 t4 qual pm ctv oc oe n n4 c t so' eo' evo own ∧ CtrM (PySem.strKind lawProg w) 317 std so' S' b ∧ DctM (PySem.strKind lawProg w) eo' X' b ∧ Inv lenF c S' X' fB BB
set_option maxHeartbeats 8000000 in
theorem inner_for (hb : b ≤ 800) (hl : LenOk lenF) (hla : ∃ e, lenF (Str.ofString "a") = some e) (hlb : ∃ e, lenF (Str.ofString "b") = some e) (hec' : ∀ k e, lenF k = some e → e ≤ c) (hbig : c < 10 ^ 39)
    (I : Inv lenF c S X₁ fB BB)
    (B : Below callerA base outer h₀) (F : Fr h₀ L s.heap (lawMap u x ln bk)) (X : (hd.heap_39 w.params).In h₀) (T : Top pp loose mean mg mb h₀)
    (N : News h₀ L s.heap (core w.params x dx f (L + 1) c' l st std ex ev t1 t2 t3 t4 qual pm ctv oc oe n n4 c t so eo evo ((bk, bo) :: (ln, lo) :: own)))
    (hoff : OwnOff ((bk, bo) :: (ln, lo) :: own) [st, ex, ev]) (Z : SOk w x dx f (L + 1) c' l st std ex ev qual oc oe vs qt)
    (hso : CtrM (PySem.strKind lawProg w) 317 std so S b) (heo : DctM (PySem.strKind lawProg w) eo X₁ b)
    (hlo : DctM (PySem.strKind lawProg w) lo lenF 2) (hbo : BookM lawProg w bo tups fB bB) (htu : ∀ q ∈ tups, q ∈ own) (lob : (bk == sysModules) = false)
    (hE : PassesOwn (model lawProg w) (callerA.deeper (lawEnv lawScope L fa)) (lawEnv lawScope L fa) E)
    (k : ∀ u' S' X' so' eo' h' tk, Fr h₀ L h' (lawMap u' x ln bk) → News h₀ L h' (core w.params x dx f (L + 1) c' l st std ex ev t1 t2 t3 t4 qual pm ctv oc oe n n4 c t so' eo' evo ((bk, bo) :: (ln, lo) :: own)) →
      CtrM (PySem.strKind lawProg w) 317 std so' S' b → DctM (PySem.strKind lawProg w) eo' X' b → Inv lenF c S' X' fB BB → Q .next { s with heap := h', toks := tk }) :
    wpAny (model lawProg w) (callerA.deeper (lawEnv lawScope L fa)) (exec innerForStmt (lawEnv lawScope L fa)) Q E s := by
  have Z' := Z
  obtain ⟨hcc, lo1, lo2, lo3, ord, h2d, h2q, h3d⟩ := Z
  conv in (occs := *) lawScope => all_goals whnf
  conv in innerForStmt => whnf
  w_top off
  w_strict (
    (with_unfolding_all refine' For_invVF (hE := hE) F ?k1 ?k2 ?_; (case k1 => exact rfl); (case k2 => exact rfl))
    k_steps
    unfold Stop
    rename (_ ∧ _ ∧ _) => l1
    rename News h₀ L _ _ => N0
    rename Fr h₀ L _ _ => F0
    refine iter_gen (vs := [_, _]) (fun _ => InJ w L x dx f c' l st std ex ev bk ln t1 t2 t3 t4 qual pm ctv oc oe evo c t n n4 ((bk, bo) :: (ln, lo) :: own) lenF fB BB b _) rfl (.head _) F0 N0 ⟨u, S, X₁, so, eo, rfl, rfl, hso, heo, I⟩ ?_ ?_
    · rintro i v m₁ news₁ h4 tk4 own' hvs hsep hin ⟨u', S', X', so', eo', rfl, rfl, hs', he', I'⟩ F1 N1
      obtain ⟨ky, kt, e, rfl, hke, hkl⟩ : ∃ ky kt e, v = .str ky kt ∧ lenF ky = some e ∧ ky.length ≤ 100 := by
        obtain ⟨ea, hea⟩ := hla
        obtain ⟨eb, heb⟩ := hlb
        match i, hvs with
        | 0, hvs => cases hvs; exact ⟨_, _, ea, rfl, hea, by decide⟩
        | 1, hvs => cases hvs; exact ⟨_, _, eb, rfl, heb, by decide⟩
      refine inner_turn (own := _ :: (own ++ own')) hb hke hl hec' hbig hkl I' B F1 X T (newsUncore (perm_one) (newsCore (by have h9 := N1; simp only [List.cons_append] at h9; exact h9))) (perm_off hoff l1 hsep) Z' hs' he' hlo hbo (fun q hq => .tail _ (List.mem_append_left _ (htu q hq))) lob ?_
      intro u2 S2 X2 so2 eo2 h5 tk5 F5 N5 hs5 he5 I5
      show InvEndG _ _ _ _ _ _
      refine InvEndG.intro F5 N5 ⟨.head _, u2, S2, X2, so2, eo2, rfl, rfl, hs5, he5, I5⟩ hsep ?_ ?_
      · intro p hp
        rcases List.mem_cons.mp hp with rfl | hp
        · exact core_own (.tail _ (.tail _ (.head _)))
        · refine core_mono (fun p hp => ?_) p hp
          rcases List.mem_cons.mp hp with rfl | hp
          · exact .head _
          · rcases List.mem_cons.mp hp with rfl | hp
            · exact .tail _ (.head _)
            · exact .tail _ (.tail _ (.tail _ (List.mem_append_left _ hp)))
      · exact fun p hp => core_own (.tail _ (.tail _ (.tail _ (List.mem_append_right _ hp))))
    · rintro m₁ news₁ h4 tk4 hin ⟨u', S', X', so', eo', rfl, rfl, hs', he', I'⟩ F1 N1
      exact k _ _ _ _ _ _ _ F1 (newsDrop N1) hs' he' I')
end

/-! ## One turn of the law -/
section
variable {prog : Program} {w : World} {A : Around} {E : Value → Shared → Prop} {s : Shared} {h₀ : Heap} {L l : Addr} {m : Str → Option Value} {news : List (Addr × Obj)} {Q : Value → Shared → Prop}
theorem newsSkip {h : Heap} {a b : Addr × Obj} (N : News h₀ L h (a :: b :: news)) : News h₀ L h (a :: news) := fun p hp => by
  rcases List.mem_cons.mp hp with rfl | hp
  · exact N _ (.head _)
  · exact N p (.tail _ (.tail _ hp))
theorem pick_key {value slice : PySem.Expr} {a b : Str} {ta tb u : Tok} {n : Nat} {k c : Int} {len : Tab} (N : News h₀ L s.heap news) (hm : (l, W.listOf #[.str a ta, .str b tb] n) ∈ news) (h0 : 0 ≤ k) (h2 : k < 2)
    (hl : LenOk len) (hec : ∀ k e, len k = some e → e ≤ c) (ha : ∃ e, len a = some e) (hb : ∃ e, len b = some e)
    (h : ∀ ky kt e, len ky = some e → 0 < e → e ≤ 51 → e ≤ c → ky.length ≤ 100 → 0 ≤ c.fmod e → c.fmod e < e → Q (.str ky kt) s)
    (hs : subscripted slice false (.ref l) (.int k u) = operate [.ref l, .int k u] (getItem (.ref l) (.int k u)) := by with_unfolding_all rfl) :
    wpAny (model prog w) A (subscriptTail value slice (.ref l) (.int k u)) Q E s := by
  have go : ∀ ky kt, (∃ e, len ky = some e) → Q (.str ky kt) s := fun ky kt ⟨e, he⟩ => by
    obtain ⟨h1, h2, h3⟩ := hl.out _ _ he
    refine h ky kt e he h1 h2 (hec _ _ he) ?_ (Int.fmod_nonneg_of_pos _ h1) (Int.fmod_lt_of_pos _ h1)
    rcases h3 with rfl | rfl <;> decide
  have hk : k = 0 ∨ k = 1 := by omega
  rcases hk with rfl | rfl
  · exact item_litK (vs := [.str a ta, .str b tb]) ⟨_, (N _ hm).1, rfl, n, rfl⟩ (by decide) (by decide) rfl (go a ta ha) hs
  · exact item_litK (vs := [.str a ta, .str b tb]) ⟨_, (N _ hm).1, rfl, n, rfl⟩ (by decide) (by decide) rfl (go b tb hb) hs
theorem pick_step {value slice : PySem.Expr} {d0 d1 d2 d3 d4 d5 d6 d7 : Int} {s0 s1 s2 s3 s4 s5 s6 s7 u : Tok} {n : Nat} {k : Int} (N : News h₀ L s.heap news) (hm : (l, W.listOf #[.int d0 s0, .int d1 s1, .int d2 s2, .int d3 s3, .int d4 s4, .int d5 s5, .int d6 s6, .int d7 s7] n) ∈ news) (h0 : 0 ≤ k) (h2 : k < 8)
    (hd : ∀ d ∈ [d0, d1, d2, d3, d4, d5, d6, d7], 0 ≤ d ∧ d < 10 ^ 26)
    (h : ∀ d td, 0 ≤ d → d < 10 ^ 26 → Q (.int d td) s)
    (hs : subscripted slice false (.ref l) (.int k u) = operate [.ref l, .int k u] (getItem (.ref l) (.int k u)) := by with_unfolding_all rfl) :
    wpAny (model prog w) A (subscriptTail value slice (.ref l) (.int k u)) Q E s := by
  obtain ⟨j, rfl⟩ := Int.eq_ofNat_of_zero_le h0
  have hj : j < 8 := by omega
  have hlen : ([.int d0 s0, .int d1 s1, .int d2 s2, .int d3 s3, .int d4 s4, .int d5 s5, .int d6 s6, .int d7 s7] : List Value).length = 8 := rfl
  obtain ⟨d, td, hv, hmem⟩ : ∃ d td, ([.int d0 s0, .int d1 s1, .int d2 s2, .int d3 s3, .int d4 s4, .int d5 s5, .int d6 s6, .int d7 s7] : List Value)[j]? = some (.int d td) ∧ d ∈ [d0, d1, d2, d3, d4, d5, d6, d7] := by
    match j, hj with
    | 0, _ => exact ⟨d0, s0, rfl, by simp⟩
    | 1, _ => exact ⟨d1, s1, rfl, by simp⟩
    | 2, _ => exact ⟨d2, s2, rfl, by simp⟩
    | 3, _ => exact ⟨d3, s3, rfl, by simp⟩
    | 4, _ => exact ⟨d4, s4, rfl, by simp⟩
    | 5, _ => exact ⟨d5, s5, rfl, by simp⟩
    | 6, _ => exact ⟨d6, s6, rfl, by simp⟩
    | 7, _ => exact ⟨d7, s7, rfl, by simp⟩
    | n + 8, h => exact absurd h (by omega)
  obtain ⟨p1, p2⟩ := hd d hmem
  exact item_litK (vs := [.int d0 s0, .int d1 s1, .int d2 s2, .int d3 s3, .int d4 s4, .int d5 s5, .int d6 s6, .int d7 s7]) ⟨_, (N _ hm).1, rfl, n, rfl⟩ (by omega) (by omega) (by simpa using hv) (h d td p1 p2) hs
end
section
variable {prog : Program} {w : World} {A : Around} {E : Value → Shared → Prop} {s : Shared} {h₀ : Heap} {L : Addr} {m : Str → Option Value} {Q : Unit → Shared → Prop}
theorem clock_set {P : Params} {x dx f cl c' l st std ex ev : Nat} {t1 t2 t3 t4 : Tok} {qual : Str} {pm ctv : Value} {oc oe so eo evo : Obj} {n n4 : Nat} {c c2 : Int} {t tt u : Tok} {own : List (Addr × Obj)}
    (F : Fr h₀ L s.heap m) (N : News h₀ L s.heap (core P x dx f cl c' l st std ex ev t1 t2 t3 t4 qual pm ctv oc oe n n4 c t so eo evo own)) (ho : OwnOff own [l])
    (ord : cl < l ∧ l < c' ∧ c' < f ∧ f < dx ∧ dx < x ∧ x < std ∧ std < st ∧ st < ex ∧ ex < ev)
    (h : ∀ h', Fr h₀ L h' m → News h₀ L h' (core P x dx f cl c' l st std ex ev t1 t2 t3 t4 qual pm ctv oc oe n n4 c2 tt so eo evo own) → Q () { s with heap := h' }) : wpAny (model prog w) A (setItem (.ref l) (.int 0 u) (.int c2 tt)) Q E s := by
  have a : ∀ p ∈ ([(st, so), (ex, eo), (ev, evo), (x, instObj 440 dx), (dx, dictOf (storeEs P f st ex ev t1 t2 t3 t4) n4), (f, lamObj qual cl pm c' ctv), (c', oc), (cl, oe)] : List (Addr × Obj)), p.1 ≠ l := by
    intro p hp
    simp only [List.mem_cons, List.not_mem_nil, or_false] at hp
    rcases hp with rfl | rfl | rfl | rfl | rfl | rfl | rfl | rfl
    · show st ≠ l; omega
    · show ex ≠ l; omega
    · show ev ≠ l; omega
    · show x ≠ l; omega
    · show dx ≠ l; omega
    · show f ≠ l; omega
    · show c' ≠ l; omega
    · show cl ≠ l; omega
  have b : ∀ p ∈ (std, dictOf [] 0) :: own, p.1 ≠ l := by
    intro p hp
    rcases List.mem_cons.mp hp with rfl | hp
    · show std ≠ l; omega
    · exact ho p hp l (.head _)
  have z := N (l, W.listOf #[.int c t] n) (.tail _ (.tail _ (.tail _ (.tail _ (.tail _ (.tail _ (.tail _ (.tail _ (.head _)))))))))
  refine ki_setAt z.1 (by decide) (by decide) (show (0 : Int) < ((1 : Nat) : Int) by decide) (h _ (F.change (Heap.SameBut.update ..) z.2.1 z.2.2) (ki_turn (pre := [(st, so), (ex, eo), (ev, evo), (x, instObj 440 dx), (dx, dictOf (storeEs P f st ex ev t1 t2 t3 t4) n4), (f, lamObj qual cl pm c' ctv), (c', oc), (cl, oe)]) (post := (std, dictOf [] 0) :: own) _ N a b ?_ ?_))
  · rfl
  · simp
end
theorem updApp {d : Addr} {o : Obj} {r : List (Addr × Obj)} (hr : ∀ p ∈ r, p.1 ≠ d) : ∀ {ex : List (Addr × Obj)}, (∀ p ∈ ex, p.1 ≠ d) → UpdF d o (ex ++ (d, o) :: r) (fun o' => ex ++ (d, o') :: r)
  | [], _ => .head hr
  | p :: ex, h => .tail (h p (.head _)) (updApp hr fun q hq => h q (.tail _ hq))
theorem updBook {P : Params} {x dx f cl c' l st std ex ev bk : Nat} {t1 t2 t3 t4 : Tok} {qual : Str} {pm ctv : Value} {oc oe so eo evo bo : Obj} {n n4 : Nat} {c : Int} {t : Tok} {xs own : List (Addr × Obj)}
    (ord : cl < l ∧ l < c' ∧ c' < f ∧ f < dx ∧ dx < x ∧ x < std ∧ std < st ∧ st < ex ∧ ex < ev) (hb : ev < bk) (h1 : ∀ p ∈ xs, p.1 ≠ bk) (h2 : ∀ p ∈ own, p.1 ≠ bk) :
    UpdF bk bo (core P x dx f cl c' l st std ex ev t1 t2 t3 t4 qual pm ctv oc oe n n4 c t so eo evo (xs ++ (bk, bo) :: own)) (fun o => core P x dx f cl c' l st std ex ev t1 t2 t3 t4 qual pm ctv oc oe n n4 c t so eo evo (xs ++ (bk, o) :: own)) := by
  refine .tail (show st ≠ bk by omega) (.tail (show ex ≠ bk by omega) (.tail (show ev ≠ bk by omega) (.tail (show x ≠ bk by omega) (.tail (show dx ≠ bk by omega) (.tail (show f ≠ bk by omega) (.tail (show c' ≠ bk by omega) (.tail (show cl ≠ bk by omega) (.tail (show l ≠ bk by omega) (.tail (show std ≠ bk by omega) (updApp h2 h1))))))))))
section
variable {w : World} {E : Value → Shared → Prop} {s : Shared} {h₀ base : Heap} {L : Nat} {fa : Addr} {u mg mb : Str → Option Value} {outer : List Env}
  {pp : Program} {loose : List Str} {mean : ExcName → Option Value} {Q : Flow → Shared → Prop} {own tups : List (Addr × Obj)}
  {x dx f c' l st std ex ev bk ln : Nat} {t1 t2 t3 t4 : Tok} {qual : Str} {pm ctv : Value} {oc oe so eo evo bo lo : Obj} {vs : Array Value} {qt : Tok} {c BB : Int} {t : Tok} {n n4 : Nat} {S X₁ lenF : Tab} {fB : Book} {b bB be : Nat}
theorem offAll {own : List (Addr × Obj)} {bk l st ex ev : Nat} (h : OwnOff own [bk, l, st, ex, ev]) : OwnOff own [st, ex, ev] := fun p hp b hb => h p hp b (.tail _ (.tail _ hb))
theorem offBk {own : List (Addr × Obj)} {bk l st ex ev ln : Nat} {lo : Obj} (h : OwnOff own [bk, l, st, ex, ev]) (h2 : ln < bk) : ∀ p ∈ (ln, lo) :: own, p.1 ≠ bk := fun p hp => by
  rcases List.mem_cons.mp hp with rfl | hp
  · exact Nat.ne_of_lt h2
  · exact h p hp bk (.head _)
theorem offL {own : List (Addr × Obj)} {bk l st ex ev ln : Nat} {lo bo : Obj} (h : OwnOff own [bk, l, st, ex, ev]) (h1 : l < bk) (h2 : ln < l) : OwnOff ((bk, bo) :: (ln, lo) :: own) [l] := fun p hp b hb => by
  obtain rfl := List.mem_singleton.mp hb
  rcases List.mem_cons.mp hp with rfl | hp
  · exact Nat.ne_of_gt h1
  · rcases List.mem_cons.mp hp with rfl | hp
    · exact Nat.ne_of_lt h2
    · exact h p hp b (.tail _ (.head _))
theorem neTwo {d q bk : Nat} {o1 o2 : Obj} (h1 : bk < d) (h2 : bk < q) : ∀ p ∈ ([(d, o1), (q, o2)] : List (Addr × Obj)), p.1 ≠ bk := fun p hp => by
  simp only [List.mem_cons, List.not_mem_nil, or_false] at hp
  rcases hp with rfl | rfl
  · exact Nat.ne_of_gt h1
  · exact Nat.ne_of_gt h2
theorem neThree {d2 d q bk : Nat} {o1 o2 o3 : Obj} (h0 : bk < d2) (h1 : bk < d) (h2 : bk < q) : ∀ p ∈ ([(d2, o3), (d, o1), (q, o2)] : List (Addr × Obj)), p.1 ≠ bk := fun p hp => by
  simp only [List.mem_cons, List.not_mem_nil, or_false] at hp
  rcases hp with rfl | rfl | rfl
  · exact Nat.ne_of_gt h0
  · exact Nat.ne_of_gt h1
  · exact Nat.ne_of_gt h2
theorem BookM.mono {prog : Program} {w : World} {bo : Obj} {tups : List (Addr × Obj)} {f : Book} {b b' : Nat} (B : BookM prog w bo tups f b) (h : b ≤ b') : BookM prog w bo tups f b' :=
  let ⟨xs, es, ep, h1, h2, h3, h4, h5, h6, h7, h8⟩ := B.out; ⟨⟨xs, es, ep, h1, h2, h3, h4, h5, h6, h7, Nat.le_trans h8 h⟩⟩
theorem nnOne {a b d q : Addr × Obj} {own : List (Addr × Obj)} : ∀ p ∈ a :: b :: ([d] ++ own), p ∈ d :: q :: a :: b :: own := by
  intro p hp
  simp only [List.cons_append, List.nil_append, List.mem_cons] at hp ⊢
  rcases hp with h | h | h | h <;> simp [h]
theorem nnTwo {a b d2 d1 q : Addr × Obj} {own : List (Addr × Obj)} : ∀ p ∈ a :: b :: ([d2, d1] ++ own), p ∈ d2 :: d1 :: q :: a :: b :: own := by
  intro p hp
  simp only [List.cons_append, List.nil_append, List.mem_cons] at hp ⊢
  rcases hp with h | h | h | h | h <;> simp [h]
theorem allLtTo {d : Nat} : ∀ {own : List (Addr × Obj)}, AllLt d own → ∀ p ∈ own, p.1 < d
  | [], _, _, hp => absurd hp List.not_mem_nil
  | q :: r, h, p, hp => by
    rcases List.mem_cons.mp hp with rfl | hp
    · exact h.1
    · exact allLtTo h.2 p hp
theorem dropTwo {q d1 d2 : Addr × Obj} {r : List (Addr × Obj)} : ∀ p ∈ q :: r, p ∈ q :: d1 :: d2 :: r := by
  intro p hp
  simp only [List.mem_cons] at hp ⊢
  rcases hp with h | h <;> simp [h]
theorem newOne {bk d : Nat} {o : Obj} {own : List (Addr × Obj)} (h : bk < d) (h2 : AllLt d own) : ∀ p ∈ ([(d, o)] : List (Addr × Obj)), bk < p.1 ∧ ∀ y ∈ own, y.1 < p.1 := fun p hp => by
  obtain rfl := List.mem_singleton.mp hp
  exact ⟨h, allLtTo h2⟩
theorem newTwo {bk d d2 : Nat} {o o2 : Obj} {own : List (Addr × Obj)} (h' : bk < d2) (h2' : AllLt d2 own) (h : bk < d) (h2 : AllLt d own) : ∀ p ∈ ([(d2, o2), (d, o)] : List (Addr × Obj)), bk < p.1 ∧ ∀ y ∈ own, y.1 < p.1 := fun p hp => by
  rcases List.mem_cons.mp hp with rfl | hp
  · exact ⟨h', allLtTo h2'⟩
  · exact newOne h h2 p hp
theorem bneDec {p q : Prop} [Decidable p] [Decidable q] (h : p = q) : (decide p != decide q) = false := by
  subst h
  by_cases hp : p <;> simp [hp]
theorem tupsIn {P : Params} {cl : Addr} {xs : List (Addr × Obj)} (h : ∀ q ∈ tups, q ∈ own) : ∀ q ∈ tups, q ∈ core P x dx f cl c' l st std ex ev t1 t2 t3 t4 qual pm ctv oc oe n n4 c t so eo evo (xs ++ (bk, bo) :: (ln, lo) :: own) :=
  fun q hq => core_own (List.mem_append_right xs (.tail _ (.tail _ (h q hq))))
theorem tupsCons {tups news : List (Addr × Obj)} {t : Addr × Obj} (h1 : t ∈ news) (h2 : ∀ q ∈ tups, q ∈ news) : ∀ q ∈ t :: tups, q ∈ news := fun q hq => by
  rcases List.mem_cons.mp hq with rfl | hq
  · exact h1
  · exact h2 q hq
theorem Inv.acq_no {len S X : Tab} {f : Book} {B : Int} {c lim a : Int} {k : Str} {e : Int} (I : Inv len c S X f B) (hl : LenOk len) (hk : len k = some e) (h : ¬ ((f (bkey k (c.fdiv e - 1))).getD 0 * (e - c.fmod e)).fdiv e + (f (bkey k (c.fdiv e))).getD 0 + a ≤ lim) :
    Inv len c (aS S X c (wkey k (c.fdiv e - 1)) (wkey k (c.fdiv e)) e lim a) (aX S X c (wkey k (c.fdiv e - 1)) (wkey k (c.fdiv e)) e lim a) f (B + 4) := by
  by_cases h1 : a ≤ lim
  · have h2 : ¬ wt S X c (wkey k (c.fdiv e - 1)) (wkey k (c.fdiv e)) e + a ≤ lim := by rw [I.wtIs hl hk]; exact h
    rw [aS_2 h1 h2, aX_2 h1 h2]
    exact (I.both hl _ _).mono (by omega)
  · rw [aS_1 h1, aX_1 h1]
    exact I.mono (by omega)
theorem Inv.wt_nonneg {len S X : Tab} {f : Book} {B : Int} {c : Int} {k : Str} {e : Int} (I : Inv len c S X f B) (hl : LenOk len) (hk : len k = some e) : 0 ≤ ((f (bkey k (c.fdiv e - 1))).getD 0 * (e - c.fmod e)).fdiv e + (f (bkey k (c.fdiv e))).getD 0 := by
  obtain ⟨he, _, _⟩ := hl.out _ _ hk
  have h1 := (I k e hk (c.fdiv e - 1) (Int.le_refl _)).2.1
  have h2 := (I k e hk (c.fdiv e) (by omega)).2.1
  have h3 := Int.fmod_lt_of_pos c he
  have h4 : 0 ≤ ((f (bkey k (c.fdiv e - 1))).getD 0 * (e - c.fmod e)).fdiv e := Int.fdiv_nonneg (Int.mul_nonneg h1 (by omega)) (Int.le_of_lt he)
  omega
theorem Inv.acq_yes {len S X : Tab} {f : Book} {B : Int} {c lim a : Int} {k : Str} {e : Int} (I : Inv len c S X f B) (hl : LenOk len) (hec : ∀ k e, len k = some e → e ≤ c) (hk : len k = some e) (ha : 1 ≤ a) (ha2 : a ≤ 4) (h : ((f (bkey k (c.fdiv e - 1))).getD 0 * (e - c.fmod e)).fdiv e + (f (bkey k (c.fdiv e))).getD 0 + a ≤ lim) :
    Inv len c (aS S X c (wkey k (c.fdiv e - 1)) (wkey k (c.fdiv e)) e lim a) (aX S X c (wkey k (c.fdiv e - 1)) (wkey k (c.fdiv e)) e lim a) (putAt f (bkey k (c.fdiv e)) ((f (bkey k (c.fdiv e))).getD 0 + a)) (B + 4) := by
  have h0 := I.wt_nonneg hl hk
  have h1 : a ≤ lim := by omega
  have h2 : wt S X c (wkey k (c.fdiv e - 1)) (wkey k (c.fdiv e)) e + a ≤ lim := by rw [I.wtIs hl hk]; exact h
  rw [aS_3 h1 h2, aX_3 h1 h2]
  exact (I.both hl _ _).incr hl hec hk (by omega) ha2
theorem Inv.acq_let {len S X : Tab} {f : Book} {B : Int} {c lim a : Int} {k : Str} {e : Int} (I : Inv len c S X f B) (hl : LenOk len) (hk : len k = some e) :
    (a ≤ lim ∧ wt S X c (wkey k (c.fdiv e - 1)) (wkey k (c.fdiv e)) e + a ≤ lim) = (((f (bkey k (c.fdiv e - 1))).getD 0 * (e - c.fmod e)).fdiv e + (f (bkey k (c.fdiv e))).getD 0 + a ≤ lim) := by
  rw [I.wtIs hl hk]
  have h0 := I.wt_nonneg hl hk
  exact propext ⟨fun h => h.2, fun h => ⟨by omega, h⟩⟩
theorem Inv.decr_val {len S X : Tab} {f : Book} {B : Int} {c q a : Int} {k : Str} {e : Int} (I : Inv len c S X f B) (hl : LenOk len) (hk : len k = some e) (hq : c.fdiv e - 1 ≤ q) : (dS S X c (wkey k q) a (wkey k q)).getD 0 = (if (f (bkey k q)).getD 0 - a > 0 then (f (bkey k q)).getD 0 - a else 0) := by
  unfold dS putAt
  rw [if_pos rfl, I.val hl hk hq]
  show (if 0 > (f (bkey k q)).getD 0 - a then 0 else (f (bkey k q)).getD 0 - a) = _
  split <;> split <;> omega
theorem tail_end {m' : Str → Option Value} {new nn tups' : List (Addr × Obj)} {S' X' : Tab} {fB' : Book} {so' eo' evo' bo' : Obj} (hb : b ≤ 700) (hl : LenOk lenF) (hla : ∃ e, lenF (Str.ofString "a") = some e) (hlb : ∃ e, lenF (Str.ofString "b") = some e) (hec' : ∀ k e, lenF k = some e → e ≤ c) (hbig : c < 10 ^ 39)
    (hown : OwnOff own [bk, l, st, ex, ev]) (hbk : ev < bk) (hln2 : ln < l)
    (B : Below callerA base outer h₀) (X : (hd.heap_39 w.params).In h₀) (T : Top pp loose mean mg mb h₀) (Z : SOk w x dx f (L + 1) c' l st std ex ev qual oc oe vs qt)
    (hlo : DctM (PySem.strKind lawProg w) lo lenF 2) (lob : (bk == sysModules) = false) (hE : PassesOwn (model lawProg w) (callerA.deeper (lawEnv lawScope L fa)) (lawEnv lawScope L fa) E)
    (F' : Fr h₀ L s.heap m') (hm1 : m' (Str.ofString "book") = some (.ref bk)) (hm2 : m' (Str.ofString "store") = some (.ref x)) (hm3 : m' (Str.ofString "lengths") = some (.ref ln))
    (N' : News h₀ L s.heap (core w.params x dx f (L + 1) c' l st std ex ev t1 t2 t3 t4 qual pm ctv oc oe n n4 c t so' eo' evo' nn))
    (hso' : CtrM (PySem.strKind lawProg w) 317 std so' S' (b + 1)) (heo' : DctM (PySem.strKind lawProg w) eo' X' (b + 1)) (hev' : DctM (PySem.strKind lawProg w) evo' (fun _ => none) be) (hbo' : BookM lawProg w bo' tups' fB' (bB + 2)) (I' : Inv lenF c S' X' fB' (BB + 4))
    (hnn : ∀ p ∈ (bk, bo') :: (ln, lo) :: (new ++ own), p ∈ nn) (hnew : ∀ p ∈ new, bk < p.1 ∧ ∀ y ∈ own, y.1 < p.1) (htn : ∀ q ∈ tups', q ∈ new ++ tups) (htu : ∀ q ∈ tups, q ∈ own)
    (k : ∀ u' S' X' fB' so' eo' evo' bo' tups' new h' tk, Fr h₀ L h' (lawMap u' x ln bk) → News h₀ L h' (core w.params x dx f (L + 1) c' l st std ex ev t1 t2 t3 t4 qual pm ctv oc oe n n4 c t so' eo' evo' ((bk, bo') :: (ln, lo) :: (new ++ own))) → CtrM (PySem.strKind lawProg w) 317 std so' S' (b + 1) → DctM (PySem.strKind lawProg w) eo' X' (b + 1) → DctM (PySem.strKind lawProg w) evo' (fun _ => none) be → BookM lawProg w bo' tups' fB' (bB + 2) → Inv lenF c S' X' fB' (BB + 4) → (∀ q ∈ tups', q ∈ new ++ tups) → (∀ p ∈ new, bk < p.1 ∧ ∀ y ∈ own, y.1 < p.1) → Q .next { s with heap := h', toks := tk }) :
    wpAny (model lawProg w) (callerA.deeper (lawEnv lawScope L fa)) (exec innerForStmt (lawEnv lawScope L fa)) Q E s := by
  have ord := Z.ord
  rw [lawMap_self hm1 hm2 hm3] at F'
  have hoff : OwnOff ((bk, bo') :: (ln, lo) :: (new ++ own)) [st, ex, ev] := by
    refine ownCons (ownLow ?_ (by omega) (by omega) (by omega)) (by omega) (by omega) (by omega)
    intro p hp y hy
    rcases List.mem_append.mp hp with hp | hp
    · have h1 : bk < p.1 := (hnew p hp).1
      simp only [List.mem_cons, List.not_mem_nil, or_false] at hy
      rcases hy with rfl | rfl | rfl
      · exact Nat.ne_of_gt (by omega)
      · exact Nat.ne_of_gt (by omega)
      · exact Nat.ne_of_gt (by omega)
    · exact offAll hown p hp y hy
  have htu' : ∀ q ∈ tups', q ∈ new ++ own := fun q hq => by
    rcases List.mem_append.mp (htn q hq) with h1 | h1
    · exact List.mem_append_left _ h1
    · exact List.mem_append_right _ (htu q h1)
  refine inner_for (by omega) hl hla hlb hec' hbig I' B F' X T (newsUncore hnn N') hoff Z hso' heo' hlo hbo' htu' lob hE ?_
  intro u2 S2 X2 so2 eo2 h2 tk2 F2 N2 hs2 he2 I2
  exact k u2 S2 X2 fB' so2 eo2 evo' bo' tups' new h2 tk2 F2 N2 hs2 he2 hev' hbo' I2 htn hnew
end

/-! ## The verbs, and the look at both keys -/
local macro_rules | `(tactic| walk_at "newTuple") => `(tactic| (k_here; k_dflt (refine' kup_newTuple ?F ?N ?_ ?z; (case F => k_asm); (case N => k_asm); (case z => kmk_size)); intro D' h' F' N' l1; (try k_lt l1); (try unfold Addr at l1); (try k_sweep); (try (replace N' := newsCore N'))))
local macro_rules | `(tactic| walk_at "setItem ref ref") => `(tactic| (k_here; k_dflt (refine' bk_set ?pu ?pF ?pN ?pU ?pB ?pt ?pq ?pz ?_; (case pF => k_asm); (case pN => k_asm); (case pU => first | exact updBook (xs := [_, _]) (by assumption) (by assumption) (neTwo (by omega) (by omega)) (by assumption) | exact updBook (xs := [_, _, _]) (by assumption) (by assumption) (neThree (by omega) (by omega) (by omega)) (by assumption)); (case pB => assumption); (case pq => k_mem); (case pu => exact (show callerA.units + 3 + 1 < cLine by decide)); (case pz => omega); (case pt => first | exact tupsIn (xs := [_, _]) (by assumption) | exact tupsCons (by k_mem) (tupsIn (xs := [_, _, _]) (by assumption))); k_whole); intro h' o' tk' F' N' hB'; (try simp only [List.cons_append, List.nil_append] at N'); (try k_sweep)))
local macro_rules | `(tactic| walk_at "exec For") => `(tactic| refine stop_here ?_)
local macro_rules | `(tactic| walk_at "exec For Name List cons nil") => `(tactic| refine stop_here ?_)
def tailBody : List Stmt := loopBody.drop 10
section
variable {w : World} {E : Value → Shared → Prop} {s : Shared} {h₀ base : Heap} {L : Nat} {fa : Addr} {u mg mb : Str → Option Value} {outer : List Env}
  {pp : Program} {loose : List Str} {mean : ExcName → Option Value} {Q : Flow → Shared → Prop} {own tups : List (Addr × Obj)}
  {x dx f c' l st std ex ev bk ln : Nat} {t1 t2 t3 t4 : Tok} {qual : Str} {pm ctv : Value} {oc oe so eo evo bo lo : Obj} {vs : Array Value} {qt : Tok} {c BB : Int} {t : Tok} {n n4 : Nat} {S X₁ lenF : Tab} {fB : Book} {b bB be : Nat}
set_option maxHeartbeats 8000000 in
theorem turn_tail {ky : Str} {n0 v a e gone : Int} {q : Nat} {nt vt at' ht aht plt gt et kt kt1 kt2 : Tok} (hv0 : 0 ≤ v) (hv8 : v < 8) (ha1 : 1 ≤ a) (ha4 : a ≤ 4) (hke : lenF ky = some e) (hkl : ky.length ≤ 100) (hb : b ≤ 700) (hbB : bB ≤ 800) (hbe : be ≤ 800) (hev : DctM (PySem.strKind lawProg w) evo (fun _ => none) be) (hBB : 0 ≤ BB) (hBB2 : BB ≤ 500) (hl : LenOk lenF) (hla : ∃ e, lenF (Str.ofString "a") = some e) (hlb : ∃ e, lenF (Str.ofString "b") = some e) (hec' : ∀ k e, lenF k = some e → e ≤ c) (hbig : c < 10 ^ 39)
    (I : Inv lenF c S X₁ fB BB)
    (B : Below callerA base outer h₀) (F : Fr h₀ L s.heap (fun y => if y = Str.ofString "verb" then some (.int v vt) else if y = Str.ofString "units" then some (.int a at') else if y = Str.ofString "names" then some (.ref q) else if y = Str.ofString "here" then some (.int ((fB (bkey ky (c.fdiv e))).getD 0) ht) else if y = Str.ofString "ahead" then some (.int ((fB (bkey ky (c.fdiv e - 1))).getD 0) aht) else if y = Str.ofString "place" then some (.int (c.fdiv e) plt) else if y = Str.ofString "gone" then some (.int gone gt) else if y = Str.ofString "length" then some (.int e et) else if y = Str.ofString "key" then some (.str ky kt) else if y = Str.ofString "n" then some (.int n0 nt) else lawMap u x ln bk y)) (X : (hd.heap_39 w.params).In h₀) (T : Top pp loose mean mg mb h₀)
    (N : News h₀ L s.heap (core w.params x dx f (L + 1) c' l st std ex ev t1 t2 t3 t4 qual pm ctv oc oe n n4 c t so eo evo ((q, tup2 (.str (wkey ky (c.fdiv e - 1)) kt1) (.str (wkey ky (c.fdiv e)) kt2)) :: (bk, bo) :: (ln, lo) :: own)))
    (hown : OwnOff own [bk, l, st, ex, ev]) (hq1 : ev < q) (hq2 : bk < q) (Z : SOk w x dx f (L + 1) c' l st std ex ev qual oc oe vs qt)
    (hso : CtrM (PySem.strKind lawProg w) 317 std so S b) (heo : DctM (PySem.strKind lawProg w) eo X₁ b)
    (hlo : DctM (PySem.strKind lawProg w) lo lenF 2) (hbo : BookM lawProg w bo tups fB bB) (htu : ∀ q ∈ tups, q ∈ own) (lob : (bk == sysModules) = false)
    (hbk : ev < bk) (hln1 : L + 1 < ln) (hln2 : ln < l)
    (hE : PassesOwn (model lawProg w) (callerA.deeper (lawEnv lawScope L fa)) (lawEnv lawScope L fa) E)
    (k : ∀ u' S' X' fB' so' eo' evo' bo' tups' new h' tk, Fr h₀ L h' (lawMap u' x ln bk) → News h₀ L h' (core w.params x dx f (L + 1) c' l st std ex ev t1 t2 t3 t4 qual pm ctv oc oe n n4 c t so' eo' evo' ((bk, bo') :: (ln, lo) :: (new ++ own))) → CtrM (PySem.strKind lawProg w) 317 std so' S' (b + 1) → DctM (PySem.strKind lawProg w) eo' X' (b + 1) → DctM (PySem.strKind lawProg w) evo' (fun _ => none) be → BookM lawProg w bo' tups' fB' (bB + 2) → Inv lenF c S' X' fB' (BB + 4) → (∀ q ∈ tups', q ∈ new ++ tups) → (∀ p ∈ new, bk < p.1 ∧ ∀ y ∈ own, y.1 < p.1) → Q .next { s with heap := h', toks := tk }) :
    wpAny (model lawProg w) (callerA.deeper (lawEnv lawScope L fa)) (execs tailBody (lawEnv lawScope L fa)) Q E s := by
  have Z' := Z
  obtain ⟨hcc, lo1, lo2, lo3, ord, h2d, h2q, h3d⟩ := Z
  have hoff0 : OwnOff own [st, ex, ev] := offAll hown
  have hob : ∀ p ∈ (ln, lo) :: own, p.1 ≠ bk := offBk hown (by omega)
  have hoff : OwnOff ((bk, bo) :: (ln, lo) :: own) [st, ex, ev] := ownCons (ownLow hoff0 (by omega) (by omega) (by omega)) (by omega) (by omega) (by omega)
  obtain ⟨he0, he2, _⟩ := hl.out _ _ hke
  have hec := hec' _ _ hke
  have hgm0 : 0 ≤ c.fmod e := Int.fmod_nonneg_of_pos _ he0
  have hgm1 : c.fmod e < e := Int.fmod_lt_of_pos _ he0
  have hp0 : 0 ≤ c.fdiv e := fdiv_nonneg (by omega) (by omega)
  have hp1 : c.fdiv e ≤ c := fdiv_le (by omega) (by omega)
  have g9 : 0 ≤ (n0.fdiv 128).fmod 9 := Int.fmod_nonneg_of_pos _ (by decide)
  have g10 : (n0.fdiv 128).fmod 9 < 9 := Int.fmod_lt_of_pos _ (by decide)
  have hA0 := (I _ _ hke (c.fdiv e - 1) (Int.le_refl _)).2
  have hH0 := (I _ _ hke (c.fdiv e) (by omega)).2
  conv in (occs := *) lawScope => all_goals whnf
  conv in tailBody => whnf
  unfold lawMap at F
  w_top off
  w_strict (
    (try k_fold)
    k_steps
    · rename (_ != _) = true => hq9
      exact Bool.noConfusion (hq9.symm.trans (bneDec (I.acq_let hl hke)))
    · unfold Stop
      rename Fr h₀ L _ _ => kF
      rename News h₀ L _ _ => kN
      rename BookM _ _ _ _ _ _ => kB
      refine' tail_end (bB := bB) (BB := BB) (new := [_]) hb hl hla hlb hec' hbig hown hbk hln2 B X T Z' hlo lob hE kF rfl rfl rfl kN ?so ?eo ?ev (kB.mono (by omega)) (I.acq_yes hl hec' hke ha1 ha4 (by assumption)) ?nn ?nw (fun q hq => hq) htu ?kk
      case so => first | assumption | (refine CtrM.mono ?_ (Nat.le_succ _); assumption)
      case eo => first | assumption | (refine DctM.mono ?_ (Nat.le_succ _); assumption)
      case ev => assumption
      case nn => exact nnOne
      case nw => exact newOne (by omega) (by rename (_ < _ ∧ _) => l9; repeat (first | exact l9 | replace l9 := l9.2))
      case kk =>
        intro u9 S9 X9 f9 so9 eo9 ev9 bo9 tu9 new9 h9 tk9 F9 N9 a9 b9 c9 d9 e9 g9' i9
        refine wpAny_execs_nil ?_
        exact k u9 S9 X9 f9 so9 eo9 ev9 bo9 tu9 new9 h9 tk9 F9 N9 a9 b9 c9 d9 e9 g9' i9
    · unfold Stop
      rename Fr h₀ L _ _ => kF
      rename News h₀ L _ _ => kN
      rename BookM _ _ _ _ _ _ => kB
      refine' tail_end (bB := bB) (BB := BB) (new := []) hb hl hla hlb hec' hbig hown hbk hln2 B X T Z' hlo lob hE kF rfl rfl rfl kN ?so ?eo ?ev (kB.mono (by omega)) (I.acq_no hl hke (by assumption)) ?nn ?nw (fun q hq => hq) htu ?kk
      case so => first | assumption | (refine CtrM.mono ?_ (Nat.le_succ _); assumption)
      case eo => first | assumption | (refine DctM.mono ?_ (Nat.le_succ _); assumption)
      case ev => assumption
      case nn => exact fun p hp => .tail _ hp
      case nw => exact fun p hp => absurd hp List.not_mem_nil
      case kk =>
        intro u9 S9 X9 f9 so9 eo9 ev9 bo9 tu9 new9 h9 tk9 F9 N9 a9 b9 c9 d9 e9 g9' i9
        refine wpAny_execs_nil ?_
        exact k u9 S9 X9 f9 so9 eo9 ev9 bo9 tu9 new9 h9 tk9 F9 N9 a9 b9 c9 d9 e9 g9' i9
    · exact absurd (I.incr_val hl hke) (by assumption)
    · unfold Stop
      rename Fr h₀ L _ _ => kF
      rename News h₀ L _ _ => kN
      rename BookM _ _ _ _ _ _ => kB
      refine' tail_end (bB := bB) (BB := BB) (new := [_]) hb hl hla hlb hec' hbig hown hbk hln2 B X T Z' hlo lob hE kF rfl rfl rfl kN ?so ?eo ?ev (kB.mono (by omega)) (I.incr hl hec' hke (by omega) ha4) ?nn ?nw (fun q hq => hq) htu ?kk
      case so => first | assumption | (refine CtrM.mono ?_ (Nat.le_succ _); assumption)
      case eo => first | assumption | (refine DctM.mono ?_ (Nat.le_succ _); assumption)
      case ev => assumption
      case nn => exact nnOne
      case nw => exact newOne (by omega) (by rename (_ < _ ∧ _) => l9; repeat (first | exact l9 | replace l9 := l9.2))
      case kk =>
        intro u9 S9 X9 f9 so9 eo9 ev9 bo9 tu9 new9 h9 tk9 F9 N9 a9 b9 c9 d9 e9 g9' i9
        refine wpAny_execs_nil ?_
        exact k u9 S9 X9 f9 so9 eo9 ev9 bo9 tu9 new9 h9 tk9 F9 N9 a9 b9 c9 d9 e9 g9' i9
    · exact absurd (I.decr_val hl hke (q := c.fdiv e) (by omega)) (by assumption)
    · unfold Stop
      rename Fr h₀ L _ _ => kF
      rename News h₀ L _ _ => kN
      rename BookM _ _ _ _ _ _ => kB
      refine' tail_end (bB := bB) (BB := BB) (new := [_]) hb hl hla hlb hec' hbig hown hbk hln2 B X T Z' hlo lob hE kF rfl rfl rfl kN ?so ?eo ?ev (kB.mono (by omega)) ((I.decr hl hec' hke (q := c.fdiv e) (by omega) (Int.le_refl _) (by omega)).mono (by omega)) ?nn ?nw (fun q hq => hq) htu ?kk
      case so => first | assumption | (refine CtrM.mono ?_ (Nat.le_succ _); assumption)
      case eo => first | assumption | (refine DctM.mono ?_ (Nat.le_succ _); assumption)
      case ev => assumption
      case nn => exact nnOne
      case nw => exact newOne (by omega) (by rename (_ < _ ∧ _) => l9; repeat (first | exact l9 | replace l9 := l9.2))
      case kk =>
        intro u9 S9 X9 f9 so9 eo9 ev9 bo9 tu9 new9 h9 tk9 F9 N9 a9 b9 c9 d9 e9 g9' i9
        refine wpAny_execs_nil ?_
        exact k u9 S9 X9 f9 so9 eo9 ev9 bo9 tu9 new9 h9 tk9 F9 N9 a9 b9 c9 d9 e9 g9' i9
    · exact absurd (I.decr_val hl hke (q := c.fdiv e - 1) (Int.le_refl _)) (by assumption)
    · unfold Stop
      rename Fr h₀ L _ _ => kF
      rename News h₀ L _ _ => kN
      rename BookM _ _ _ _ _ _ => kB
      refine' tail_end (bB := bB) (BB := BB) (new := [_]) hb hl hla hlb hec' hbig hown hbk hln2 B X T Z' hlo lob hE kF rfl rfl rfl kN ?so ?eo ?ev (kB.mono (by omega)) ((I.decr hl hec' hke (q := c.fdiv e - 1) (Int.le_refl _) (by omega) (by omega)).mono (by omega)) ?nn ?nw (fun q hq => hq) htu ?kk
      case so => first | assumption | (refine CtrM.mono ?_ (Nat.le_succ _); assumption)
      case eo => first | assumption | (refine DctM.mono ?_ (Nat.le_succ _); assumption)
      case ev => assumption
      case nn => exact nnOne
      case nw => exact newOne (by omega) (by rename (_ < _ ∧ _) => l9; repeat (first | exact l9 | replace l9 := l9.2))
      case kk =>
        intro u9 S9 X9 f9 so9 eo9 ev9 bo9 tu9 new9 h9 tk9 F9 N9 a9 b9 c9 d9 e9 g9' i9
        refine wpAny_execs_nil ?_
        exact k u9 S9 X9 f9 so9 eo9 ev9 bo9 tu9 new9 h9 tk9 F9 N9 a9 b9 c9 d9 e9 g9' i9
    · unfold Stop
      rename Fr h₀ L _ _ => kF
      rename News h₀ L _ _ => kN
      rename BookM _ _ _ _ _ _ => kB
      refine' tail_end (bB := bB) (BB := BB) (new := [_, _]) hb hl hla hlb hec' hbig hown hbk hln2 B X T Z' hlo lob hE kF rfl rfl rfl kN ?so ?eo ?ev (kB.mono (by omega)) ((I.clear hl hec' hBB hke).mono (by omega)) ?nn ?nw (fun q hq => hq) htu ?kk
      case so => first | assumption | (refine CtrM.mono ?_ (Nat.le_succ _); assumption)
      case eo => first | assumption | (refine DctM.mono ?_ (Nat.le_succ _); assumption)
      case ev => assumption
      case nn => exact nnTwo
      case nw => exact newTwo (by omega) (by rename (_ < _ ∧ _) => l9; repeat (first | exact l9 | replace l9 := l9.2)) (by omega) (by rename (_ < _ ∧ _) => l9; clear l9; rename (_ < _ ∧ _) => l9; repeat (first | exact l9 | replace l9 := l9.2))
      case kk =>
        intro u9 S9 X9 f9 so9 eo9 ev9 bo9 tu9 new9 h9 tk9 F9 N9 a9 b9 c9 d9 e9 g9' i9
        refine wpAny_execs_nil ?_
        exact k u9 S9 X9 f9 so9 eo9 ev9 bo9 tu9 new9 h9 tk9 F9 N9 a9 b9 c9 d9 e9 g9' i9
    · unfold Stop
      rename Fr h₀ L _ _ => kF
      rename News h₀ L _ _ => kN
      rename BookM _ _ _ _ _ _ => kB
      refine' tail_end (bB := bB) (BB := BB) (new := []) hb hl hla hlb hec' hbig hown hbk hln2 B X T Z' hlo lob hE kF rfl rfl rfl kN ?so ?eo ?ev (kB.mono (by omega)) ((I.expire hl).mono (by omega)) ?nn ?nw (fun q hq => hq) htu ?kk
      case so => first | assumption | (refine CtrM.mono ?_ (Nat.le_succ _); assumption)
      case eo => first | assumption | (refine DctM.mono ?_ (Nat.le_succ _); assumption)
      case ev => assumption
      case nn => exact fun p hp => .tail _ hp
      case nw => exact fun p hp => absurd hp List.not_mem_nil
      case kk =>
        intro u9 S9 X9 f9 so9 eo9 ev9 bo9 tu9 new9 h9 tk9 F9 N9 a9 b9 c9 d9 e9 g9' i9
        refine wpAny_execs_nil ?_
        exact k u9 S9 X9 f9 so9 eo9 ev9 bo9 tu9 new9 h9 tk9 F9 N9 a9 b9 c9 d9 e9 g9' i9)
end

/-! ## One turn of the law -/
local macro_rules | `(tactic| walk_at "setItem ref int") => `(tactic| (k_here; k_dflt (refine' clock_set ?pF ?pN ?po ?pd ?_; (case pF => k_asm); (case pN => k_asm); (case po => assumption); (case pd => assumption); k_whole); intro h' F' N'; (try k_sweep)))
local macro_rules | `(tactic| walk_at "subscriptTail") => `(tactic| (k_here; (with_reducible show wpAny _ _ (subscriptTail _ _ (Value.ref _) (Value.int _ _)) _ _ _); k_dflt (first
  | (refine' pick_key ?pN ?pm ?p0 ?p2 ?pl ?pe ?pa ?pb ?_; (case pN => k_asm); (case pm => k_mem); (case p0 => omega); (case p2 => omega); (case pl => assumption); (case pe => assumption); (case pa => assumption); (case pb => assumption); k_whole; intro ky' kt' e' hke' he0' he2' hec' hkl' hg0' hg1'; (rename News _ _ _ _ => N'); (replace N' := newsDrop N'))
  | (refine' pick_step ?pN ?pm ?p0 ?p2 ?pd ?_; (case pN => k_asm); (case pm => k_mem); (case p0 => omega); (case p2 => omega); (case pd => simp only [List.forall_mem_cons, List.not_mem_nil, false_imp_iff, implies_true, and_true]; omega); k_whole; intro d' td' hd0' hd1'; (rename News _ _ _ _ => N'); (replace N' := newsDrop N')))))
local macro_rules | `(tactic| walk_at "execs cons If cons") => `(tactic| refine stop_here ?_)
local macro_rules | `(tactic| walk_at "binaryOp Pow int int") => `(tactic| (k_here; (with_reducible refine pow_int_small ?kb1 ?kb2 ?kb3 ?_); (case kb1 => decide); (case kb2 => decide); (case kb3 => decide)))
section
variable {w : World} {E : Value → Shared → Prop} {s : Shared} {h₀ base : Heap} {L : Nat} {fa : Addr} {u mg mb : Str → Option Value} {outer : List Env}
  {pp : Program} {loose : List Str} {mean : ExcName → Option Value} {Q : Flow → Shared → Prop} {own tups : List (Addr × Obj)}
  {x dx f c' l st std ex ev bk ln : Nat} {t1 t2 t3 t4 : Tok} {qual : Str} {pm ctv : Value} {oc oe so eo evo bo lo : Obj} {vs : Array Value} {qt : Tok} {c BB : Int} {t : Tok} {n n4 : Nat} {S X₁ lenF : Tab} {fB : Book} {b bB be : Nat}
set_option maxHeartbeats 8000000 in
theorem turn {n0 : Int} {nt : Tok} (hb : b ≤ 700) (hbB : bB ≤ 800) (hbe : be ≤ 800) (hev : DctM (PySem.strKind lawProg w) evo (fun _ => none) be) (hBB : 0 ≤ BB) (hBB2 : BB ≤ 500) (hl : LenOk lenF) (hla : ∃ e, lenF (Str.ofString "a") = some e) (hlb : ∃ e, lenF (Str.ofString "b") = some e) (hec' : ∀ k e, lenF k = some e → e ≤ c) (hbig : c < 10 ^ 38)
    (I : Inv lenF c S X₁ fB BB)
    (B : Below callerA base outer h₀) (F : Fr h₀ L s.heap (fun y => if y = Str.ofString "n" then some (.int n0 nt) else lawMap u x ln bk y)) (X : (hd.heap_39 w.params).In h₀) (T : Top pp loose mean mg mb h₀)
    (N : News h₀ L s.heap (core w.params x dx f (L + 1) c' l st std ex ev t1 t2 t3 t4 qual pm ctv oc oe n n4 c t so eo evo ((bk, bo) :: (ln, lo) :: own)))
    (hown : OwnOff own [bk, l, st, ex, ev]) (Z : SOk w x dx f (L + 1) c' l st std ex ev qual oc oe vs qt)
    (hso : CtrM (PySem.strKind lawProg w) 317 std so S b) (heo : DctM (PySem.strKind lawProg w) eo X₁ b)
    (hlo : DctM (PySem.strKind lawProg w) lo lenF 2) (hbo : BookM lawProg w bo tups fB bB) (htu : ∀ q ∈ tups, q ∈ own) (lob : (bk == sysModules) = false)
    (hbk : ev < bk) (hln1 : L + 1 < ln) (hln2 : ln < l)
    (hE : PassesOwn (model lawProg w) (callerA.deeper (lawEnv lawScope L fa)) (lawEnv lawScope L fa) E)
    (k : ∀ c₂ t₂ u' S' X' fB' so' eo' evo' bo' tups' new h' tk, Fr h₀ L h' (lawMap u' x ln bk) → c ≤ c₂ → c₂ ≤ c + 10 ^ 26 → News h₀ L h' (core w.params x dx f (L + 1) c' l st std ex ev t1 t2 t3 t4 qual pm ctv oc oe n n4 c₂ t₂ so' eo' evo' ((bk, bo') :: (ln, lo) :: (new ++ own))) → CtrM (PySem.strKind lawProg w) 317 std so' S' (b + 1) → DctM (PySem.strKind lawProg w) eo' X' (b + 1) → DctM (PySem.strKind lawProg w) evo' (fun _ => none) be → BookM lawProg w bo' tups' fB' (bB + 2) → Inv lenF c₂ S' X' fB' (BB + 4) → (∀ q ∈ tups', q ∈ new ++ tups) → (∀ p ∈ new, bk < p.1 ∧ ∀ y ∈ own, y.1 < p.1) → Q .next { s with heap := h', toks := tk }) :
    wpAny (model lawProg w) (callerA.deeper (lawEnv lawScope L fa)) (execs loopBody (lawEnv lawScope L fa)) Q E s := by
  have Z' := Z
  obtain ⟨hcc, lo1, lo2, lo3, ord, h2d, h2q, h3d⟩ := Z
  have hoff0 : OwnOff own [st, ex, ev] := offAll hown
  have hoff : OwnOff ((bk, bo) :: (ln, lo) :: own) [st, ex, ev] := ownCons (ownLow hoff0 (by omega) (by omega) (by omega)) (by omega) (by omega) (by omega)
  have hoffl : OwnOff ((bk, bo) :: (ln, lo) :: own) [l] := offL hown (by omega) (by omega)
  conv in (occs := *) lawScope => all_goals whnf
  conv in loopBody => whnf
  unfold lawMap at F
  have g1 : 0 ≤ n0.fmod 2 := Int.fmod_nonneg_of_pos _ (by decide)
  have g2 : n0.fmod 2 < 2 := Int.fmod_lt_of_pos _ (by decide)
  have g3 : 0 ≤ (n0.fdiv 16).fmod 8 := Int.fmod_nonneg_of_pos _ (by decide)
  have g4 : (n0.fdiv 16).fmod 8 < 8 := Int.fmod_lt_of_pos _ (by decide)
  have g5 : 0 ≤ (n0.fdiv 3).fmod 4 := Int.fmod_nonneg_of_pos _ (by decide)
  have g6 : (n0.fdiv 3).fmod 4 < 4 := Int.fmod_lt_of_pos _ (by decide)
  have g7 : 0 ≤ (n0.fdiv 2).fmod 8 := Int.fmod_nonneg_of_pos _ (by decide)
  have g8 : (n0.fdiv 2).fmod 8 < 8 := Int.fmod_lt_of_pos _ (by decide)
  have g11 : 0 ≤ (n0.fdiv 128).fmod (10 ^ Int.toNat 25) := Int.fmod_nonneg_of_pos _ (by decide)
  have g12 : (n0.fdiv 128).fmod (10 ^ Int.toNat 25) < 10 ^ 25 := Int.fmod_lt_of_pos _ (by decide)
  w_top off
  w_strict (
    (try k_fold)
    k_steps
    unfold Stop
    rename Fr h₀ L _ _ => kF
    rename News h₀ L _ _ => kN
    rename (_ < _ ∧ _) => l9
    unfold Addr at l9
    show wpAny _ _ (execs _ _) _ _ _
    refine' turn_tail ?h1 ?h2 ?h3 ?h4 ?h5 ?h6 hb hbB hbe hev hBB hBB2 hl hla hlb ?hec ?hbig (I.later hl ?hc) B kF X T (newsUncore ?hs (newsCore (newsSkip kN))) hown ?q1 ?q2 Z' hso heo hlo hbo htu lob hbk hln1 hln2 hE ?kk
    case h1 => assumption
    case h2 => assumption
    case h3 => omega
    case h4 => omega
    case h5 => assumption
    case h6 => assumption
    case hec => intro k9 e9 hk9; have := hec' k9 e9 hk9; omega
    case hbig => omega
    case hc => omega
    case hs => intro p hp; exact dropTwo p hp
    case q1 => omega
    case q2 => omega
    case kk =>
      intro u9 S9 X9 f9 so9 eo9 ev9 bo9 tu9 new9 h9 tk9 F9 N9 a9 b9 c9 d9 e9 g9' i9
      exact k _ _ u9 S9 X9 f9 so9 eo9 ev9 bo9 tu9 new9 h9 tk9 F9 (by omega) (by omega) N9 a9 b9 c9 d9 e9 g9' i9)
end

/-! ## The loop over the script -/
theorem sepGrow {it new ow : List (Addr × Obj)} {pre : List Addr} (h : OwnOff it (pre ++ ow.map (·.1))) (h2 : ∀ p ∈ new, ∀ y ∈ it, y.1 < p.1) : OwnOff it (pre ++ (new ++ ow).map (·.1)) := by
  intro p hp b hb
  rcases List.mem_append.mp hb with hb | hb
  · exact h p hp b (List.mem_append_left _ hb)
  · rw [List.map_append] at hb
    rcases List.mem_append.mp hb with hb | hb
    · obtain ⟨y, hy, rfl⟩ := List.mem_map.mp hb
      exact Nat.ne_of_lt (h2 y hy p hp)
    · exact h p hp b (List.mem_append_right _ hb)
section
variable {w : World} {E : Value → Shared → Prop} {s : Shared} {h₀ base : Heap} {L : Nat} {fa : Addr} {u mg mb : Str → Option Value} {outer : List Env}
  {pp : Program} {loose : List Str} {mean : ExcName → Option Value} {Q : Flow → Shared → Prop} {own tups : List (Addr × Obj)}
  {x dx f c' l st std ex ev bk ln : Nat} {t1 t2 t3 t4 : Tok} {qual : Str} {pm ctv : Value} {oc oe so eo evo bo lo : Obj} {vs : Array Value} {qt : Tok} {c BB : Int} {t : Tok} {n n4 : Nat} {S X₁ lenF : Tab} {fB : Book} {b bB be : Nat}
def OutJ (w : World) (L x dx f c' l st std ex ev bk ln : Nat) (t1 t2 t3 t4 : Tok) (qual : Str) (pm ctv : Value) (oc oe lo : Obj) (c₀ : Int) (n n4 be : Nat) (lenF : Tab) (tb : List (Addr × Obj)) (q : Addr × Obj) (i : Nat) (m : Str → Option Value) (nx : List (Addr × Obj)) : Prop :=
  ∃ u S X so eo evo bo fB tups own c t, m = lawMap u x ln bk ∧ nx = q :: core w.params x dx f (L + 1) c' l st std ex ev t1 t2 t3 t4 qual pm ctv oc oe n n4 c t so eo evo ((bk, bo) :: (ln, lo) :: own) ∧ CtrM (PySem.strKind lawProg w) 317 std so S i ∧ DctM (PySem.strKind lawProg w) eo X i ∧ DctM (PySem.strKind lawProg w) evo (fun _ => none) be ∧ BookM lawProg w bo tups fB (2 * i) ∧ Inv lenF c S X fB (4 * (i : Int)) ∧ (∀ t ∈ tups, t ∈ own) ∧ (∀ t ∈ tb, t ∈ own) ∧ OwnOff own [bk, l, st, ex, ev] ∧ c₀ ≤ c ∧ c ≤ c₀ + (i : Int) * 10 ^ 26
theorem outer_iter {q nn : Nat} {vl : List Value} {tb : List (Addr × Obj)} (htb : ∀ t ∈ tb, t ∈ own) (hlen : vl.length ≤ 100) (hints : ∀ v ∈ vl, ∃ n t, v = .int n t) (hbe : be ≤ 800) (hev : DctM (PySem.strKind lawProg w) evo (fun _ => none) be) (hl : LenOk lenF) (hla : ∃ e, lenF (Str.ofString "a") = some e) (hlb : ∃ e, lenF (Str.ofString "b") = some e) (hec' : ∀ k e, lenF k = some e → e ≤ c) (hbig : c < 10 ^ 37)
    (I : Inv lenF c S X₁ fB 0)
    (B : Below callerA base outer h₀) (F : Fr h₀ L s.heap (lawMap u x ln bk)) (X : (hd.heap_39 w.params).In h₀) (T : Top pp loose mean mg mb h₀)
    (N : News h₀ L s.heap ((q, W.listOf vl.toArray nn) :: core w.params x dx f (L + 1) c' l st std ex ev t1 t2 t3 t4 qual pm ctv oc oe n n4 c t so eo evo ((bk, bo) :: (ln, lo) :: own)))
    (hown : OwnOff own [bk, l, st, ex, ev]) (Z : SOk w x dx f (L + 1) c' l st std ex ev qual oc oe vs qt)
    (hso : CtrM (PySem.strKind lawProg w) 317 std so S 0) (heo : DctM (PySem.strKind lawProg w) eo X₁ 0)
    (hlo : DctM (PySem.strKind lawProg w) lo lenF 2) (hbo : BookM lawProg w bo tups fB 0) (htu : ∀ q ∈ tups, q ∈ own) (lob : (bk == sysModules) = false)
    (hbk : ev < bk) (hln1 : L + 1 < ln) (hln2 : ln < l) (hq : bk < q)
    (hE : PassesOwn (model lawProg w) (callerA.deeper (lawEnv lawScope L fa)) (lawEnv lawScope L fa) E)
    (k : ∀ u' h' tk, Fr h₀ L h' u' → News h₀ L h' tb → Q .next { s with heap := h', toks := tk }) :
    wpAny (model lawProg w) (callerA.deeper (lawEnv lawScope L fa)) (pyIter (.ref q)) (fun it s₂ => LoopAtV lawProg w (callerA.deeper (lawEnv lawScope L fa)) h₀ (lawEnv lawScope L fa) (Str.ofString "n") loopBody Q E it s₂) E s := by
  have ord := Z.ord
  refine iter_gen (vs := vl) (fun i => OutJ w L x dx f c' l st std ex ev bk ln t1 t2 t3 t4 qual pm ctv oc oe lo c n n4 be lenF tb (q, W.listOf vl.toArray nn) i) rfl (.head _) F N ⟨u, S, X₁, so, eo, evo, bo, fB, tups, own, c, t, rfl, rfl, hso, heo, hev, hbo, I, htu, htb, hown, Int.le_refl _, by omega⟩ ?_ ?_
  · rintro i v m₁ news₁ h4 tk4 it hvs hsep hin ⟨u', S', X', so', eo', evo', bo', fB', tups', own', c2, t', rfl, rfl, hs', he', hv', hb', I', ht', htb', ho', hc1, hc2⟩ F1 N1
    obtain ⟨n0, nt, rfl⟩ := hints v (List.mem_of_getElem? hvs)
    have hi : i < 100 := by
      have := (List.getElem?_eq_some_iff.mp hvs).1
      omega
    have hoT : OwnOff ((q, W.listOf vl.toArray nn) :: (own' ++ it)) [bk, l, st, ex, ev] := by
      intro p hp y hy
      rcases List.mem_cons.mp hp with rfl | hp
      · simp only [List.mem_cons, List.not_mem_nil, or_false] at hy
        rcases hy with rfl | rfl | rfl | rfl | rfl
        · exact Nat.ne_of_gt (by omega)
        · exact Nat.ne_of_gt (by omega)
        · exact Nat.ne_of_gt (by omega)
        · exact Nat.ne_of_gt (by omega)
        · exact Nat.ne_of_gt (by omega)
      · rcases List.mem_append.mp hp with hp | hp
        · exact ho' p hp y hy
        · refine hsep p hp y ?_
          simp only [List.mem_cons, List.not_mem_nil, or_false] at hy
          simp only [List.map_cons, List.mem_cons]
          rcases hy with rfl | rfl | rfl | rfl | rfl <;> simp
    refine turn (own := (q, W.listOf vl.toArray nn) :: (own' ++ it)) (b := i) (bB := 2 * i) (be := be) (BB := 4 * (i : Int)) (tups := tups') (by omega) (by omega) hbe hv' (by omega) (by omega) hl hla hlb (fun k e hk => Int.le_trans (hec' k e hk) hc1) (by omega) I' B F1 X T (newsUncore (perm_one) (newsCore (by have h9 := N1; simp only [List.cons_append] at h9; exact h9))) hoT Z hs' he' hlo hb' (fun t ht => .tail _ (List.mem_append_left _ (ht' t ht))) lob hbk hln1 hln2 hE ?_
    intro c3 t3' u2 S2 X2 fB2 so2 eo2 evo2 bo2 tups2 new h5 tk5 F5 hc3 hc4 N5 hs5 he5 hv5 hb5 I5 ht5 hn5
    show InvEndG _ _ _ _ _ _
    refine InvEndG.intro (nx := (q, W.listOf vl.toArray nn) :: core w.params x dx f (L + 1) c' l st std ex ev t1 t2 t3 t4 qual pm ctv oc oe n n4 c3 t3' so2 eo2 evo2 ((bk, bo2) :: (ln, lo) :: (new ++ own'))) F5 N5 ⟨.head _, u2, S2, X2, so2, eo2, evo2, bo2, fB2, tups2, new ++ own', c3, t3', rfl, rfl, hs5, he5, hv5, hb5, I5, ?_, fun t ht => List.mem_append_right _ (htb' t ht), ?_, by omega, ?_⟩ ?_ ?_ ?_
    · intro t ht
      rcases List.mem_append.mp (ht5 t ht) with h1 | h1
      · exact List.mem_append_left _ h1
      · exact List.mem_append_right _ (ht' t h1)
    · intro p hp y hy
      rcases List.mem_append.mp hp with hp | hp
      · have h1 : bk < p.1 := (hn5 p hp).1
        simp only [List.mem_cons, List.not_mem_nil, or_false] at hy
        rcases hy with rfl | rfl | rfl | rfl | rfl
        · exact Nat.ne_of_gt (by omega)
        · exact Nat.ne_of_gt (by omega)
        · exact Nat.ne_of_gt (by omega)
        · exact Nat.ne_of_gt (by omega)
        · exact Nat.ne_of_gt (by omega)
      · exact ho' p hp y hy
    · rw [show ((i + 1 : Nat) : Int) * 10 ^ 26 = (i : Int) * 10 ^ 26 + 10 ^ 26 by rw [Int.natCast_add, Int.add_mul]; rfl]
      omega
    · exact sepGrow (pre := [q, st, ex, ev, x, dx, f, c', L + 1, l, std, bk, ln]) hsep (fun p hp y hy => (hn5 p hp).2 y (.tail _ (List.mem_append_right _ hy)))
    · intro p hp
      rcases List.mem_cons.mp hp with rfl | hp
      · exact core_own (.tail _ (.tail _ (List.mem_append_right new (.head _))))
      · refine core_mono (fun p hp => ?_) p hp
        rcases List.mem_cons.mp hp with rfl | hp
        · exact .head _
        · rcases List.mem_cons.mp hp with rfl | hp
          · exact .tail _ (.head _)
          · refine .tail _ (.tail _ ?_)
            rcases List.mem_append.mp hp with hp | hp
            · exact List.mem_append_left _ hp
            · exact List.mem_append_right new (.tail _ (List.mem_append_left _ hp))
    · exact fun p hp => core_own (.tail _ (.tail _ (List.mem_append_right new (.tail _ (List.mem_append_right _ hp)))))
  · rintro m₁ news₁ h4 tk4 hin ⟨u', S', X', so', eo', evo', bo', fB', tups', own', c2, t', rfl, rfl, hs', he', hv', hb', I', ht', htb', ho', hc1, hc2⟩ F1 N1
    exact k _ _ _ F1 (fun p hp => N1 p (.tail _ (core_own (.tail _ (.tail _ (htb' p hp))))))
end

/-! ## The law -/
section
variable {M : Model} {A : Around} {E : Value → Shared → Prop} {s : Shared} {h₀ : Heap} {L : Addr} {m : Str → Option Value} {news : List (Addr × Obj)}
def JoinAny (h₀ : Heap) (L : Addr) (m : Str → Option Value) (news : List (Addr × Obj)) (s : Shared) (v : Value) (s' : Shared) : Prop := ∃ z t h' tk, v = .int z t ∧ Fr h₀ L h' m ∧ News h₀ L h' news ∧ s' = { s with heap := h', toks := tk }
theorem join_any {T : Sem Value} {Q : Value → Shared → Prop} (_F : Fr h₀ L s.heap m) (_N : News h₀ L s.heap news)
    (h1 : wpAny M A T (JoinAny h₀ L m news s) E s)
    (h2 : ∀ z t h' tk, Fr h₀ L h' m → News h₀ L h' news → Q (.int z t) { s with heap := h', toks := tk }) : wpAny M A T Q E s :=
  wpAny_mono h1 (fun v s' z => by obtain ⟨z, t, h', tk, rfl, F', N', rfl⟩ := z; exact h2 z t h' tk F' N') fun _ _ e => e
theorem newsOf {h : Heap} {ns ns' : List (Addr × Obj)} (N : News h₀ L h ns) (hs : ∀ p ∈ ns', p ∈ ns) : News h₀ L h ns' := fun p hp => N p (hs p hp)
theorem lawPerm {a1 a2 a3 a4 a5 a6 a7 a8 a9 b1 b2 b3 b4 b5 b6 b7 b8 : Addr × Obj} : ∀ p ∈ [a1, b1, b3, b2, b6, b7, b8, a9, a6, b5, b4, a4, a5, a7, a8], p ∈ [a1, a2, a3, a4, b2, b3, b1, b4, b6, b7, b8, a9, b5, a5, a6, a7, a8] := by
  intro p hp
  simp only [List.mem_cons, List.not_mem_nil, or_false] at hp ⊢
  rcases hp with h | h | h | h | h | h | h | h | h | h | h | h | h | h | h <;> simp [h]
theorem offTwo {a b bk l st ex ev : Nat} {o1 o2 : Obj} (ha : a < l) (hb : b < l) (h1 : l < st) (h2 : st < ex) (h3 : ex < ev) (h4 : ev < bk) : OwnOff ([(a, o1), (b, o2)] : List (Addr × Obj)) [bk, l, st, ex, ev] := by
  intro p hp y hy
  simp only [List.mem_cons, List.not_mem_nil, or_false] at hp hy
  rcases hp with rfl | rfl <;> rcases hy with rfl | rfl | rfl | rfl | rfl <;> exact Nat.ne_of_lt (by omega)
theorem law_none (v : List Int) : ∀ cls, PySem.Challenge.rw_bn0040_01.row.claim.raises [ofPy (PyData.list (List.map PyData.int v))] cls = false :=
  raisesW_false (by wrow_none_raised)
theorem law_post (v : List Int) : PySem.Challenge.rw_bn0040_01.row.claim.post [ofPy (PyData.list (List.map PyData.int v))] (.bool true) [ofPy (PyData.list (List.map PyData.int v))] = true := by
  wrow_post
def lenTab (ea eb : Int) : Tab := fun k => if k = Str.ofString "a" then some ea else if k = Str.ofString "b" then some eb else none
theorem lenMk {w : World} {o : Obj} {ea eb : Int} {ta tb : Tok} (hd : o.IsDictOf (PySem.strKind lawProg w) [(Str.ofString "a", .int ea ta), (Str.ofString "b", .int eb tb)]) : DctM (PySem.strKind lawProg w) o (lenTab ea eb) 2 := by
  refine ⟨⟨_, hd, ?_, ?_, Nat.le_refl _⟩⟩
  · intro p hp
    simp only [List.mem_cons, List.not_mem_nil, or_false] at hp
    rcases hp with rfl | rfl
    · exact ⟨_, _, rfl⟩
    · exact ⟨_, _, rfl⟩
  · funext k
    unfold iat lenTab valueAt
    by_cases h1 : k = Str.ofString "a"
    · subst h1; simp [toInt]
    · by_cases h2 : k = Str.ofString "b"
      · subst h2; simp [toInt, h1, Ne.symm h1]
      · simp [toInt, h1, h2, Ne.symm h1, Ne.symm h2]
theorem lenTab_ok {ea eb : Int} (h1 : 0 < ea) (h2 : ea ≤ 51) (h3 : 0 < eb) (h4 : eb ≤ 51) : LenOk (lenTab ea eb) := ⟨fun k e h => by
  unfold lenTab at h
  split at h
  · rename_i hk
    cases h
    exact ⟨h1, h2, .inl hk⟩
  · split at h
    · rename_i hk
      cases h
      exact ⟨h3, h4, .inr hk⟩
    · cases h⟩
theorem Inv.init {len : Tab} {c : Int} : Inv len c (fun _ => none) (fun _ => none) (fun _ => none) 0 :=
  fun k e hk q hq => ⟨rfl, Int.le_refl _, Int.le_refl _, fun _ => rfl, fun h => absurd h (Int.lt_irrefl 0)⟩
theorem noSys {d : Nat} (h : 2 ≤ d) : (d == sysModules) = false := by
  rw [beq_eq_false_iff_ne]
  intro e
  rw [e] at h
  exact absurd h (by decide)
theorem ints_out {vl : List Value} {ns : List Int} (h : IntsAre vl ns) : ∀ v ∈ vl, ∃ n t, v = .int n t := by
  induction h with
  | nil => exact fun v hv => absurd hv List.not_mem_nil
  | cons n t _ ih =>
    intro v hv
    rcases List.mem_cons.mp hv with rfl | hv
    · exact ⟨n, t, rfl⟩
    · exact ih v hv
theorem ints_len {vl : List Value} {ns : List Int} (h : IntsAre vl ns) : vl.length = ns.length := by
  induction h with
  | nil => rfl
  | cons n t _ ih => rw [List.length_cons, List.length_cons, ih]
theorem ints_short {vl : List Value} {ns : List Int} (h : IntsAre vl (List.take (Min.min 11 ns.length - 1) (List.drop 1 ns) ++ [0, 1, 17])) : vl.length ≤ 100 := by
  rw [ints_len h, List.length_append, List.length_take]
  show _ + 3 ≤ 100
  omega
end
local macro_rules | `(tactic| walk_at "call ref") => `(tactic| (k_here; (with_reducible show wpAny _ _ (call (Value.ref 440) _) _ _ _); k_dflt (refine' store_call ?qc ?qB ?qF ?qX ?qT ?qA ?qf ?qk ?qh ?qr ?qN ?_; (case qc => k_asm); (case qB => k_asm); (case qF => k_asm); (case qX => k_asm); (case qT => k_asm); (case qA => exact Around.frames_deeper (Below.stack (by assumption))); (case qf => exact rfl); (case qk => exact rfl); (case qh => first | rfl | assumption); (case qr => k_room); (case qN => k_asm); k_whole; intro d' x' std' st' ex' ev' t1' t2' t3' t4' n4' eo' evo' h' tk' F' N' he' hv' l1 l2 l3 l4 l5 l6 l7; (try k_lt l1); (try k_sweep))))
local macro_rules | `(tactic| walk_at "exec For") => `(tactic| refine stop_here ?_)
local macro_rules | `(tactic| walk_at "eval IfExp") => `(tactic| refine stop_here ?_)
local macro_rules | `(tactic| walk_at "pyIter ref") => `(tactic| refine stop_here ?_)
set_option maxHeartbeats 8000000 in
theorem the_law : PySem.Challenge.rw_bn0040_01.Holds := hd (by
  w_top off
  w_strict (k_go0; (all_goals try k_fold); (all_goals rename World => w); (all_goals have hcc : CtrCls (hd.heap_39 w.params) 317 := ⟨by k_is, by k_is⟩); k_steps
            unfold Stop
            rename Fr _ _ _ _ => F9
            rename News _ _ _ _ => N9
            refine join_any F9 N9 (IfExp_ ?_) ?_
            · k_steps
              all_goals exact ⟨_, _, _, _, rfl, by assumption, by assumption, rfl⟩
            · intro z9 t9 h9 tk9 F9' N9'
              k_steps
              unfold Stop
              (with_unfolding_all refine' For_invVF (hE := ?kE) (by assumption) ?k1 ?k2 ?_; (case kE => passes_own); (case k1 => exact rfl); (case k2 => exact rfl))
              k_steps
              unfold Stop
              rename Fr _ _ _ _ => kF
              rename News _ _ _ _ => kN
              rename IntsAre _ _ => kI
              rename Obj.IsDictOf _ _ (strPairs _) => kD
              have kL := lenMk kD
              have u1 : 0 ≤ z9.fmod 9 := Int.fmod_nonneg_of_pos _ (by decide)
              have u2 : z9.fmod 9 < 9 := Int.fmod_lt_of_pos _ (by decide)
              have u3 : 0 ≤ (z9.fdiv 9).fmod 50 := Int.fmod_nonneg_of_pos _ (by decide)
              have u4 : (z9.fdiv 9).fmod 50 < 50 := Int.fmod_lt_of_pos _ (by decide)
              have u5 : 0 ≤ (z9.fdiv 450).fmod (10 ^ Int.toNat 30) := Int.fmod_nonneg_of_pos _ (by decide)
              have u6 : (z9.fdiv 450).fmod (10 ^ Int.toNat 30) < 10 ^ 30 := Int.fmod_lt_of_pos _ (by decide)
              have kO := lenTab_ok (ea := 1 + z9.fmod 9) (eb := 2 + (z9.fdiv 9).fmod 50) (by omega) (by omega) (by omega) (by omega)
              have kF' := Eq.mp (congrArg (Fr _ _ _) (lawMap_self rfl rfl rfl)) kF
              refine' outer_iter (be := 0) (own := [_, _]) (fun t ht => ht) (tups := []) (fB := fun _ => none) (S := fun _ => none) (X₁ := fun _ => none) (ints_short kI) (ints_out kI) (Nat.zero_le _) ?hev kO ⟨_, rfl⟩ ⟨_, rfl⟩ ?hec ?hbig Inv.init ?B kF' ?X ?T (newsOf kN lawPerm) ?own ?Z CtrM.new ?eo kL ?bo ?tu ?lob ?bk ?ln1 ?ln2 ?q ?hE ?kk
              case hev => assumption
              case hec => exact fun k e hk => by have := (kO.out k e hk).2.1; omega
              case hbig => omega
              case B => assumption
              case X => assumption
              case T => assumption
              case own => (repeat (rename (_ < _ ∧ _) => l9; obtain ⟨_, _⟩ := l9)); refine offTwo ?_ ?_ ?_ ?_ ?_ ?_ <;> first | assumption | omega
              case eo => assumption
              case bo => exact BookM.new (by assumption)
              case tu => exact fun p hp => absurd hp List.not_mem_nil
              case lob => assumption
              case hE => with_unfolding_all passes_own
              case Z =>
                (repeat (rename (_ < _ ∧ _) => l9; obtain ⟨_, _⟩ := l9))
                refine ⟨hcc, noSys (by omega), noSys (by omega), noSys (by omega), ⟨?_, ?_, ?_, ?_, ?_, ?_, ?_, ?_, ?_⟩, by assumption, by assumption, by assumption⟩ <;> first | assumption | omega
              case bk => (repeat (rename (_ < _ ∧ _) => l9; obtain ⟨_, _⟩ := l9)); assumption
              case ln1 => (repeat (rename (_ < _ ∧ _) => l9; obtain ⟨_, _⟩ := l9)); assumption
              case ln2 => (repeat (rename (_ < _ ∧ _) => l9; obtain ⟨_, _⟩ := l9)); assumption
              case q => (repeat (rename (_ < _ ∧ _) => l9; obtain ⟨_, _⟩ := l9)); assumption
              case kk =>
                intro u9 h9 tk9 F9 N9
                rename Shared.gens _ = #[] => hG9
                (repeat' walk1)
                exact goodW_bool F9 hG9 (law_none _) (law_post _)))

end Mine
theorem PySem.Challenge.cw_bn0040_01_holds : PySem.Challenge.rw_bn0040_01.Holds :=
  Mine.the_law
