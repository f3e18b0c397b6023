import PyProof.Rows.All
import Wide.All
import OpenK.AllK
import Wide.FinOn
import PySem.Challenge.RW_dm0089_02
set_option Elab.async false
set_option maxRecDepth 100000

section
open PySem PySem.W PyProof.Rows
namespace Mine
local macro_rules | `(tactic| k_head) => `(tactic| x_head)
set_option maxRecDepth 100000 in
set_option maxHeartbeats 8000000 in
open_top hd for PySem.Challenge.rw_dm0089_02
end Mine
end

section
open PySem PySem.W PySem.Calls PyProof.Rows Builtin
namespace Mine

abbrev tupOf (vs : List Value) : Obj := { cls := .type "tuple", data := .seq vs.toArray }
/-- a defect's object at birth: no dict yet -/
abbrev excOf0 (C tu : Addr) : Obj := { cls := .ref C, data := .fields #[.ref tu, .none, .none, .none, .bool false, .none] }
/-- a defect's object: class, dict, args -/
abbrev excOf (C dx tu : Addr) : Obj := { cls := .ref C, dict := some dx, data := .fields #[.ref tu, .none, .none, .none, .bool false, .none] }

structure MakesX (M : Model) (h : Heap) (C : Addr) : Prop where
  obj : ∃ oc od cd sl, h.get? C = some ⟨oc, od, .cls cd, sl⟩ ∧ cd.hasDel = false ∧ cd.mro.isEmpty = false
  isT : Looks M h (isType (.ref C)) true
  made : Looks M h (Bind.madeBy (.ref C)) (some "ValueError.__new__")
  base : Looks M h (Bind.staticBase (.ref C)) (.ref C)
  self : Looks M h (isSubtype (.ref C) (.ref C)) true
  val : Looks M h (isSubtype (.ref C) (.type "ValueError")) true
  nA : Looks M h (isSubtype (.ref C) (.type "AttributeError")) false
  nN : Looks M h (isSubtype (.ref C) (.type "NameError")) false
  call : Looks M h (specialOf (.ref C) "__call__") (some (.builtin "type.__call__"))
  typ : Looks M h (isInstance (.ref C) (.type "type")) true

section
variable {prog : Program} {w : World} {A : Around} {C : Addr} {R : Result → Shared → Prop} {h : Heap} {g : Array GenState} {d : Drawn} {t : Nat} {os : OsState}

theorem check_any_args (r : Value) (rest : List Value) (kw : List (Str × Value)) : Bind.checkArgs "ValueError.__new__" ⟨.any, "ValueError", "ValueError", .cls, [⟨"args", .varPos, false⟩, ⟨"kwargs", .varKw, false⟩]⟩ ⟨r :: rest, kw⟩ = pure () := by
  kernel_rfl
set_option maxHeartbeats 4000000 in
theorem new_X {rest : List Value} {kw : List (Str × Value)} (Y : MakesX (model prog w) h C)
    (hq : R (.ok (.ret (.ref (h.objs.size + 1)))) ⟨(h.push (tupOf rest)).push (excOf0 C h.objs.size), g, d, t, os⟩) (hrest : rest.length ≤ sizeLine) :
    codeAny (model prog w) A (.call (.builtin "ValueError.__new__") ⟨.ref C :: rest, kw⟩) R ⟨h, g, d, t, os⟩ := by
  obtain ⟨⟨oc, od, cd, sl, hC, e2, e4⟩, isT, made, base, self, val, nA, nN, call, typ⟩ := Y
  have F := PySem.F.excBase_ValueError
  refine codeAny_call_builtin_code (Code.quiet_builtin _ F.quiet) ?_
  simp only [checkBuiltinCall, F.newKind, F.newSplit, F.newRow]
  rw [check_any_args]
  repeat (first | simp only [bne_self_eq_false, Bool.false_eq_true, if_false] | lk)
  refine codeAny_builtinAt F.entry ?_
  unfold Builtin.«BaseException.__new__»
  refine PySem.wpAt_bind ?_
  show PySem.wpAt _ _ _ (stack >>= _) _ _ _
  refine PySem.wpAt_bind (PySem.wpAt_stack fun p below => PySem.wpAt_of_wpAny ?_)
  have hends := F.ends
  wp_walk
  refine PySem.wpAt_of_wpAny ?_
  rw [F.owner]
  have here : Looks (model prog w) h (Bind.madeHere "BaseException.__new__" (.ref C)) () := base.andThen (made.andThen (Looks.of_pure (by simp only [Option.map_some, F.canon, bne_self_eq_false, Bool.false_eq_true, if_false])))
  repeat (first | simp only [Bool.not_true, Bool.false_eq_true, if_false] | lk)
  rw [if_neg (by rw [List.size_toArray]; omega)]
  refine wpAny_bind (wpAny_alloc (wpAny_pure (wpAny_bind ?_)))
  show wpAny _ _ (newObjAsIs _ _ _) _ _ _
  unfold newObjAsIs classHasDel
  refine wpAny_bind (wpAny_alloc (wpAny_bind (wpAny_bind (wpAny_load (Heap.get?_push_of_some _ (Heap.get?_push_of_some _ hC)) (wpAny_pure ?_)))))
  rw [e2]
  refine wpAny_pure (wpAny_pure ?_)
  show R _ _
  rw [Heap.size_push]
  exact hq

set_option maxHeartbeats 4000000 in
theorem make_X {rest : List Value} {kw : List (Str × Value)} {init : Value} (Y : MakesX (model prog w) h C) (hi : Looks (model prog w) h (typeLookup (.ref C) "__init__") (some init))
    (hb : ∀ self, Looks (model prog w) h (bindSpecial init self) (init, [self])) (hrest : rest.length ≤ sizeLine)
    (hq : codeAny (model prog w) (A.under (.builtin "type.__call__" ⟨.ref C :: rest, kw⟩)) (.call init ⟨.ref (h.objs.size + 1) :: rest, kw⟩) (InitBack (h.objs.size + 1) R) ⟨(h.push (tupOf rest)).push (excOf0 C h.objs.size), g, d, t, os⟩) :
    codeAny (model prog w) A (.call (.ref C) ⟨rest, kw⟩) R ⟨h, g, d, t, os⟩ := by
  have Y' := Y
  obtain ⟨⟨oc, od, cd, sl, hC, e2, e4⟩, isT, made, base, self, val, nA, nN, call, typ⟩ := Y
  refine codeAny_of_tree ?_
  show wpAny _ _ (callAny (.ref C) _) _ _ _
  refine nd_load hC ?_
  show wpAny _ _ (callAny.viaDunder (.ref C) _) _ _ _
  unfold callAny.viaDunder
  refine wpAny_bind (call.at ?_)
  dsimp only
  rw [tc_bind]
  refine wpAny_bind (wpAny_pure (wpAny_bind (wpAny_pure ?_)))
  refine wpAny_pure (a := Fin.again (.call (.builtin "type.__call__") ⟨.ref C :: rest, kw⟩)) (And.intro rfl ?_)
  refine codeAny_call_builtin_at (Code.quiet_builtin _ (by decide +kernel)) entry_typeCall (check_slot tc_kind tc_split typ (tc_args _ _ _) ?_)
  unfold Builtin.«type.__call__»
  have hm : Looks (model prog w) h (mroOf (.ref C)) cd.mro := ((Looks.ld (part := none) hC).andThen .now).andThen .now
  repeat (first | simp only [e4, Bool.false_eq_true, if_false] | with_reducible refine wpAny_call ?_ | lk)
  refine new_X Y' ?_ hrest
  have k : ∀ b o, h.get? b = some o → ((h.push (tupOf rest)).push (excOf0 C h.objs.size)).get? b = some o := fun b o e => Heap.get?_push_of_some _ (Heap.get?_push_of_some _ e)
  have hx : ((h.push (tupOf rest)).push (excOf0 C h.objs.size)).get? (h.objs.size + 1) = some (excOf0 C h.objs.size) := by heap_get
  have t1 : Looks (model prog w) ((h.push (tupOf rest)).push (excOf0 C h.objs.size)) (typeOf (.ref (h.objs.size + 1))) (.ref C) := (Looks.ld hx).andThen .now
  have s1 := self.keeps k
  have i1 := hi.keeps k
  have b1 := (hb (.ref (h.objs.size + 1))).keeps k
  unfold isInstance callSpecial? specialOf
  repeat (first | with_reducible refine wpAny_call ?_ | lk)
  refine codeAny_mono hq fun r s' z => ?_
  rcases r with e | (v | _ | _ | _) <;> first | exact z | exact z.elim | skip
  obtain ⟨rfl, z⟩ := z
  exact wpAny_pure (wpAny_pure z)
end
end Mine
end

section
open PySem PySem.W PySem.Calls PyProof.Rows Builtin Builtin.ObjectAttr
namespace Mine

theorem bga_slot : Slot "BaseException" "__getattribute__" "BaseException.__getattribute__" := .of (owner := "BaseException") (n := "__getattribute__") (by rw [typeLookup_type, builtinLookup_eq_fast]; kernel_rfl) (by decide +kernel) (by decide +kernel) (by decide +kernel)
  (by first | exact .inl (by decide +kernel) | exact .inr (by decide +kernel)) (by rw [isSubtype_type]; kernel_rfl)
theorem bga_entry : entryFor table "BaseException.__getattribute__" = some Builtin.«object.__getattribute__» := entryFor_alias (id' := "object.__getattribute__") (by rw [fastTable_eq_tree]; kernel_rfl) (by first | rfl | decide +kernel) (by decide +kernel) (by rw [fastTable_eq_tree]; kernel_rfl)
theorem bga_kind : builtinKind "BaseException.__getattribute__" = some .slot := by decide +kernel
theorem bga_split : splitId "BaseException.__getattribute__" = some ("BaseException", "__getattribute__") := by decide +kernel
theorem bga_args (o a : Value) : argsOk "BaseException.__getattribute__" ⟨[o, a], []⟩ := by unfold argsOk; kernel_rfl

section
variable {prog : Program} {w : World} {A : Around} {E : Value → Shared → Prop} {s : Shared} {K : Frag} {x C : Addr} {ox : Obj} {od : Option Obj} {name : Str} {expr : Bool} {Q : Value → Shared → Prop}

theorem get_excO (X : K.In s.heap) (I : InstAt s.heap x ox C od) (hga : findIn K (.ref C) "__getattribute__" = some (some (.builtin "BaseException.__getattribute__")))
    (hgn : findIn K (.ref C) "__getattr__" = some none) (sub : mroIn K C (.type "BaseException") = some true)
    (h : wpAny (model prog w) A.in1 (Builtin.«object.__getattribute__» ⟨[.ref x, .str name s.toks], []⟩)
      (fun fin s' => match fin with | .done (.ret v) => wpAny (model prog w) A (handedOut v) Q E s' | _ => False) (fun _ _ => False) { s with toks := s.toks + 1 }) :
    wpAny (model prog w) A (getAttr (.ref x) name expr) Q E s := by
  obtain ⟨hh, g, d, t, os⟩ := s
  have L0 := I.type (M := model prog w)
  have L1 := looks_findIn (M := model prog w) X hga
  have L2 := looks_findIn (M := model prog w) X hgn
  have L3 : Looks (model prog w) hh (isInstance (.ref x) (.type "BaseException")) true := L0.andThen (looks_mroIn X sub)
  unfold getAttr getAttrBy
  refine wpAny_bind (wpAny_mkText (wpAny_holding (wpAny_bind (L0.at (wpAny_bind (L1.at ?_))))))
  show wpAny _ _ (getAttrByItsOwn (.ref x) (.str name t) (.ref C) (.builtin "BaseException.__getattribute__") true expr) _ _ _
  unfold getAttrByItsOwn
  have hb : hookBefore (.ref C) = typeLookup (.ref C) "__getattr__" := rfl
  rw [hb]
  refine wpAny_bind (L2.at ?_)
  refine wpAny_bind (wpAny_attempt (wpAny_holding ?_))
  have e : callGetattribute (.ref x) (.str name t) (.builtin "BaseException.__getattribute__") expr = boundAndCalled (.builtin "BaseException.__getattribute__") (.ref x) (.str name t) := by
    unfold callGetattribute; cases expr <;> rfl
  rw [e]
  unfold boundAndCalled
  refine wpAny_bind (wpAny_of_eq (bga_slot.bind _) ?_)
  dsimp only [List.cons_append, List.nil_append]
  refine wpAny_call (codeAny_call_builtin bga_slot.plain bga_entry (@check_slot (model prog w) _ _ _ "BaseException.__getattribute__" "BaseException" "__getattribute__" (.ref x) [.str name t] [] _ bga_kind bga_split L3 (bga_args _ _) ?_))
  refine wpAny_mono h (fun fin s' z => ?_) fun _ _ z => z.elim
  rcases fin with (_ | _ | _ | v) | _ <;> first | exact z.elim | skip
  exact z

theorem get_excV {v : Value} (X : K.In s.heap) (I : InstAt s.heap x ox C od) (hga : findIn K (.ref C) "__getattribute__" = some (some (.builtin "BaseException.__getattribute__")))
    (hgn : findIn K (.ref C) "__getattr__" = some none) (sub : mroIn K C (.type "BaseException") = some true) (hf : findObj K C od name = some (.value v)) (hh : handedIn v = true)
    (h : Q v { s with toks := s.toks + 1 }) : wpAny (model prog w) A (getAttr (.ref x) name expr) Q E s := by
  refine get_excO X I hga hgn sub ?_
  obtain ⟨hh', g, d, t, os⟩ := s
  have L0 := I.type (M := model prog w)
  have L1 := looks_find (M := model prog w) X I hf
  refine wpAny_bind (wpAny_pure (wpAny_bind (wpAny_pure (wpAny_bind (L0.at (wpAny_bind (L1.at ?_)))))))
  refine wpAny_pure ?_
  show wpAny _ _ (handedOut v) _ _ _
  rw [handedOut_of hh]; exact wpAny_pure h
end

/-- own classes, then ValueError's line -/
def overVal : List Value → Bool
  | .ref _ :: r => overVal r
  | l => l == [.type "ValueError", .type "Exception", .type "BaseException", .type "object"]
theorem overVal_pass (self : Value) : ∀ {l : List Value}, overVal l = true → refuseLoop self "__setattr__" l = pure ()
  | .ref c :: r, e => by rw [refuseLoop_ref]; exact overVal_pass self (by simpa [overVal] using e)
  | [], e => by simp [overVal] at e
  | .type n :: r, e => by
    have : (Value.type n :: r) = [.type "ValueError", .type "Exception", .type "BaseException", .type "object"] := by simpa [overVal] using e
    rw [this]; exact PySem.F.store_ValueError.passes self
  | .none :: r, e => by simp [overVal] at e
  | .ellipsis :: r, e => by simp [overVal] at e
  | .notImplemented :: r, e => by simp [overVal] at e
  | .bool _ :: r, e => by simp [overVal] at e
  | .int _ _ :: r, e => by simp [overVal] at e
  | .float _ _ :: r, e => by simp [overVal] at e
  | .str _ _ :: r, e => by simp [overVal] at e
  | .bytes _ _ :: r, e => by simp [overVal] at e
  | .builtin _ :: r, e => by simp [overVal] at e
theorem overVal_has : ∀ {l : List Value}, overVal l = true → l.contains (.type "object") = true
  | .ref c :: r, e => by rw [List.contains_cons, overVal_has (l := r) (by simpa [overVal] using e), Bool.or_true]
  | [], e => by simp [overVal] at e
  | .type n :: r, e => by
    have : (Value.type n :: r) = [.type "ValueError", .type "Exception", .type "BaseException", .type "object"] := by simpa [overVal] using e
    rw [this]; decide
  | .none :: r, e => by simp [overVal] at e
  | .ellipsis :: r, e => by simp [overVal] at e
  | .notImplemented :: r, e => by simp [overVal] at e
  | .bool _ :: r, e => by simp [overVal] at e
  | .int _ _ :: r, e => by simp [overVal] at e
  | .float _ _ :: r, e => by simp [overVal] at e
  | .str _ _ :: r, e => by simp [overVal] at e
  | .bytes _ _ :: r, e => by simp [overVal] at e
  | .builtin _ :: r, e => by simp [overVal] at e

section
variable {prog : Program} {w : World} {A : Around} {K : Frag} {C x : Addr} {s : Shared} {R : Result → Shared → Prop}
theorem osa_openX {ox : Obj} {od : Option Obj} {name : Str} {tk : Tok} {v : Value} {r : Option Value} {cd : ClassData} (X : K.In s.heap) (I : InstAt s.heap x ox C od) (hc : clsIn K C = some cd) (ho : overVal cd.mro = true) (ht : takerIn K C name = some r)
    (h : ∀ b, wpAny (model prog w) A.in1 (match r with | some a => setByDescriptor a (.ref x) v | none => storeInOwnDict (.ref x) (.ref C) (.str name tk) name v b)
      (fun fin s' => match fin with | .done f => R (.ok f) s' | .again c' => c'.quiet = true ∧ codeAny (model prog w) A c' R s') (fun e s' => R (.error e) s') s) :
    codeAny (model prog w) A (.call (.builtin "object.__setattr__") ⟨[.ref x, .str name tk, v], []⟩) R s := by
  have SF := PySem.F.store_object
  have ne : cd.mro.isEmpty = false := by cases q : cd.mro with | nil => rw [q] at ho; cases ho | cons _ _ => rfl
  have sub : Looks (model prog w) s.heap (isInstance (.ref x) (.type "object")) true := I.type.andThen (looks_mroIn X (by unfold mroIn; rw [hc, Option.bind_some, if_neg (by rw [ne]; decide), overVal_has ho]))
  refine codeAny_call_builtin SF.slot.plain SF.entry (@check_slot (model prog w) _ _ s "object.__setattr__" "object" "__setattr__" (.ref x) [.str name tk, v] [] _ SF.kind SF.split sub (SF.args (.ref x) (.str name tk) v) ?_)
  obtain ⟨attr, ha, hr⟩ := Option.bind_eq_some_iff.mp ht
  have hm : Looks (model prog w) s.heap (mroOf (.ref C)) cd.mro := (looks_clsIn X hc).andThen .now
  have L3 : Looks (model prog w) s.heap (storeTaker? attr) r := by
    cases attr with
    | none => cases hr; exact .now
    | some a =>
      obtain ⟨b, hb, rfl⟩ := Option.map_eq_some_iff.mp hr
      refine (looks_takesIn X hb).andThen ?_
      cases b <;> exact .now
  rw [osa_eq, refuse_eq]
  refine wpAny_bind (wpAny_bind (I.type.here (wpAny_bind (hm.here ?_))))
  rw [overVal_pass _ ho]
  refine wpAny_pure (wpAny_bind (I.type.here (wpAny_bind ((looks_findIn X ha).here (wpAny_bind (L3.here ?_))))))
  exact h _
end
end Mine
end

section
open PySem PySem.W PySem.Calls PyProof.Rows Builtin Builtin.ObjectAttr
namespace Mine
section
variable {prog : Program} {w : World} {A : Around} {K : Frag} {C x : Addr} {s : Shared} {R : Result → Shared → Prop}

theorem storeInDict_ok {dx : Addr} {es es' : List DictEntry} {n n' : Nat} {name : Str} {tk : Tok} {v : Value} {E : Value → Shared → Prop} {Q : Fin → Shared → Prop}
    (D : s.heap.get? dx = some (dictOf es n)) (hl : (getL name es).isSome = true)
    (e : (putL name (PyData.keyHash w.params name) (.str name s.toks) v es, putN name es n) = (es', n')) (hz : es'.length ≤ 1000)
    (h : ∀ h', h'.get? dx = some (dictOf es' n') → Heap.SameBut dx s.heap h' → Q (.done (.ret .none)) { s with heap := h', toks := s.toks + 1 }) :
    wpAny (model prog w) A (storeInDict dx (.str name tk) name v) Q E s := by
  obtain ⟨e1, e2⟩ := Prod.mk.inj e
  have ge : (s.heap.update dx (Obj.putName name (PyData.keyHash w.params name) (.str name s.toks) v)).get? dx = some (dictOf es' n') := by
    have z := putName_dict name (PyData.keyHash w.params name) (.str name s.toks) v es n
    rw [e1, e2] at z
    rw [Heap.get?_update_self _ D (by rw [z]; rfl), z]
  unfold storeInDict
  refine wpAny_bind (wpAny_pure (wpAny_bind ?_))
  unfold nsSet
  refine wpAny_bind (wpAny_bind (wpAny_askSetting (wpAny_pure (wpAny_bind (wpAny_mkText (wpAny_bind (wpAny_loadPart D ?_)))))))
  dsimp only
  have c : (!es.toArray.any (·.key.isStr name) && es.toArray.any (·.refKey)) = false := by
    rw [← Array.any_toList, ← Array.any_toList]
    unfold getL at hl
    split at hl
    · rename_i en he
      rw [List.any_eq_true.mpr ⟨en, List.mem_of_find?_eq_some he, List.find?_some he⟩]; rfl
    · split at hl
      · cases hl
      · rename_i z; rw [Bool.not_eq_true] at z; rw [z, Bool.and_false]
  rw [aRefKeyMayBeTheName_at, c]
  refine wpAny_updatePart D ?_
  refine wpAny_bind (wpAny_lookBehind ge (pastItsLine_dict (by rw [List.size_toArray, sizeLine_eq]; omega)) ?_)
  exact wpAny_pure (h _ ge (Heap.SameBut.update ..))

theorem set_exc1 {dx : Addr} {ox : Obj} {es es' : List DictEntry} {n n' : Nat} {name : Str} {v : Value} {cd : ClassData} {E : Value → Shared → Prop} {Q : Unit → Shared → Prop}
    (X : K.In s.heap) (I : InstAt s.heap x ox C (some (dictOf es n))) (hd : ox.dict = some dx)
    (hs : findIn K (.ref C) "__setattr__" = some (some (.builtin "object.__setattr__"))) (hc : clsIn K C = some cd) (ho : overVal cd.mro = true) (ht : takerIn K C name = some none) (hh : cd.hasDict = true)
    (hl : (getL name es).isSome = true) (e : (putL name (PyData.keyHash w.params name) (.str name (s.toks + 1)) v es, putN name es n) = (es', n')) (hz : es'.length ≤ 1000)
    (h : ∀ h', h'.get? dx = some (dictOf es' n') → Heap.SameBut dx s.heap h' → Q () { s with heap := h', toks := s.toks + 2 }) :
    wpAny (model prog w) A (setAttr (.ref x) name v) Q E s := by
  refine set_plain X I hs (osa_openX (s := { s with toks := s.toks + 1 }) X I hc ho ht fun b => ?_)
  obtain ⟨hx, hcl, hn, D⟩ := I
  obtain ⟨oc, odi, oda, osl⟩ := ox
  dsimp only at hcl hd
  subst hcl hd
  have D : s.heap.get? dx = some (dictOf es n) := D
  unfold storeInOwnDict
  refine wpAny_bind (wpAny_pure (wpAny_bind (wpAny_bind (wpAny_loadPart hx (wpAny_bind ((looks_clsIn (M := model prog w) X hc) _ _ _ _ (fun _ _ e => e) ?_))))))
  rw [hh]
  refine wpAny_pure (a := some dx) ?_
  dsimp only
  refine storeInDict_ok (s := { s with toks := s.toks + 1 }) D hl e hz fun h' g1 g2 => ?_
  exact h h' g1 g2

theorem set_exc0 {ox : Obj} {name : Str} {v : Value} {cd : ClassData} {E : Value → Shared → Prop} {Q : Unit → Shared → Prop}
    (X : K.In s.heap) (I : InstAt s.heap x ox C none)
    (hs : findIn K (.ref C) "__setattr__" = some (some (.builtin "object.__setattr__"))) (hc : clsIn K C = some cd) (ho : overVal cd.mro = true) (ht : takerIn K C name = some none) (hh : cd.hasDict = true)
    (hf : ox.isFreed = false)
    (h : ∀ h', h'.get? x = some { ox with dict := some s.heap.objs.size } → h'.get? s.heap.objs.size = some (dictOf [⟨PyData.keyHash w.params name, .str name (s.toks + 1), v⟩] 1) →
      (∀ b o, b ≠ x → s.heap.get? b = some o → h'.get? b = some o) → Q () { s with heap := h', toks := s.toks + 2 }) :
    wpAny (model prog w) A (setAttr (.ref x) name v) Q E s := by
  refine set_plain X I hs (osa_openX (s := { s with toks := s.toks + 1 }) X I hc ho ht fun b => ?_)
  obtain ⟨hx, hcl, hn, D⟩ := I
  obtain ⟨oc, odi, oda, osl⟩ := ox
  dsimp only at hcl hn D
  subst hcl
  cases odi with
  | some _ => exact D.elim
  | none =>
  have lt := Heap.lt_size hx
  unfold storeInOwnDict
  refine wpAny_bind (wpAny_pure (wpAny_bind (wpAny_bind (wpAny_loadPart hx (wpAny_bind ((looks_clsIn (M := model prog w) X hc) _ _ _ _ (fun _ _ e => e) ?_))))))
  rw [hh]
  have hx1 : (s.heap.push emptyDict).get? x = some ⟨.ref C, none, oda, osl⟩ := Heap.get?_push_of_some _ hx
  have hx2 : ((s.heap.push emptyDict).update x fun o => { o with dict := some s.heap.objs.size }).get? x = some ⟨.ref C, some s.heap.objs.size, oda, osl⟩ := by
    rw [Heap.get?_update_self _ hx1 (by cases oda <;> first | rfl | exact hf)]
  have hd2 : ((s.heap.push emptyDict).update x fun o => { o with dict := some s.heap.objs.size }).get? s.heap.objs.size = some (dictOf [] 0) := by
    rw [Heap.get?_update_other _ _ (Nat.ne_of_lt lt)]
    exact Heap.get?_push_size _ rfl
  have fin : wpAny (model prog w) A.in1 (do
      let d ← alloc { cls := .type "dict", data := .dict #[] }
      update x fun o => { o with dict := some d }
      dictMade (.ref C) x d) (fun a s' => wpAny (model prog w) A.in1 (match a with | some d => storeInDict d (.str name s.toks) name v | none => noDictFor (.ref x) (.ref C) name b)
        (fun fin s' => match fin with | .done f => (match (Except.ok f : Result) with | .ok (.ret _) => Q () s' | .ok _ => False | .error e => E e s') | .again c' => c'.quiet = true ∧ codeAny (model prog w) A c' (fun r s' => match r with | .ok (.ret _) => Q () s' | .ok _ => False | .error e => E e s') s') (fun e s' => E e s') s') (fun e s' => E e s') { s with toks := s.toks + 1 } := by
    refine wpAny_bind (wpAny_alloc (wpAny_bind (wpAny_update (s := { s with toks := s.toks + 1, heap := s.heap.push emptyDict }) hx1 ?_)))
    refine wpAny_pure (a := some s.heap.objs.size) ?_
    dsimp only
    refine storeInDict_ok (s := { s with toks := s.toks + 1, heap := (s.heap.push emptyDict).update x fun o => { o with dict := some s.heap.objs.size } }) hd2 rfl rfl (by simp [putL]) fun h' g1 g2 => ?_
    refine h h' ?_ g1 fun b' o hb e => ?_
    · rw [g2.2 x (Nat.ne_of_lt lt)]; exact hx2
    · rw [g2.2 b' (Nat.ne_of_lt (Heap.lt_size e)), Heap.get?_update_other _ _ (Ne.symm hb)]
      exact Heap.get?_push_of_some _ e
  cases oda <;> first | exact fin | exact Bool.noConfusion hn
end
end Mine
end

section
open PySem PySem.W PySem.Calls PyProof.Rows Builtin Builtin.ObjectAttr
namespace Mine
abbrev mwObj (f self : Value) : Obj := { cls := .type "method-wrapper", data := .fields #[f, self] }
theorem wdg_slot : Slot "wrapper_descriptor" "__get__" "wrapper_descriptor.__get__" := .of (owner := "wrapper_descriptor") (n := "__get__") (by rw [typeLookup_type, builtinLookup_eq_fast]; kernel_rfl) (by decide +kernel) (by decide +kernel) (by decide +kernel)
  (by first | exact .inl (by decide +kernel) | exact .inr (by decide +kernel)) (by rw [isSubtype_type]; kernel_rfl)
theorem wdg_entry : entryFor table "wrapper_descriptor.__get__" = some Builtin.«wrapper_descriptor.__get__» := entryFor_of_tree (by kernel_rfl)
theorem wdg_args (a b c : Value) : argsOk "wrapper_descriptor.__get__" ⟨[a, b, c], []⟩ := by unfold argsOk; kernel_rfl
theorem vi_type : typeOf (.builtin "ValueError.__init__") = pure (.type "wrapper_descriptor") := by kernel_rfl
section
variable {prog : Program} {w : World} {M : Model} {A : Around} {E : Value → Shared → Prop} {h : Heap} {g : Array GenState} {d : Drawn} {t : Nat} {os : OsState} {x C D so : Addr} {K : Frag}
theorem wdg_run {ox : Obj} {od : Option Obj} {Q : Fin → Shared → Prop} (I : InstAt h x ox C od) (hs : Looks (model prog w) h (isSubtype (.ref C) (.type "ValueError")) true)
   (hq : Q (.done (.ret (.ref h.objs.size))) ⟨h.push (mwObj (.builtin "ValueError.__init__") (.ref x)), g, d, t, os⟩) :
   wpAny (model prog w) A (Builtin.«wrapper_descriptor.__get__» ⟨[.builtin "ValueError.__init__", .ref x, .ref C], []⟩) Q E ⟨h, g, d, t, os⟩ := by
  obtain ⟨hx, hc, hn, hd⟩ := I
  unfold Builtin.«wrapper_descriptor.__get__»
  have hs' : Looks (model prog w) h (isSubtype (.ref C) (.type (".".intercalate ("ValueError.__init__".cutAt '.').dropLast))) true := by
    rw [show (".".intercalate ("ValueError.__init__".cutAt '.').dropLast) = "ValueError" from by decide +kernel]; exact hs
  obtain ⟨oc, odd, oda, osl⟩ := ox
  dsimp only at hc
  subst hc
  repeat lk
  exact hq

theorem super_gaB {ox : Obj} {od : Option Obj} {l₀ l : List Value} {name : Str} {tk : Tok} {Q : Fin → Shared → Prop}
    (hso : h.get? so = some { cls := .type "super", dict := none, data := .fields #[.ref D, .ref x, .ref C], slots := #[] }) (hno : Looks (model prog w) h (opaqueClassAbove (.ref C)) none)
    (hC : Looks (model prog w) h (mroOf (.ref C)) l₀) (hl : (l₀.dropWhile (· != .ref D)).drop 1 = l) (X : K.In h)
    (hf : alongIn K name l = some (some (.builtin "ValueError.__init__"))) (I : InstAt h x ox C od) (hs : Looks (model prog w) h (isSubtype (.ref C) (.type "ValueError")) true) (hxC : x ≠ C) (hn : (name == ("__class__" : Str)) = false)
    (hq : Q (.done (.ret (.ref h.objs.size))) ⟨h.push (mwObj (.builtin "ValueError.__init__") (.ref x)), g, d, t, os⟩) :
    wpAny (model prog w) A (Builtin.«super.__getattribute__» ⟨[.ref so, .str name tk], []⟩) Q E ⟨h, g, d, t, os⟩ := by
  have hlk := wdg_slot.lookup
  have hne : (Value.ref x == Value.ref C) = false := by simp [hxC]
  have hTf : (⟨h, g, d, t, os⟩ : Shared).TypeIs (.builtin "ValueError.__init__") "wrapper_descriptor" := by
    first | exact vi_type | exact ⟨_, vi_type⟩
  have hdt : ({ cls := .type "super", dict := none, data := .fields #[.ref D, .ref x, .ref C], slots := #[] } : Obj).data = .fields #[.ref D, .ref x, .ref C] := rfl
  have f0 : (#[.ref D, .ref x, .ref C] : Array Value)[0]? = some (.ref D) := rfl
  have f1 : (#[.ref D, .ref x, .ref C] : Array Value)[1]? = some (.ref x) := rfl
  have f2 : (#[.ref D, .ref x, .ref C] : Array Value)[2]? = some (.ref C) := rfl
  unfold Builtin.«super.__getattribute__»
  repeat (first
    | (with_reducible refine wpAny_field hso hdt f0 ?_) | (with_reducible refine wpAny_field hso hdt f1 ?_) | (with_reducible refine wpAny_field hso hdt f2 ?_)
    | (with_reducible refine ks_wpAny_notOpaque hno ?_)
    | (with_reducible refine Looks.at hC ?_; rw [hl])
    | (refine ks_forIn_along X (fun _ _ => rfl) rfl ?_ hf)
    | (with_reducible refine wpAny_typeOf hTf ?_)
    | (with_reducible refine wpAny_call_entry wdg_slot hTf wdg_entry ?_ (wdg_args _ _ _))
    | (with_reducible refine wdg_run I hs ?_)
    | (with_reducible refine ⟨_, rfl, ?_⟩)
    | (simp only [hn, hne, Bool.or_false, Bool.false_eq_true, if_false])
    | wp_step
    | dsimp only)
  all_goals exact hq

theorem getMethod_superB {ox : Obj} {od : Option Obj} {l₀ l : List Value} {name : Str} {pl : Sem Bool} {Q : Value × List Value → Shared → Prop}
    (hso : h.get? so = some { cls := .type "super", dict := none, data := .fields #[.ref D, .ref x, .ref C], slots := #[] }) (hno : Looks (model prog w) h (opaqueClassAbove (.ref C)) none)
    (hC : Looks (model prog w) h (mroOf (.ref C)) l₀) (hl : (l₀.dropWhile (· != .ref D)).drop 1 = l) (X : K.In h)
    (hf : alongIn K name l = some (some (.builtin "ValueError.__init__"))) (I : InstAt h x ox C od) (hs : Looks (model prog w) h (isSubtype (.ref C) (.type "ValueError")) true) (hxC : x ≠ C) (hn : (name == ("__class__" : Str)) = false)
    (hq : Q (.ref h.objs.size, []) ⟨h.push (mwObj (.builtin "ValueError.__init__") (.ref x)), g, d, t + 1, os⟩) :
    wpAny (model prog w) A (getMethod (.ref so) name pl) Q E ⟨h, g, d, t, os⟩ := by
  have hlk := PySem.F.ks_slot_super_ga.lookup
  have hcan := PySem.F.ks_canon_super_ga
  have hT : ∀ t', (⟨h, g, d, t', os⟩ : Shared).TypeIs (.ref so) "super" := fun _ => ⟨_, hso, rfl⟩
  unfold getMethod
  refine wpAny_bind (wpAny_specialOf (hT _) hlk ?_)
  show wpAny _ _ (if (Manifest.canonical "super.__getattribute__" != "object.__getattribute__") = true then _ else _) _ _ _
  rw [if_pos hcan]
  unfold getAttr getAttrBy
  refine wpAny_bind (wpAny_bind (wpAny_mkText (wpAny_holding (wpAny_bind (wpAny_typeOf (hT _) (wpAny_bind (wpAny_of_eq hlk ?_)))))))
  show wpAny _ _ (getAttrByItsOwn (.ref so) (.str name t) (.type "super") (.builtin "super.__getattribute__") true false) _ _ _
  unfold getAttrByItsOwn hookBefore callGetattribute boundAndCalled
  refine wpAny_bind (wpAny_of_eq (show (if onTheHeap (.type "super") then typeLookup (.type "super") "__getattr__" else pure none) = pure none from rfl) ?_)
  refine wpAny_bind (wpAny_attempt (wpAny_holding ?_))
  show wpAny _ _ (bindSpecial (.builtin "super.__getattribute__") (.ref so) >>= _) _ _ _
  refine wpAny_bind (wpAny_of_eq (PySem.F.ks_slot_super_ga.bind _) ?_)
  refine wpAny_mono (Q := fun v s' => v = .ref h.objs.size ∧ s' = ⟨h.push (mwObj (.builtin "ValueError.__init__") (.ref x)), g, d, t + 1, os⟩) (E := fun _ _ => False)
    (wpAny_call_entry PySem.F.ks_slot_super_ga (hT _) PySem.F.ks_entry_super_ga (super_gaB hso hno hC hl X hf I hs hxC hn ⟨_, rfl, rfl, rfl⟩) (PySem.F.ks_gaArgs_super _ _)) (fun v s' hv => ?_) fun _ _ z => z.elim
  obtain ⟨rfl, rfl⟩ := hv
  exact wpAny_pure (wpAny_pure hq)
end

section
variable {prog : Program} {w : World} {A : Around} {E : Value → Shared → Prop} {s : Shared} {h₀ : Heap} {L : Addr} {m : Str → Option Value} {news news' : List (Addr × Obj)} {K : Frag} {x C D so q : Addr} {ox : Obj} {odx : Option Obj}
theorem methodB {name : Str} {pl : Sem Bool} {Q : Value × List Value → Shared → Prop} (F : Fr h₀ L s.heap m) (X₀ : K.In h₀) (N : News h₀ L s.heap news) (hso : (so, ks_superObj D x C) ∈ news) (I : InstAt s.heap x ox C odx) (ho : nsIn K cStatics "thirdparty.any" = some none)
    (hm : ks_superIn K C D name = some (some (.builtin "ValueError.__init__"))) (hsub : mroIn K C (.type "ValueError") = some true) (hn : (name == ("__class__" : Str)) = false)
    (h : ∀ q h', Fr h₀ L h' m → News h₀ L h' ((q, mwObj (.builtin "ValueError.__init__") (.ref x)) :: news) → (∀ p ∈ news, p.1 < q) → Q (.ref q, []) { s with heap := h', toks := s.toks + 1 }) : wpAny (model prog w) A (getMethod (.ref so) name pl) Q E s := by
  have X : K.In s.heap := X₀.keeps F.keep
  obtain ⟨hh, g, d, t, os⟩ := s
  cases hc : clsIn K C with
  | none => unfold ks_superIn at hm; rw [hc] at hm; cases hm
  | some cd =>
    unfold ks_superIn at hm
    rw [hc] at hm
    refine getMethod_superB (N _ hso).1 (looks_opaque X ho) (l₀ := cd.mro) ?_ rfl X hm I (looks_mroIn X hsub) (ks_ne X I hc) hn ?_
    · exact fun A Q E s k q => wpAny_bind ((looks_clsIn X hc) A _ E s k (wpAny_pure q))
    · obtain ⟨F', N', l'⟩ := ks_newsPush (s := ⟨hh, g, d, t, os⟩) (o := mwObj (.builtin "ValueError.__init__") (.ref x)) F N rfl (Heap.get?_push_at rfl rfl) (fun b o e => Heap.get?_push_of_some _ e)
      exact h _ _ F' N' l'

theorem bexc_init {rest : List Value} {Q : Fin → Shared → Prop} {tu : Addr} {dct : Option Addr} (he : s.heap.get? x = some ⟨.ref C, dct, .fields #[.ref tu, .none, .none, .none, .bool false, .none], #[]⟩) (hr : rest.length ≤ 1000)
    (h : ∀ h', h'.get? x = some ⟨.ref C, dct, .fields #[.ref s.heap.objs.size, .none, .none, .none, .bool false, .none], #[]⟩ → h'.get? s.heap.objs.size = some (tupOf rest) →
      (∀ b o, b ≠ x → s.heap.get? b = some o → h'.get? b = some o) → Q (.done (.ret .none)) { s with heap := h' }) :
    wpAny (model prog w) A (Builtin.«BaseException.__init__» ⟨.ref x :: rest, []⟩) Q E s := by
  unfold Builtin.«BaseException.__init__»
  dsimp only
  rw [if_neg (by simp)]
  unfold newTuple Builtin.BaseException.bexcPut
  have he₁ := Heap.get?_push_of_some (h := s.heap) (tupOf rest) he
  refine wpAny_bind (wpAny_newObj_type (wpAny_bind (wpAny_bind (wpAny_field (i := 0) he₁ rfl rfl (wpAny_bind (wpAny_setField (i := 0) he₁ rfl (by show 0 < 6; decide) ?_))))) (by show rest.toArray.size ≤ sizeLine; rw [List.size_toArray, sizeLine_eq]; omega))
  refine wpAny_letGo (wpAny_pure (h _ ?_ ?_ ?_))
  · rw [Heap.get?_update_self _ he₁ rfl]; rfl
  · rw [Heap.get?_update_other _ _ (Nat.ne_of_lt (Heap.lt_size he))]
    exact Heap.get?_push_size _ rfl
  · intro b o hb e
    rw [Heap.get?_update_other _ _ (Ne.symm hb)]
    exact Heap.get?_push_of_some _ e

theorem vi_bound {rest : List Value} {Q : Unit → Shared → Prop} {oc : Value} {od odx : Option Addr} {cd : ClassData} {sl slx : Array (Option Value)} {dt : Data} {h : Heap} {g : Array GenState} {d : Drawn} {t : Nat} {os : OsState}
    (he : h.get? x = some ⟨.ref C, odx, dt, slx⟩) (hC : h.get? C = some ⟨oc, od, .cls cd, sl⟩) (hq : Q () ⟨h, g, d, t, os⟩) :
    wpAny (model prog w) A (checkBoundCall "ValueError.__init__" ⟨.ref x :: rest, []⟩) Q E ⟨h, g, d, t, os⟩ := by
  have F := PySem.F.excBase_ValueError
  have hshort := F.noStar
  simp only [checkBoundCall, F.initKind, F.initRow]
  repeat lk
  rw [if_neg (by rw [Bool.and_eq_true]; rintro ⟨_, hh⟩; exact absurd hh (by decide))]
  repeat lk
  exact hq

theorem call_mw {rest : List Value} {Q : Value → Shared → Prop} {tu : Addr} {dct : Option Addr} {cd : ClassData} (X : K.In s.heap) (hc : clsIn K C = some cd) (hq : s.heap.get? q = some (mwObj (.builtin "ValueError.__init__") (.ref x)))
    (he : s.heap.get? x = some ⟨.ref C, dct, .fields #[.ref tu, .none, .none, .none, .bool false, .none], #[]⟩) (hr : rest.length ≤ 1000)
    (h : ∀ h', h'.get? x = some ⟨.ref C, dct, .fields #[.ref s.heap.objs.size, .none, .none, .none, .bool false, .none], #[]⟩ → h'.get? s.heap.objs.size = some (tupOf rest) →
      (∀ b o, b ≠ x → s.heap.get? b = some o → h'.get? b = some o) → Q .none { s with heap := h' }) :
    wpAny (model prog w) A (call (.ref q) rest) Q E s := by
  obtain ⟨oc, od, sl, hC⟩ : ∃ oc od sl, s.heap.get? C = some ⟨oc, od, .cls cd, sl⟩ := by
    unfold clsIn at hc
    split at hc
    · rename_i c d cd' sl ho
      cases hc
      exact ⟨_, _, _, X _ _ ho⟩
    · cases hc
  refine wpAny_call (codeAny_of_tree ?_)
  show wpAny _ A.in1 (callAny (.ref q) ⟨rest, []⟩) _ _ _
  unfold callAny
  refine wpAny_bind (wpAny_load hq ?_)
  show wpAny _ _ (checkBoundCall "ValueError.__init__" ⟨.ref x :: rest, []⟩ >>= fun _ => again (.builtin "ValueError.__init__" ⟨.ref x :: rest, []⟩)) _ _ _
  obtain ⟨hh, g, d, t, os⟩ := s
  refine wpAny_bind (vi_bound he hC (wpAny_pure ⟨Code.quiet_builtin _ (by decide +kernel), codeAny_builtin PySem.F.excBase_ValueError.initEntry ?_⟩))
  exact bexc_init (s := ⟨hh, g, d, t, os⟩) he hr h
end
end Mine
end

section
open PySem PySem.W PySem.Calls PyProof.Rows Builtin Builtin.ObjectAttr
namespace Mine
section
variable {prog : Program} {w : World} {A : Around} {E : Value → Shared → Prop} {s : Shared} {h₀ : Heap} {L : Addr} {m : Str → Option Value} {news news' : List (Addr × Obj)} {K : Frag} {x C D so q tu dx : Addr} {o o' ox : Obj} {odx : Option Obj}

theorem upd_ground {h h' : Heap} (F : Fr h₀ L h m) (N : News h₀ L h news) (U : Upd x o o' news news') (gx : h'.get? x = some o') (k : ∀ b o, b ≠ x → h.get? b = some o → h'.get? b = some o) :
    Fr h₀ L h' m ∧ News h₀ L h' news' := by
  obtain ⟨pre, post, rfl, rfl, a, b⟩ := U.split
  have hx := N (x, o) (by simp)
  obtain ⟨oL, es, ep, hL, r⟩ := F.ns
  refine ⟨⟨⟨oL, es, ep, k _ _ (Ne.symm hx.2.1) hL, r⟩, fun b o e => k b o ?_ (F.keep b o e), F.above⟩, fun p hp => ?_⟩
  · rintro rfl
    rw [hx.2.2] at e
    cases e
  · rcases List.mem_append.mp hp with hp | hp
    · have z := N p (List.mem_append.mpr (.inl hp))
      exact ⟨k _ _ (a p hp) z.1, z.2⟩
    · rcases List.mem_cons.mp hp with rfl | hp
      · exact ⟨gx, hx.2⟩
      · have z := N p (List.mem_append.mpr (.inr (.tail _ hp)))
        exact ⟨k _ _ (b p hp) z.1, z.2⟩

theorem more_ground {h h' : Heap} (F : Fr h₀ L h m) (N : News h₀ L h news) (F' : Fr h₀ L h' m) (N' : News h₀ L h' news') (hq : q = h.objs.size) (ho : h'.get? q = some o) :
    News h₀ L h' ((q, o) :: news') ∧ ∀ p ∈ news, p.1 < q := by
  subst hq
  obtain ⟨oL, es, ep, hL, r⟩ := F.ns
  refine ⟨fun p hp => ?_, fun p hp => Heap.lt_size (N p hp).1⟩
  rcases List.mem_cons.mp hp with rfl | hp
  · refine ⟨ho, fun q => ?_, ?_⟩
    · exact absurd (Heap.lt_size hL) (by rw [← q]; exact Nat.lt_irrefl _)
    · cases z : h₀.get? h.objs.size with
      | none => rfl
      | some o => exact absurd (Heap.lt_size (F.keep _ _ z)) (Nat.lt_irrefl _)
  · exact N' p hp

theorem call_excK {Q : Value → Shared → Prop} {pos : List Value} {kw : List (Str × Value)} {fI : Addr} (F : Fr h₀ L s.heap m) (X₀ : K.In h₀) (N : News h₀ L s.heap news) (hm : ∀ h, K.In h → MakesX (model prog w) h C)
    (hi : findIn K (.ref C) "__init__" = some (some (.ref fI))) (hf : isFn K (.ref fI) = true) (hp : pos.length ≤ 1000)
    (h : ∀ x tu h', Fr h₀ L h' m → News h₀ L h' ((x, excOf0 C tu) :: (tu, tupOf pos) :: news) → (∀ p ∈ news, p.1 < tu) → tu < x →
      codeAny (model prog w) (A.under (.builtin "type.__call__" ⟨.ref C :: pos, kw⟩)) (.call (.ref fI) ⟨.ref x :: pos, kw⟩) (InitBack x fun r s' => match r with | .ok (.ret v) => Q v s' | .ok _ => False | .error e => E e s') { s with heap := h' }) :
    wpAny (model prog w) A (call (.ref C) pos kw) Q E s := by
  have X : K.In s.heap := X₀.keeps F.keep
  obtain ⟨hh, g, d, t, os⟩ := s
  refine wpAny_call (make_X (hm _ X) (looks_findIn X hi) (fun self => bind_fn X self (beq_iff_eq.mp hf)) (by rw [sizeLine_eq]; omega) (h _ hh.objs.size _ ((F.push _).push _) ?_ (fun p hp => Heap.lt_size (N p hp).1) (Nat.lt_succ_self _)))
  have := (N.push F (tupOf pos)).push (F.push _) (excOf0 C hh.objs.size)
  rwa [Heap.size_push] at this

theorem set_exc0K {name : Str} {v : Value} {cd : ClassData} {Q : Unit → Shared → Prop} (F : Fr h₀ L s.heap m) (X₀ : K.In h₀) (N : News h₀ L s.heap news) (I : InstAt s.heap x (excOf0 C tu) C none)
    (hs : findIn K (.ref C) "__setattr__" = some (some (.builtin "object.__setattr__"))) (hc : clsIn K C = some cd) (ho : overVal cd.mro = true) (ht : takerIn K C name = some none) (hh : cd.hasDict = true)
    (U : Upd x (excOf0 C tu) (excOf C s.heap.objs.size tu) news news')
    (h : ∀ h', Fr h₀ L h' m → News h₀ L h' ((s.heap.objs.size, dictOf [⟨PyData.keyHash w.params name, .str name (s.toks + 1), v⟩] 1) :: news') → (∀ p ∈ news, p.1 < s.heap.objs.size) → Q () { s with heap := h', toks := s.toks + 2 }) :
    wpAny (model prog w) A (setAttr (.ref x) name v) Q E s := by
  refine set_exc0 (X₀.keeps F.keep) I hs hc ho ht hh rfl fun h' g1 g2 k => ?_
  obtain ⟨F', N'⟩ := upd_ground F N U g1 k
  obtain ⟨N2, l⟩ := more_ground F N F' N' rfl g2
  exact h h' F' N2 l

theorem set_exc1K {name : Str} {v : Value} {cd : ClassData} {Q : Unit → Shared → Prop} {es es' : List DictEntry} {n n' : Nat} (F : Fr h₀ L s.heap m) (X₀ : K.In h₀) (N : News h₀ L s.heap news) (I : InstAt s.heap x (excOf C dx tu) C (some (dictOf es n)))
    (hs : findIn K (.ref C) "__setattr__" = some (some (.builtin "object.__setattr__"))) (hc : clsIn K C = some cd) (ho : overVal cd.mro = true) (ht : takerIn K C name = some none) (hh : cd.hasDict = true)
    (hl : (getL name es).isSome = true) (e : (putL name (PyData.keyHash w.params name) (.str name (s.toks + 1)) v es, putN name es n) = (es', n')) (U : Upd dx (dictOf es n) (dictOf es' n') news news') (hz : es'.length ≤ 1000)
    (h : ∀ h', Fr h₀ L h' m → News h₀ L h' news' → Q () { s with heap := h', toks := s.toks + 2 }) :
    wpAny (model prog w) A (setAttr (.ref x) name v) Q E s := by
  refine set_exc1 (X₀.keeps F.keep) I rfl hs hc ho ht hh hl e hz fun h' g1 k => ?_
  obtain ⟨F', N'⟩ := upd_ground F N U g1 (fun b o hb e => (k.2 b hb).trans e)
  exact h h' F' N'

theorem call_mwK {rest : List Value} {Q : Value → Shared → Prop} {cd : ClassData} (F : Fr h₀ L s.heap m) (X₀ : K.In h₀) (N : News h₀ L s.heap news) (hc : clsIn K C = some cd) (hq : (q, mwObj (.builtin "ValueError.__init__") (.ref x)) ∈ news)
    (U : Upd x (excOf0 C tu) (excOf0 C s.heap.objs.size) news news') (hr : rest.length ≤ 1000)
    (h : ∀ h', Fr h₀ L h' m → News h₀ L h' ((s.heap.objs.size, tupOf rest) :: news') → (∀ p ∈ news, p.1 < s.heap.objs.size) → Q .none { s with heap := h' }) :
    wpAny (model prog w) A (call (.ref q) rest) Q E s := by
  have hx : s.heap.get? x = some (excOf0 C tu) := by
    obtain ⟨pre, post, rfl, rfl, a, b⟩ := U.split
    exact (N (x, excOf0 C tu) (by simp)).1
  refine call_mw (X₀.keeps F.keep) hc (N _ hq).1 hx hr fun h' g1 g2 k => ?_
  obtain ⟨F', N'⟩ := upd_ground F N U g1 k
  obtain ⟨N2, l⟩ := more_ground F N F' N' rfl g2
  exact h h' F' N2 l

theorem inst_exc {h : Heap} {od : Obj} (N : News h₀ L h news) (h1 : (x, excOf C dx tu) ∈ news) (h2 : (dx, od) ∈ news) : InstAt h x (excOf C dx tu) C (some od) := ⟨(N _ h1).1, rfl, rfl, (N _ h2).1⟩
theorem inst_exc0 {h : Heap} (N : News h₀ L h news) (h1 : (x, excOf0 C tu) ∈ news) : InstAt h x (excOf0 C tu) C none := ⟨(N _ h1).1, rfl, rfl, trivial⟩

theorem get_excK {expr : Bool} {Q : Value → Shared → Prop} {v : Value} {attr : Option Value} {es : List DictEntry} {n : Nat} (F : Fr h₀ L s.heap m) (X₀ : K.In h₀) (I : InstAt s.heap x ox C (some (dictOf es n)))
    (hga : findIn K (.ref C) "__getattribute__" = some (some (.builtin "BaseException.__getattribute__")))
    (hgn : findIn K (.ref C) "__getattr__" = some none) (sub : mroIn K C (.type "BaseException") = some true) (hh : hasDictIn K C = true) (ha : findIn K (.ref C) name = some attr) (hn : noGet K attr = true)
    (hl : getL name es = some (some v)) (hv : handedIn v = true) (h : Q v { s with toks := s.toks + 1 }) :
    wpAny (model prog w) A (getAttr (.ref x) name expr) Q E s :=
  get_excV (X₀.keeps F.keep) I hga hgn sub (findObj_own hh ha hn hl) hv h
end
end Mine
end

section
open PySem PySem.W PySem.Calls PyProof.Rows Builtin Builtin.ObjectAttr
namespace Mine
section
variable {prog : Program} {w : World} {A : Around} {E : Value → Shared → Prop} {h : Heap} {g : Array GenState} {d : Drawn} {t : Nat} {os : OsState} {D dd : Addr}
theorem dict_isInst : isSubtype (.type "dict") (.type "dict") = pure true := by rw [isSubtype_type]; kernel_rfl
theorem dict_iterLook : typeLookup (.type "dict") "__iter__" = pure (some (.builtin "dict.__iter__")) := by rw [typeLookup_type, builtinLookup_eq_fast]; kernel_rfl
theorem merge0 {Q : Unit → Shared → Prop} {n n' : Nat} (hD : h.get? D = some (dictOf [] n)) (hdd : h.get? dd = some (dictOf [] n')) (hm : (D == sysModules) = false) (hq : Q () ⟨h, g, d, t, os⟩) :
    wpAny (model prog w) A (mergeMapping dd (.ref D) true) Q E ⟨h, g, d, t, os⟩ := by
  have s1 : Looks (model prog w) h (isSubtype (.type "dict") (.type "dict")) true := Looks.of_pure dict_isInst
  have s2 : Looks (model prog w) h (typeLookup (.type "dict") "__iter__") (some (.builtin "dict.__iter__")) := Looks.of_pure dict_iterLook
  unfold mergeMapping isInstance specialOf
  repeat (first | lk | (rw [hm]; simp only [Bool.false_eq_true, if_false]))
  exact hq
end

section
variable {prog : Program} {w : World} {A : Around} {E : Value → Shared → Prop} {s : Shared} {h₀ : Heap} {L : Addr} {m : Str → Option Value} {news news' : List (Addr × Obj)} {K : Frag} {C D : Addr}

theorem keeps_ground {h h' : Heap} (F : Fr h₀ L h m) (N : News h₀ L h news) (k : ∀ b o, h.get? b = some o → h'.get? b = some o) : Fr h₀ L h' m ∧ News h₀ L h' news := by
  obtain ⟨oL, es, ep, hL, r⟩ := F.ns
  exact ⟨⟨⟨oL, es, ep, k _ _ hL, r⟩, fun b o e => k b o (F.keep b o e), F.above⟩, fun p hp => ⟨k _ _ (N p hp).1, (N p hp).2⟩⟩

theorem list_iterLook : typeLookup (.type "list") "__iter__" = pure (some (.builtin "list.__iter__")) := by rw [typeLookup_type, builtinLookup_eq_fast]; kernel_rfl
theorem tuple_iterLook : typeLookup (.type "tuple") "__iter__" = pure (some (.builtin "tuple.__iter__")) := by rw [typeLookup_type, builtinLookup_eq_fast]; kernel_rfl
theorem evalArgs_star0 {f : Value} {x y : Sem Value} {T : String} {vs : List Value} {n nn : Nat} {Q : Args → Shared → Prop} (hT : T = "list" ∨ T = "tuple")
    (F : Fr h₀ L s.heap m) (N : News h₀ L s.heap news) (hC : (C, (⟨.type T, none, .seq vs.toArray n, #[]⟩ : Obj)) ∈ news) (hD : (D, dictOf [] nn) ∈ news) (hm : (D == sysModules) = false) (hlen : vs.length ≤ 1000)
    (hx : wpAny (model prog w) A x (fun v s₁ => v = .ref C ∧ s₁ = s) E s)
    (hy : ∀ h', Fr h₀ L h' m → ∀ tk, wpAny (model prog w) A y (fun v s₁ => v = .ref D ∧ s₁ = { s with heap := h', toks := tk }) E { s with heap := h', toks := tk })
    (h : ∀ h', Fr h₀ L h' m → News h₀ L h' news → Q ⟨vs, []⟩ { s with heap := h' }) :
    wpAny (model prog w) A (evalArgs f true [(true, x)] [(none, y)]) Q E s := by
  unfold evalArgs
  refine wpAny_bind (wpAny_mono hx (fun v s₁ hv => ?_) fun _ _ z => z)
  obtain ⟨rfl, hs₁⟩ := hv
  subst hs₁
  refine wpAny_bind (wpAny_pure ?_)
  dsimp only
  refine wpAny_holding ?_
  rw [if_neg (by simp)]
  refine wpAny_bind ?_
  unfold mergedKeywords
  refine wpAny_bind (wpAny_alloc (wpAny_bind (wpAny_holding ?_)))
  obtain ⟨F1, N1⟩ := keeps_ground (h' := s₁.heap.push { cls := .type "dict", data := .dict #[] }) F N fun b o e => Heap.get?_push_of_some _ e
  have hdd : (s₁.heap.push { cls := .type "dict", data := .dict #[] }).get? s₁.heap.objs.size = some (dictOf [] 0) := Heap.get?_push_size _ rfl
  repeat lk
  refine wpAny_mono (hy _ F1 s₁.toks) (fun v s₂ hv => ?_) fun _ _ z => z
  obtain ⟨rfl, rfl⟩ := hv
  have hD1 : (s₁.heap.push { cls := .type "dict", data := .dict #[] }).get? D = some (dictOf [] nn) := (N1 _ hD).1
  refine wpAny_bind (wpAny_onRaise (wpAny_holding (wpAny_tryCatch (wpAny_onRaise (merge0 hD1 hdd hm ?_)))))
  have hC1 : (s₁.heap.push { cls := .type "dict", data := .dict #[] }).get? C = some ⟨.type T, none, .seq vs.toArray n, #[]⟩ := (N1 _ hC).1
  obtain ⟨it, hit⟩ : ∃ it, typeLookup (.type T) "__iter__" = pure (some it) := by
    rcases hT with rfl | rfl
    · exact ⟨_, list_iterLook⟩
    · exact ⟨_, tuple_iterLook⟩
  have s2 : Looks (model prog w) (s₁.heap.push { cls := .type "dict", data := .dict #[] }) (typeLookup (.type T) "__iter__") (some it) := Looks.of_pure hit
  have hsz : vs.toArray.size ≤ sizeLine := by rw [List.size_toArray, sizeLine_eq]; omega
  repeat (first | (with_reducible refine wpAny_collect_seq C (o := ⟨.type T, none, .seq vs.toArray n, #[]⟩) hT hC1 rfl rfl (fun h' k => ?_) hsz) | lk)
  have hdd' := k _ _ hdd
  repeat lk
  obtain ⟨F2, N2⟩ := keeps_ground F1 N1 k
  exact h h' F2 N2
end
end Mine
end

section
open PySem PySem.W PySem.Calls PyProof.Rows Builtin Builtin.ObjectAttr
namespace Mine
section
variable {prog : Program} {w : World} {A : Around} {E : Value → Shared → Prop} {s : Shared} {h₀ : Heap} {L : Addr} {m : Str → Option Value} {news news' : List (Addr × Obj)} {K : Frag} {C D q gf : Addr} {self : Value}

theorem callWith_star0 {pos : Pos} {x y : Sem Value} {T : String} {vs : List Value} {n nn : Nat} {Q : Value → Shared → Prop} (hT : T = "list" ∨ T = "tuple")
    (F : Fr h₀ L s.heap m) (X₀ : K.In h₀) (N : News h₀ L s.heap news) (hq : (q, methodObj (.ref gf) self) ∈ news) (hf : fnIn K gf = true)
    (hC : (C, (⟨.type T, none, .seq vs.toArray n, #[]⟩ : Obj)) ∈ news) (hD : (D, dictOf [] nn) ∈ news) (hm : (D == sysModules) = false) (hlen : vs.length ≤ 1000)
    (hx : wpAny (model prog w) A x (fun v s₁ => v = .ref C ∧ s₁ = s) E s)
    (hy : ∀ h', Fr h₀ L h' m → ∀ tk, wpAny (model prog w) A y (fun v s₁ => v = .ref D ∧ s₁ = { s with heap := h', toks := tk }) E { s with heap := h', toks := tk })
    (h : ∀ h', Fr h₀ L h' m → News h₀ L h' news → wpAny (model prog w) A (call (.ref q) vs) Q E { s with heap := h' }) :
    wpAny (model prog w) A (callWith pos (.ref q) [] [(true, x)] [(none, y)]) Q E s := by
  unfold callWith
  refine wpAny_bind (wpAny_holding (evalArgs_star0 hT F N hC hD hm hlen hx hy fun h' F' N' => ?_))
  refine wpAny_bind (wpAny_standAt ?_)
  have X' : K.In h' := X₀.keeps F'.keep
  obtain ⟨k, hk, hl⟩ := keeps_M (M := model prog w) hf h' ⟨(N' _ hq).1, X'⟩
  dsimp only
  refine wpAny_bind (hl _ _ _ _ (fun _ _ e => e) ?_)
  have tail : ∀ {t : Sem Value}, wpAny (model prog w) A t Q E { s with heap := h' } → wpAny (model prog w) A (t >>= fun r => holding [r] point >>= fun _ => pure r) Q E { s with heap := h' } :=
    fun ht => wpAny_bind (wpAny_mono ht (fun r s₂ hr => wpAny_bind (wpAny_holding (wpAny_point (wpAny_pure hr)))) fun _ _ x => x)
  have fin := h h' F' N'
  rcases hk with rfl | rfl | rfl
  · exact tail (by unfold callMarked; exact Calls.wpAny_keep fin)
  · exact tail (wpAny_operate' fin)
  · exact tail (wpAny_operate' fin)
end

section
variable {prog : Program} {w : World} {M : Model} {A : Around} {c : Code} {E : Value → Shared → Prop} {s : Shared} {env : Env}
theorem wpAt_MethodCallStar {o : Expr} {name : Str} {apos pos : Pos} {args : List Expr} {kws : List Keyword} {Q : Value → Shared → Prop}
    (h : PySem.wpAt M A c (attributeBase o name env (eval o env)) (fun ov s₁ => wpAny M A (getAttr ov name true) (fun f s₂ => wpAny M A (callWith pos f [] (backTo pos (starEach args env)) (backToKw pos (keywordEach kws env))) Q E s₂) E s₁) E s)
    (hform : methodCallForm (args.length + kws.length) (backTo pos (starEach args env)) (backToKw pos (keywordEach kws env)) = false := by rfl) :
    PySem.wpAt M A c (eval (.Call (.Attribute o name apos) args kws pos) env) Q E s := by
  rw [arm_eval_Call]
  refine PySem.wpAt_bind (PySem.wpAt_mono h (fun ov s₁ h₁ => PySem.wpAt_of_wpAny (wpAny_bind (wpAny_standAt ?_))) fun _ _ x => x)
  unfold methodCall
  rw [hform]
  refine wpAny_bind (wpAny_holding ?_)
  show wpAny M A (getAttr ov name true >>= fun f => pure (f, [])) _ _ _
  refine wpAny_bind (wpAny_mono h₁ (fun f s₂ h₂ => wpAny_pure ?_) fun _ _ x => x)
  dsimp only
  refine wpAny_bind (m := methodCallPos false o env apos pos) (wpAny_pure ?_)
  exact h₂
end

section
variable {prog : Program} {w : World} {A₀ A : Around} {s : Shared} {base h₀ : Heap} {outer : List Env} {L : Addr} {m mg mb : Str → Option Value} {env : Env} {news : List (Addr × Obj)} {K : Frag} {p : Program} {loose : List Str} {mean : ExcName → Option Value}
  {R : Result → Shared → Prop} {name qual : Str} {params : Arguments} {body : List Stmt} {scope : Scope} {dV kV doc pm cdv ct oc : Value} {an od : Option Addr} {osl : Array (Option Value)} {f cc : Addr} {args : Args} {binds : List (Str × Value)}

theorem frameAt {E : Value → Shared → Prop} (B : Below A₀ base outer h₀) (F : Fr h₀ L s.heap m) (N : News h₀ L s.heap news) (hlim : h₀.NoLimit) (hA : A.frames = some (env :: outer)) (hf : env.frame = some L) (hke : env.scope.kind = .function)
    (hloc : ∀ y ∈ binds, scope.names.lookup y.1 = some .local)
    (h : ∀ g L' h₁, Fr h₀ L g m → Fr g L' h₁ (fun y => binds.reverse.lookup y) → News g L' h₁ news → Below A base (env :: outer) g → h₀.StaysIn g → (∀ p ∈ news, p.1 < L') →
      PySem.wpAt (model prog w) (A.deeper (ksEnv qual scope L' f cdv cc)) (.func body (ksEnv qual scope L' f cdv cc)) (execs body (ksEnv qual scope L' f cdv cc))
        (fun fl s' => LeaveK h₀ L m g R (match fl with | .ret v => v | _ => .none) s')
        (fun e s' => wpAny (model prog w) (A.deeper (ksEnv qual scope L' f cdv cc)) (leaving (ksEnv qual scope L' f cdv cc) e) (fun _ s'' => R (.error e) s'') (fun e' s'' => R (.error e') s'') s')
        { s with heap := h₁, toks := s.toks + binds.length })
    (hcell : ∀ x ∈ scope.names, x.2 ≠ .cell) (hk : scope.kind = .function) :
    wpAny (model prog w) A.in1 (newFunctionEnv scope mainGlobals [("__class__", cc)] binds (qual ++ ".<locals>.") (some f) cdv none builtinsNs) (fun env' s₂ => s₂.heap.NoLimit ∧ codeAny (model prog w) A (.func body env') R s₂) E s := by
  obtain ⟨FG, BG, st, lv⟩ := groundX (R := R) B F N hA hf hke
  refine wpAny_newFunctionEnv hcell hloc (fun h₁ hns hsb => ⟨(hlim.keeps F.keep).fresh _ hsb, ks_codeAny_funcAt ?_⟩) hk
  have hk₁ : ∀ b o, s.heap.get? b = some o → h₁.get? b = some o := fun b o e => hsb.extBut b o (Nat.ne_of_lt (Heap.lt_size e)) (Heap.get?_push_of_some _ e)
  exact ks_wpAt_mono (h _ s.heap.objs.size h₁ FG ⟨hns, fun b o e => hk₁ b o (of_hideAll _ e), Nat.le_of_eq (hideAll_size _ _)⟩
    (fun p hp => ⟨hk₁ _ _ (N p hp).1, Nat.ne_of_lt (Heap.lt_size (N p hp).1), hideAll_none _ (List.mem_map_of_mem hp)⟩) BG st (fun p hp => Heap.lt_size (N p hp).1)) (fun fl s' hl => lv _ _ hl) fun _ _ y => y

theorem code_both0 {vs : List Value} {nm nr : Str} {front : List (Str × Value)} {g₁ : Addr → Sem (List (Str × Value))} {g₂ : Addr → Addr → Sem (List (Str × Value))}
    (B : Below A₀ base outer h₀) (F : Fr h₀ L s.heap m) (X₀ : K.In h₀) (N : News h₀ L s.heap news) (T : Top p loose mean mg mb h₀) (hA : A.frames = some (env :: outer)) (hf : env.frame = some L) (hke : env.scope.kind = .function)
    (ho : K.lookup f = some ⟨oc, od, .func (ksFn name qual params body scope dV kV doc pm an cdv ct cc), osl⟩) (hcd : codeIn K cdv qual = true) (hroom : A.depth < recursionLimit)
    (_hv : args.pos.drop (params.posonlyargs.length + params.args.length) = vs) (_hnr : params.vararg.map (·.arg) = some nr) (_hnm : params.kwarg.map (·.arg) = some nm)
    (_hfr : peek K ⟨prog, w.params⟩ (bindArgs (fnCut (ksFn name qual params body scope dV kV doc pm an cdv ct cc)) (argsCut params args)) = some front)
    (hp : peekA K ⟨prog, w.params⟩ (bindArgs (ksFn name qual params body scope dV kV doc pm an cdv ct cc) args) = some (tupOf vs, g₁))
    (hp₂ : ∀ D, peekA K ⟨prog, w.params⟩ (g₁ D) = some (dictOf [] 0, g₂ D))
    (hk₂ : ∀ C D, g₂ C D = pure (front ++ [(nr, Value.ref C)] ++ [(nm, Value.ref D)]))
    (hloc : ∀ C D, ∀ y ∈ front ++ [(nr, Value.ref C)] ++ [(nm, Value.ref D)], scope.names.lookup y.1 = some .local)
    (h : ∀ C D g L' h₁ tk, (∀ p ∈ news, p.1 < C) → C < D → (D == sysModules) = false → Fr h₀ L g m → Fr g L' h₁ (fun y => (front ++ [(nr, Value.ref C)] ++ [(nm, Value.ref D)]).reverse.lookup y) →
      News g L' h₁ ((D, dictOf [] 0) :: (C, tupOf vs) :: news) → Below A base (env :: outer) g → K.In g → Top p loose mean mg mb g → D < L' →
      PySem.wpAt (model prog w) (A.deeper (ksEnv qual scope L' f cdv cc)) (.func body (ksEnv qual scope L' f cdv cc)) (execs body (ksEnv qual scope L' f cdv cc))
        (fun fl s' => LeaveK h₀ L m g R (match fl with | .ret v => v | _ => .none) s')
        (fun e s' => wpAny (model prog w) (A.deeper (ksEnv qual scope L' f cdv cc)) (leaving (ksEnv qual scope L' f cdv cc) e) (fun _ s'' => R (.error e) s'') (fun e' s'' => R (.error e') s'') s')
        { s with heap := h₁, toks := tk })
    (hco : scope.isCoroutine = false) (hgen : scope.isGenerator = false) (hk : scope.kind = .function)
    (hcell : ∀ x ∈ scope.names, x.2 ≠ .cell) : codeAny (model prog w) A (.call (.ref f) args) R s := by
  refine codeAny_call_function (fd := ksFn name qual params body scope dV kV doc pm an cdv ct cc) (body := body) hroom ((X₀.keeps F.keep) _ _ ho) rfl hco hgen rfl (codeRec_of (X₀.keeps F.keep) hcd) ?_
  refine wp_of_peekA (o := tupOf vs) F N (X₀.keeps F.keep) rfl _ g₁ hp fun h' F' N' l => ?_
  refine wp_of_peekA (s := { s with heap := h' }) (o := dictOf [] 0) F' N' (X₀.keeps F'.keep) rfl _ (g₂ s.heap.objs.size) (hp₂ _) fun h'' F'' N'' l' => ?_
  rw [hk₂]
  refine wpAny_pure ?_
  exact frameAt (s := { s with heap := h'' }) B F'' N'' T.nolimit hA hf hke (hloc _ _)
    (fun g L' h₁ FG FL NG BG st ll => h _ _ g L' h₁ _ l (l' _ (.head _)) (F'.notModules (modules_low T.nolimit)) FG FL NG BG (X₀.keeps st) (T.keeps st) (ll _ (.head _))) hcell hk
end

section
variable {prog : Program} {w : World} {A : Around} {E : Value → Shared → Prop} {h : Heap} {g : Array GenState} {d : Drawn} {t : Nat} {os : OsState}
theorem getAttr_super {so D x C f : Addr} {of : Obj} {l₀ l : List Value} {K : Frag} {name : Str} {expr : Bool} {Q : Value → Shared → Prop}
    (hso : h.get? so = some { cls := .type "super", dict := none, data := .fields #[.ref D, .ref x, .ref C], slots := #[] }) (hno : Looks (model prog w) h (opaqueClassAbove (.ref C)) none)
    (hC : Looks (model prog w) h (mroOf (.ref C)) l₀) (hl : (l₀.dropWhile (· != .ref D)).drop 1 = l) (X : K.In h)
    (hf : alongIn K name l = some (some (.ref f))) (hfo : h.get? f = some of) (hfc : of.cls = .type "function") (hxC : x ≠ C) (hn : (name == ("__class__" : Str)) = false)
    (hq : Q (.ref h.objs.size) ⟨h.push { cls := .type "method", data := .fields #[.ref f, .ref x] }, g, d, t + 1, os⟩) :
    wpAny (model prog w) A (getAttr (.ref so) name expr) Q E ⟨h, g, d, t, os⟩ := by
  have hlk := PySem.F.ks_slot_super_ga.lookup
  have hT : ∀ t', (⟨h, g, d, t', os⟩ : Shared).TypeIs (.ref so) "super" := fun _ => ⟨_, hso, rfl⟩
  unfold getAttr getAttrBy
  refine wpAny_bind (wpAny_mkText (wpAny_holding (wpAny_bind (wpAny_typeOf (hT _) (wpAny_bind (wpAny_of_eq hlk ?_))))))
  show wpAny _ _ (getAttrByItsOwn (.ref so) (.str name t) (.type "super") (.builtin "super.__getattribute__") true expr) _ _ _
  unfold getAttrByItsOwn hookBefore
  refine wpAny_bind (wpAny_of_eq (show (if onTheHeap (.type "super") then typeLookup (.type "super") "__getattr__" else pure none) = pure none from rfl) ?_)
  refine wpAny_bind (wpAny_attempt (wpAny_holding ?_))
  have e : callGetattribute (.ref so) (.str name t) (.builtin "super.__getattribute__") expr = boundAndCalled (.builtin "super.__getattribute__") (.ref so) (.str name t) := by
    unfold callGetattribute; cases expr <;> rfl
  rw [e]
  unfold boundAndCalled
  refine wpAny_bind (wpAny_of_eq (PySem.F.ks_slot_super_ga.bind _) ?_)
  refine wpAny_mono (Q := fun v s' => v = .ref h.objs.size ∧ s' = ⟨h.push { cls := .type "method", data := .fields #[.ref f, .ref x] }, g, d, t + 1, os⟩) (E := fun _ _ => False)
    (wpAny_call_entry PySem.F.ks_slot_super_ga (hT _) PySem.F.ks_entry_super_ga (ks_wpAny_super_ga hso hno hC hl X hf hfo hfc hxC hn ⟨_, rfl, rfl, rfl⟩) (PySem.F.ks_gaArgs_super _ _)) (fun v s' hv => ?_) fun _ _ z => z.elim
  obtain ⟨rfl, rfl⟩ := hv
  exact wpAny_pure hq
end
section
variable {prog : Program} {w : World} {A : Around} {E : Value → Shared → Prop} {s : Shared} {h₀ : Heap} {L : Addr} {m : Str → Option Value} {news : List (Addr × Obj)} {K : Frag} {x C D f2 so : Addr} {ox : Obj} {odx : Option Obj}
theorem getAttr_superK {name : Str} {expr : Bool} {Q : Value → Shared → Prop} (F : Fr h₀ L s.heap m) (X₀ : K.In h₀) (N : News h₀ L s.heap news) (hso : (so, ks_superObj D x C) ∈ news) (I : InstAt s.heap x ox C odx) (ho : nsIn K cStatics "thirdparty.any" = some none)
    (hm : ks_superIn K C D name = some (some (.ref f2))) (ht : typeIn K (.ref f2) = some (.type "function")) (hn : (name == ("__class__" : Str)) = false)
    (h : ∀ q h', Fr h₀ L h' m → News h₀ L h' ((q, methodObj (.ref f2) (.ref x)) :: news) → (∀ p ∈ news, p.1 < q) → Q (.ref q) { s with heap := h', toks := s.toks + 1 }) : wpAny (model prog w) A (getAttr (.ref so) name expr) Q E s := by
  have X : K.In s.heap := X₀.keeps F.keep
  obtain ⟨hh, g, d, t, os⟩ := s
  cases hc : clsIn K C with
  | none => unfold ks_superIn at hm; rw [hc] at hm; cases hm
  | some cd =>
    unfold ks_superIn at hm
    rw [hc] at hm
    obtain ⟨of, hof, hofc⟩ : ∃ of, hh.get? f2 = some of ∧ of.cls = .type "function" := by
      have ht' : (K.lookup f2).map (·.cls) = some (.type "function") := ht
      cases z : K.lookup f2 with
      | none => rw [z] at ht'; cases ht'
      | some of => rw [z] at ht'; exact ⟨of, X _ _ z, Option.some.inj ht'⟩
    refine getAttr_super (N _ hso).1 (looks_opaque X ho) (l₀ := cd.mro) ?_ rfl X hm hof hofc (ks_ne X I hc) hn ?_
    · exact fun A Q E s k q => wpAny_bind ((looks_clsIn X hc) A _ E s k (wpAny_pure q))
    · obtain ⟨F', N', l'⟩ := ks_newsPush (s := ⟨hh, g, d, t, os⟩) (o := methodObj (.ref f2) (.ref x)) F N rfl (Heap.get?_push_at rfl rfl) (fun b o e => Heap.get?_push_of_some _ e)
      exact h _ _ F' N' l'
end
end Mine
end

section
open PySem PySem.W PySem.Calls PyProof.Rows Builtin Builtin.ObjectAttr
namespace Mine
section
variable {M : Model} {A : Around} {E : Value → Shared → Prop} {s : Shared} {h₀ : Heap} {L : Addr} {m : Str → Option Value} {news news' : List (Addr × Obj)} {K : Frag} {q : Addr} {f self : Value} {env : Env} {pos : Pos} {first : List Value} {Q : Value → Shared → Prop}
def MwP (q : Addr) (f self : Value) (h : Heap) : Prop := h.get? q = some (mwObj f self)
theorem keeps_mw (h : Heap) (X : MwP q f self h) : ∃ k, (k = Keeper.frame ∨ k = Keeper.machine ∨ k = Keeper.boundFrame) ∧ Looks M h (keeperOf (.ref q)) k := by
  refine ⟨.machine, .inr (.inl rfl), (Looks.ld (part := none) X).andThen ?_⟩
  exact .now
theorem callWith_mw {e : Expr} {rest : List Expr} (_N : News h₀ L s.heap news) (_q : (q, mwObj f self) ∈ news) (h : wpAny M A (spliced (backTo pos (starEach (e :: rest) env))) (fun vs s₁ => MwP q f self s₁.heap ∧ wpAny M A (call (.ref q) (first ++ vs)) Q E s₁) E s)
    (he : starEach (e :: rest) env = (false, eval e env) :: starEach rest env := by rfl) (hplain : (backTo pos (starEach rest env)).any (·.1) = false := by rfl) :
    wpAny M A (callWith pos (.ref q) first (backTo pos (starEach (e :: rest) env)) []) Q E s := by
  rw [he] at h ⊢
  exact callWith_of (by show ((false || (backTo pos (starEach rest env)).any (·.1)) || false) = false; rw [hplain]; rfl) keeps_mw (evalArgs_plain h)
theorem mwP {h : Heap} (N : News h₀ L h news) (hq : (q, mwObj f self) ∈ news) : MwP q f self h := (N _ hq).1
end
end Mine
end

section
open PySem PySem.W PySem.Calls PyProof.Rows Builtin Builtin.Str
namespace Mine
abbrev words : PySem.Str := PySem.Str.ofString "the following ASCII non-printables found in header: "
abbrev wordsF : PySem.Str := PySem.Str.ofString "the following ASCII non-printables found in header: {}"
abbrev wordsL : PySem.Str := PySem.Str.mk #[116, 104, 101, 32, 102, 111, 108, 108, 111, 119, 105, 110, 103, 32, 65, 83, 67, 73, 73, 32, 110, 111, 110, 45, 112, 114, 105, 110, 116, 97, 98, 108, 101, 115, 32, 102, 111, 117, 110, 100, 32, 105, 110, 32, 104, 101, 97, 100, 101, 114, 58, 32]
abbrev wordsFL : PySem.Str := PySem.Str.mk #[116, 104, 101, 32, 102, 111, 108, 108, 111, 119, 105, 110, 103, 32, 65, 83, 67, 73, 73, 32, 110, 111, 110, 45, 112, 114, 105, 110, 116, 97, 98, 108, 101, 115, 32, 102, 111, 117, 110, 100, 32, 105, 110, 32, 104, 101, 97, 100, 101, 114, 58, 32, 123, 125]
theorem words_lit : words = wordsL := by decide +kernel
theorem wordsF_lit : wordsF = wordsFL := by decide +kernel
section
variable {prog : Program} {w : World} {A : Around} {E : Value → Shared → Prop} {s : Shared}
theorem fmt_words {v : Value} {t : Tok} {Q : Value → Shared → Prop}
    (hv : wpAny (model prog w) A.in1 (formatOf v PySem.Str.empty) (fun r s₁ => ∃ T u, r = .str T u ∧ T.length ≤ 100000 ∧ ∀ t' k, Q (.str (words ++ T) t') { s₁ with toks := k }) E s) :
    wpAny (model prog w) A (call (.builtin "str.format") [.str wordsF t, v]) Q E s := by
  rw [wordsF_lit]
  refine wpAny_call_entry PySem.F.slot_str_format_m (typeIs_str s wordsFL t) PySem.F.entry_str_format_m ?_ (KFm.args_2 _ _)
  unfold Builtin.«str.format»
  refine wpAny_bind (wpAny_of_eq (a := (_, _, _)) rfl ?_)
  refine wpAny_bind ?_
  unfold Builtin.Str.buildString
  refine wpAny_bind ?_
  rw [KPc.range_list]
  refine KFm.start ?_
  intro w0 g0
  refine KPc.turn ?_
  kpc_if
  kpc_check
  refine wpAny_bind (KFm.field_auto (by kfm_num) (by rfl) ?_)
  refine wpAny_bind (wpAny_holding (wpAny_of_eq (a := _) rfl ?_))
  kpc_if
  refine wpAny_bind (wpAny_pure ?_)
  refine wpAny_bind (wpAny_holding (wpAny_mono hv (fun r s₁ hr => ?_) fun _ _ z => z))
  obtain ⟨T, u, rfl, hl, hQ⟩ := hr
  refine wpAny_bind (wpAny_of_eq (a := some _) rfl ?_)
  refine wpAny_pure ?_
  refine KFm.after_field (T' := wordsL ++ T) (by kpc_g) (by kpc_text) (by kpc_obj) hl (by kpc_obj) (by first | kfm_cat2 | (rw [KPc.empty_app]; rfl)) (by kfm_rest) ?_
  intro w1 g1
  refine KPc.turn ?_
  kpc_if
  refine wpAny_pure ?_
  refine wpAny_pure ?_
  refine KPc.finish_ok (by kpc_g) (by decide +kernel) (by first | kpc_text | exact rfl) ?_
  intro t' k
  rw [← words_lit]
  exact ⟨_, rfl, hQ _ _⟩
end
end Mine
end

section
open PySem PySem.W PySem.Calls PyProof.Rows Builtin Builtin.Str
namespace Mine
section
variable {prog : Program} {w : World} {A : Around} {E : Value → Shared → Prop} {s : Shared} {h₀ : Heap} {a : Addr} {d : PyData} {as : List Addr}
theorem formatOf_reads {Q : Value → Shared → Prop} (r : Reads h₀ (.ref a) d as) (hs : d.showable = true) (hsm : d.hasDict = true → sysModules ∉ as) (hg : A.guards = some []) (hu : A.units + (d.depth + 2) < cLine) (hk0 : ∀ b o, h₀.get? b = some o → s.heap.get? b = some o)
    (hQ : ∀ h' u tk, (∀ b o, s.heap.get? b = some o → h'.get? b = some o) → Q (.str d.shown u) { s with heap := h', toks := tk })
    (hsz : d.shown.length ≤ sizeLine) : wpAny (model prog w) A (formatOf (.ref a) PySem.Str.empty) Q E s := by
  obtain ⟨T, idr, S⟩ := showsBy_of_reads (prog := prog) (w := w) r hs hsm hsz
  unfold PySem.Builtin.Str.formatOf
  refine wpAny_ite (KPc.ite_no Bool.false_ne_true ?_)
  refine wpAny_bind (wpAny_mkStr ?_ (by decide))
  have hT' : ({ s with toks := s.toks + 1 } : Shared).TypeIs (.ref a) T := S.typeIs { s with toks := s.toks + 1 } hk0
  refine wpAny_bind (m := callSpecial? (.ref a) (PySem.Str.ofString "__format__") [.str PySem.Str.empty s.toks]) (wpAny_callSpecial?_slot (name := PySem.Str.ofString "__format__") hT' S.slotFmt
    (call_object_format_slot (fun _ _ => nofun) (by omega) hT' S.slotFmt S.slotStr S.slotRepr (S.call A.in1.in1 E { s with toks := s.toks + 1 } _ hg (by show A.units + 1 + 1 + d.depth < cLine; omega) hk0 fun h' u tk hk => ?_)))
  refine ⟨_, _, rfl, ?_⟩
  refine wpAny_bind (wpAny_of_eq (a := some d.shown) rfl ?_)
  refine wpAny_ite (KPc.ite_no Bool.false_ne_true ?_)
  exact wpAny_pure (hQ h' u tk hk)
end

theorem readsStrs {h : Heap} {us : List Value} {xs : List PySem.Str} (S : StrsAre us xs) : ReadsAll h us (xs.map PyData.str) [] := by
  induction S with
  | nil => exact .nil
  | cons x t _ ih => exact .cons (.str x t) ih

theorem showable_strs : ∀ xs : List PySem.Str, PyData.showableAll (xs.map PyData.str) = true
  | [] => rfl
  | x :: r => by simp [PyData.showableAll, PyData.showable, showable_strs r]
theorem hasDict_strs : ∀ xs : List PySem.Str, PyData.hasDictAll (xs.map PyData.str) = false
  | [] => rfl
  | x :: r => by simp [PyData.hasDictAll, PyData.hasDict, hasDict_strs r]
theorem depth_strs : ∀ xs : List PySem.Str, PyData.depthAll (xs.map PyData.str) ≤ 1
  | [] => by simp [PyData.depthAll]
  | x :: r => by have := depth_strs r; simp only [List.map_cons, PyData.depthAll, PyData.depth]; omega

section
variable {prog : Program} {w : World} {A : Around} {E : Value → Shared → Prop} {s : Shared} {h₀ : Heap} {L : Addr} {m : Str → Option Value} {news : List (Addr × Obj)} {l : Addr} {us : List Value} {xs : List PySem.Str} {c : Nat} {t : Tok} {Q : Value → Shared → Prop}
theorem fmt_listK (F : Fr h₀ L s.heap m) (N : News h₀ L s.heap news) (hl : (l, listOf us.toArray c) ∈ news) (S : StrsAre us xs) (hg : A.guards = some []) (hu : A.units + 10 < cLine) (hsz : (PyData.list (xs.map PyData.str)).shown.length ≤ 100000)
    (h : ∀ h' t' k, Fr h₀ L h' m → News h₀ L h' news → Q (.str (words ++ (PyData.list (xs.map PyData.str)).shown) t') { s with heap := h', toks := k }) :
    wpAny (model prog w) A (call (.builtin "str.format") [.str wordsF t, .ref l]) Q E s := by
  have r : Reads s.heap (.ref l) (.list (xs.map PyData.str)) (l :: []) := Reads.list (N _ hl).1 rfl rfl (readsStrs S)
  have hd : (PyData.list (xs.map PyData.str)).depth ≤ 3 := by have := depth_strs xs; simp only [PyData.depth]; omega
  refine fmt_words (formatOf_reads r (by simpa [PyData.showable] using showable_strs xs) (fun hh => by simp [PyData.hasDict, hasDict_strs] at hh) hg (by show A.units + 1 + _ < cLine; omega) (fun _ _ e => e) (fun h' u tk hk => ?_) (by rw [sizeLine_eq]; omega))
  obtain ⟨F', N'⟩ := keeps_ground F N hk
  exact ⟨_, _, rfl, hsz, fun t' k => h h' t' k F' N'⟩
theorem fmt_tupK (F : Fr h₀ L s.heap m) (N : News h₀ L s.heap news) (hl : (l, (⟨.type "tuple", none, .seq us.toArray c, #[]⟩ : Obj)) ∈ news) (S : StrsAre us xs) (hg : A.guards = some []) (hu : A.units + 10 < cLine) (hsz : (PyData.tuple (xs.map PyData.str)).shown.length ≤ 100000)
    (h : ∀ h' t' k, Fr h₀ L h' m → News h₀ L h' news → Q (.str (words ++ (PyData.tuple (xs.map PyData.str)).shown) t') { s with heap := h', toks := k }) :
    wpAny (model prog w) A (call (.builtin "str.format") [.str wordsF t, .ref l]) Q E s := by
  obtain ⟨as, r⟩ : ∃ as, Reads s.heap (.ref l) (.tuple (xs.map PyData.str)) as := ⟨_, Reads.tuple (N _ hl).1 rfl rfl (readsStrs S)⟩
  have hd : (PyData.tuple (xs.map PyData.str)).depth ≤ 3 := by have := depth_strs xs; simp only [PyData.depth]; omega
  refine fmt_words (formatOf_reads r (by simpa [PyData.showable] using showable_strs xs) (fun hh => by simp [PyData.hasDict, hasDict_strs] at hh) hg (by show A.units + 1 + _ < cLine; omega) (fun _ _ e => e) (fun h' u tk hk => ?_) (by rw [sizeLine_eq]; omega))
  obtain ⟨F', N'⟩ := keeps_ground F N hk
  exact ⟨_, _, rfl, hsz, fun t' k => h h' t' k F' N'⟩
theorem fmt_strK {x : PySem.Str} {u : Tok} (hsz : x.length ≤ 100000) (h : ∀ t' k, Q (.str (words ++ x) t') { s with toks := k }) :
    wpAny (model prog w) A (call (.builtin "str.format") [.str wordsF t, .str x u]) Q E s :=
  fmt_words (wpAny_of_eq (KFm.formatOf_str _ _) ⟨_, _, rfl, hsz, fun t' k => h t' k⟩)
end
end Mine
end

section
open PySem PySem.W PySem.Calls PyProof.Rows PyProof.V PySem.Spec PySem.SeqAt
namespace Mine
theorem canLay_strs : ∀ xs : List PySem.Str, (∀ x ∈ xs, PyData.strOk x = true) → PyData.canLayAll0 (xs.map PyData.str) = true
  | [], _ => by simp [PyData.canLayAll0]
  | n :: r, h => by
    have h1 := h n (.head _)
    have h2 := canLay_strs r fun x hx => h x (.tail _ hx)
    simp [PyData.canLayAll0, PyData.canLay0, h1, h2]
theorem shaped_strs (xs : List PySem.Str) (ho : ∀ x ∈ xs, PyData.strOk x = true) : shaped (.list (xs.map PyData.str)) = true := by
  have h1 := depth_strs xs
  have h2 : PyData.depth (.list (xs.map PyData.str)) ≤ 64 := by simp only [PyData.depth]; omega
  show (PyData.canLay0 (.list (xs.map PyData.str)) && decide (PyData.depth (.list (xs.map PyData.str)) ≤ 64)) = true
  rw [Bool.and_eq_true]
  exact ⟨by simp only [PyData.canLay0]; exact canLay_strs xs ho, decide_eq_true h2⟩
section
variable {prog : Program} {w : World} {A : Around} {E : Value → Shared → Prop} {s : Shared} {h₀ : Heap} {L : Addr} {m : Str → Option Value} {news : List (Addr × Obj)} {l b : Addr} {us : List Value} {xs : List PySem.Str} {c c' : Nat} {Q : Value → Shared → Prop}
theorem ne_nilK (N : News h₀ L s.heap news) (hl : (l, listOf us.toArray c) ∈ news) (hb : (b, listOf #[] c') ∈ news) (S : StrsAre us xs) (ho : ∀ x ∈ xs, PyData.strOk x = true) (hu : A.units + 64 < cLine)
    (h : Q (.bool (!decide (xs = []))) s) : wpAny (model prog w) A (compareOp .NotEq (.ref l) (.ref b)) Q E s := by
  have r1 : Reads s.heap (.ref l) (.list (xs.map PyData.str)) [l] := Reads.list (N _ hl).1 rfl rfl (readsStrs S)
  have r2 : Reads s.heap (.ref b) (.list []) [b] := Reads.list (N _ hb).1 rfl rfl .nil
  refine ne_dataH_same r1 r2 (shaped_strs xs ho) (shaped_strs [] fun _ hx => nomatch hx) hu ?_ ?_
  · cases xs <;> simp [noMix, noMixAll]
  · cases xs with
    | nil => simpa [PySem.Spec.same, PySem.Spec.sameAll] using h
    | cons x r => simpa [PySem.Spec.same, PySem.Spec.sameAll] using h
theorem tupleK (F : Fr h₀ L s.heap m) (N : News h₀ L s.heap news) (hl : (l, listOf us.toArray c) ∈ news) (hlen : us.length ≤ 1000)
    (h : ∀ q h', Fr h₀ L h' m → News h₀ L h' ((q, (⟨.type "tuple", none, .seq us.toArray 0, #[]⟩ : Obj)) :: news) → (∀ p ∈ news, p.1 < q) → Q (.ref q) { s with heap := h' }) :
    wpAny (model prog w) A (call (.type "tuple") [.ref l]) Q E s := by
  refine call_tuple_list (items := us.toArray) ⟨_, (N _ hl).1, rfl, c, rfl⟩ (fun h' k => ?_) (by rw [List.size_toArray, sizeLine_eq]; omega)
  obtain ⟨F1, N1⟩ := keeps_ground F N k
  refine h _ _ (F1.push _) ?_ fun p hp => Heap.lt_size (N1 p hp).1
  exact N1.push F1 _
end
end Mine
end

section
open PySem PySem.W PySem.Calls PyProof.Rows PyProof.V PySem.Spec
namespace Mine
section
variable {prog : Program} {w : World} {A : Around} {E : Value → Shared → Prop} {s : Shared} {env : Env} {h₀ : Heap} {x : Str} {body : List Stmt} {Q : Flow → Shared → Prop}
/-- a loop over a list of ints that the call has made, with a ledger that may grow -/
theorem inv_list {l : Addr} {vs : List Value} {ns : List Int} {nn : Nat} {m₀ : Str → Option Value} {news : List (Addr × Obj)} (J : Nat → (Str → Option Value) → List (Addr × Obj) → Prop)
    (hh : A.handled = none) (hl : (l, listOf vs.toArray nn) ∈ news) (hi : IntsAre vs ns) (F : Fr h₀ env.locals s.heap m₀) (N : News h₀ env.locals s.heap news) (hj : J 0 m₀ news)
    (turn : ∀ i n t m₁ nx h tk own, ns[i]? = some n → TbOff own nx → (l, listOf vs.toArray nn) ∈ nx → J i m₁ nx → Fr h₀ env.locals h (fun y => if y = x then some (.int n t) else m₁ y) → News h₀ env.locals h (nx ++ own) →
      wpAny (model prog w) A (execs body env) (TbPost h₀ env.locals (fun m' nx => (l, listOf vs.toArray nn) ∈ nx ∧ J (i + 1) m' nx) own { s with heap := h, toks := tk } Q) E { s with heap := h, toks := tk })
    (done : ∀ m₁ nx h tk, (l, listOf vs.toArray nn) ∈ nx → J ns.length m₁ nx → Fr h₀ env.locals h m₁ → News h₀ env.locals h nx → Q .next { s with heap := h, toks := tk }) :
    wpAny (model prog w) A (pyIter (.ref l)) (fun it s₂ => LoopAtV prog w A h₀ env x body Q E it s₂) E s := by
  have hol : s.heap.get? l = some (listOf vs.toArray nn) := (N _ hl).1
  have hls : s.heap.IsList l vs.toArray := ⟨_, hol, rfl, nn, rfl⟩
  have hne : l ≠ s.heap.objs.size := Nat.ne_of_lt (Heap.lt_size hol)
  refine wpAny_pyIter_list hls ?_
  have W := Walks.list (prog := prog) (w := w) hh s.heap.objs.size l hne vs.toArray
  have hlen : vs.toArray.size = ns.length := by simp [hi.length]
  rw [hlen] at W
  refine ⟨_, _, _, ns.length, _, _, m₀, news, (fun i m nx => (l, listOf vs.toArray nn) ∈ nx ∧ J i m nx), rfl, W, ?_, ?_, ?_, ⟨⟨_, Heap.get?_push_size _ rfl, rfl, rfl⟩, hls.at fun o e => Heap.get?_push_of_some _ e⟩, F.push _, (fun p hp => ⟨Heap.get?_push_of_some _ (N p hp).1, (N p hp).2⟩), ⟨hl, hj⟩, ?_, ?_⟩
  · intro hm
    rcases List.mem_cons.mp hm with e | hm
    · exact absurd F.ns.lt (e ▸ Nat.lt_irrefl _)
    · exact (N _ hl).2.1 ((List.mem_singleton.mp hm).symm)
  · intro b hb
    rw [List.mem_singleton.mp hb]
    exact next_is_new F
  · intro p hp hI
    exact absurd (Heap.lt_size (N p hp).1) ((List.mem_singleton.mp hI) ▸ Nat.lt_irrefl _)
  · rintro i v m₁ news₁ s₁ own ⟨hh', tk', rfl⟩ hin hP ⟨hl₁, hJ⟩ hoff hown hget hmem hst F₁ N₁
    have hsep : TbOff (own.filter fun p => decide (p.1 = s.heap.objs.size)) news₁ := by
      intro p hp q hq e
      have h1 : p.1 = s.heap.objs.size := by simpa using (List.mem_filter.mp hp).2
      exact hoff q hq (List.mem_singleton.mpr (by rw [← e, h1]))
    have hlt' : i < ns.length := hin
    obtain ⟨t, hx⟩ := hi.get i ns[i] (by simp [hlt'])
    have hv : v = .int ns[i] t := by
      have hP' : vs[i]? = some v := by simpa using hP
      rw [hx] at hP'; exact (Option.some.inj hP').symm
    subst hv
    obtain ⟨⟨oi, hoi, _⟩, _⟩ := hst
    have hI : (s.heap.objs.size, oi) ∈ own := hmem _ (.head _) (next_is_new F) oi hoi
    have N₂ : News h₀ env.locals hh' (news₁ ++ own.filter fun p => decide (p.1 = s.heap.objs.size)) := fun p hp => N₁ p ((List.mem_append.mp hp).elim (fun h => List.mem_append.mpr (.inr h)) fun h => List.mem_append.mpr (.inl ((List.mem_filter.mp h).1)))
    have hlo : hh'.get? l = some (listOf vs.toArray nn) := (N₁ _ (List.mem_append.mpr (.inr hl₁))).1
    refine wpAny_mono (turn i ns[i] t m₁ news₁ hh' tk' _ (by simp [hlt']) hsep hl₁ hJ F₁ N₂) (fun f s₂ p => ?_) fun _ _ e => e
    have fin : TbEnd h₀ env.locals (fun m' nx => (l, listOf vs.toArray nn) ∈ nx ∧ J (i + 1) m' nx) (own.filter fun p => decide (p.1 = s.heap.objs.size)) { s with heap := hh', toks := tk' } s₂ →
        LoopStepU h₀ env.locals [s.heap.objs.size] own (fun m nx => (l, listOf vs.toArray nn) ∈ nx ∧ J (i + 1) m nx) { s with heap := hh', toks := tk' } .next s₂ := by
      rintro ⟨h', tk, m', news', nx, e, F', N', hn, ho, ha, hm⟩
      refine ⟨rfl, h', tk, m', nx, e, F', fun p hp => ?_, fun p hp hq => ?_, hm⟩
      · rcases List.mem_append.mp hp with h | h
        · by_cases hI : p.1 = s.heap.objs.size
          · exact N' p (ho p (List.mem_filter.mpr ⟨h, by simpa using hI⟩))
          · have h1 : p.1 = l := by
              rcases List.mem_cons.mp (hown p h) with h2 | h2
              · exact absurd h2 hI
              · exact List.mem_singleton.mp h2
            have h2 : hh'.get? p.1 = some p.2 := hget p h
            rw [h1, hlo] at h2
            have h3 : p = (l, listOf vs.toArray nn) := Prod.ext h1 (Option.some.inj h2).symm
            rw [h3]
            exact N' _ (hn _ hm.1)
        · exact N' p (hn p h)
      · exact ha _ (List.mem_filter.mpr ⟨hI, by simp⟩) p hp (List.mem_singleton.mp hq).symm
    cases f with
    | ret v => exact .ret p
    | brk => exact .brk p
    | next => exact .next (fin p)
    | cont => exact .cont (fin p)
  · rintro h' tk m' news' F' N' _ hJ
    exact done m' news' h' tk hJ.1 hJ.2 F' N'
end
end Mine
end

section
open PySem PySem.W PySem.Calls PyProof.Rows Builtin Builtin.ObjectAttr
namespace Mine
section
variable {prog : Program} {w : World} {A : Around} {E : Value → Shared → Prop} {h : Heap} {g : Array GenState} {d : Drawn} {t : Nat} {os : OsState} {x C tu : Addr} {dct : Option Addr}
theorem args_getX {R : Result → Shared → Prop} (hx : h.get? x = some ⟨.ref C, dct, .fields #[.ref tu, .none, .none, .none, .bool false, .none], #[]⟩) (hs : Looks (model prog w) h (isSubtype (.ref C) (.type "BaseException")) true)
    (hq : R (.ok (.ret (.ref tu))) ⟨h, g, d, t, os⟩) :
    codeAny (model prog w) A (.call (.builtin "getset_descriptor.__get__") ⟨[.builtin "BaseException.args", .ref x, .ref C], []⟩) R ⟨h, g, d, t, os⟩ := by
  have hT5 : (⟨h, g, d, t, os⟩ : Shared).TypeIs (.builtin "BaseException.args") "getset_descriptor" := F.typeOf_bexc_args
  have hs' : Looks (model prog w) h (isSubtype (.ref C) (.type (".".intercalate ("BaseException.args".cutAt '.').dropLast))) true := by rw [F.owner_bexc_args]; exact hs
  have hnd : (Value.ref tu == doubtfulMember) = false := by first | rfl | decide | simp [doubtfulMember, rawInt]
  refine codeAny_call_builtin F.slot_gs_get.plain F.entry_gs_get (F.slot_gs_get.check _ _ _ _ _ _ _ _ hT5 (F.args_gs_get _ _ _) ?_)
  unfold Builtin.«getset_descriptor.__get__»
  repeat lk
  refine ⟨Code.quiet_builtin _ (by decide +kernel), codeAny_builtin F.entry_bexc_args ?_⟩
  unfold Builtin.«BaseException.args»
  have hdt : (⟨.ref C, dct, .fields #[.ref tu, .none, .none, .none, .bool false, .none], #[]⟩ : Obj).data = .fields #[.ref tu, .none, .none, .none, .bool false, .none] := rfl
  have f0 : (#[.ref tu, .none, .none, .none, .bool false, .none] : Array Value)[0]? = some (.ref tu) := rfl
  repeat (any_goals (first | assumption | with_reducible refine wpAny_field hx hdt f0 ?_ | wp_step | (simp only [hnd, Bool.false_eq_true, if_false])))
end
section
variable {prog : Program} {w : World} {A : Around} {E : Value → Shared → Prop} {s : Shared} {K : Frag} {x C tu : Addr} {dct : Option Addr} {od : Option Obj} {expr : Bool} {Q : Value → Shared → Prop}
theorem get_excArgs (X : K.In s.heap) (I : InstAt s.heap x ⟨.ref C, dct, .fields #[.ref tu, .none, .none, .none, .bool false, .none], #[]⟩ C od) (hga : findIn K (.ref C) "__getattribute__" = some (some (.builtin "BaseException.__getattribute__")))
    (hgn : findIn K (.ref C) "__getattr__" = some none) (sub : mroIn K C (.type "BaseException") = some true) (hf : findObj K C od "args" = some (.bind (.builtin "getset_descriptor.__get__") (.builtin "BaseException.args")))
    (h : Q (.ref tu) { s with toks := s.toks + 1 }) : wpAny (model prog w) A (getAttr (.ref x) "args" expr) Q E s := by
  refine get_excO X I hga hgn sub ?_
  obtain ⟨hh', g, d, t, os⟩ := s
  have L0 := I.type (M := model prog w)
  have L1 := looks_find (M := model prog w) X I hf
  refine wpAny_bind (wpAny_pure (wpAny_bind (wpAny_pure (wpAny_bind (L0.at (wpAny_bind (L1.at ?_)))))))
  show wpAny _ _ (bindTo (.builtin "getset_descriptor.__get__") (.builtin "BaseException.args") (.ref x) (.ref C)) _ _ _
  unfold bindTo
  have b0 := F.slot_gs_get.bind (.builtin "BaseException.args")
  have LS := looks_mroIn (M := model prog w) X sub
  repeat (first | with_reducible refine wpAny_call ?_ | with_reducible refine args_getX I.1 LS ?_ | lk | wp_step)
  exact h
theorem get_argsK {h₀ : Heap} {L dx : Addr} {m : PySem.Str → Option Value} {news : List (Addr × Obj)} {o : Obj} (F : Fr h₀ L s.heap m) (X₀ : K.In h₀) (N : News h₀ L s.heap news) (hx : (x, excOf C dx tu) ∈ news) (hdx : (dx, o) ∈ news) (hga : findIn K (.ref C) "__getattribute__" = some (some (.builtin "BaseException.__getattribute__")))
    (hgn : findIn K (.ref C) "__getattr__" = some none) (sub : mroIn K C (.type "BaseException") = some true) (hf : findObj K C (some o) "args" = some (.bind (.builtin "getset_descriptor.__get__") (.builtin "BaseException.args")))
    (h : Q (.ref tu) { s with toks := s.toks + 1 }) : wpAny (model prog w) A (getAttr (.ref x) "args" expr) Q E s :=
  get_excArgs (X₀.keeps F.keep) (inst_exc N hx hdx) hga hgn sub hf h
end
open PyProof.Rows.LCg in
def TupSrc (prog : Program) (w : World) (A : Around) (h₀ : Heap) (L : Addr) (m : PySem.Str → Option Value) (env : Env) (elt : Expr) (x : PySem.Str) (scope : Scope) (cl : List (PySem.Str × Addr)) (Q : Value → Shared → Prop) (xv : Value) (s₁ : Shared) : Prop :=
  ∃ (ax : Addr) (v : Value) (news : List (Addr × Obj)), xv = .ref ax ∧ A.handled = none ∧ Fr h₀ L s₁.heap m ∧ News h₀ L s₁.heap news ∧ (ax, tupOf [v]) ∈ news ∧
    ∀ g, CompRest prog w A h₀ L m env elt x scope cl { s₁ with heap := g } (fun nw => (ax, tupOf [v]) ∈ nw) (fun i u => (#[v] : Array Value)[i]? = some u) (FinE h₀ L m { s₁ with heap := g } Q) 1 0 [] news
section
open PyProof.Rows.LCg PySem.Spec
variable {prog : Program} {w : World} {A : Around} {E : Value → Shared → Prop} {s : Shared} {h₀ : Heap} {L : Addr} {m : PySem.Str → Option Value} {env : Env}
theorem off1_mem {D : Addr} : ∀ {l : List (Addr × Obj)}, Off1 D l → ∀ p ∈ l, p.1 ≠ D
  | [], _, _, h => nomatch h
  | _ :: _, x, p, h => by
    rcases List.mem_cons.mp h with rfl | h
    · exact x.1
    · exact off1_mem x.2 p h
theorem tup_st {ax I : Addr} {v : Value} : ∀ i (h h' : Heap) (o : Obj) (nw : List (Addr × Obj)), (h.IsTupleIter I ax i ∧ h.IsTuple ax #[v]) → h.get? I = some o → h'.get? I = some o → (∀ b o, h₀.get? b = some o → h'.get? b = some o) → News h₀ L h' nw → (ax, tupOf [v]) ∈ nw → (h'.IsTupleIter I ax i ∧ h'.IsTuple ax #[v]) :=
  fun i h h' o nw st e e' k N S => ⟨by obtain ⟨o', q, r⟩ := st.1; rw [e] at q; cases q; exact ⟨o, e', r⟩, ⟨_, (N _ S).1, rfl, _, rfl⟩⟩
theorem ListComp_T1 {elt iter : Expr} {x : PySem.Str} {px : Pos} {scope : Scope} {cl : List (PySem.Str × Addr)} {pos : Pos} {Q : Value → Shared → Prop} (F₀ : Fr h₀ L s.heap m)
    (hclos : closureFor scope env = pure cl) (hcell : ∀ y ∈ scope.names, y.2 ≠ .cell) (hkind : scope.kind = .function)
    (hnames : ∀ y ∈ scope.names, y.2 = .local → scope.names.lookup y.1 = some .local) (hx : scope.names.lookup x = some .local)
    (h : wpAny (model prog w) A (eval iter env) (TupSrc prog w A h₀ L m env elt x scope cl Q) E s)
    (hs : ∀ x, foldedSetIterable iter env x = pure x := by intro _; rfl) :
    wpAny (model prog w) A (eval (.ListComp elt [⟨.Name x px, iter, [], 0⟩] scope pos) env) Q E s := by
  rw [eval_ListComp]
  refine wpAny_comprehension_free (use := none) rfl hs hclos hkind hnames (wpAny_mono h (fun xv s₁ h₁ => ?_) fun _ _ e => e)
  obtain ⟨ax, v, news, rfl, hh, F, N, S, R⟩ := h₁
  have hl : s₁.heap.IsTuple ax #[v] := ⟨_, (N _ S).1, rfl, _, rfl⟩
  have hlt : ax < s₁.heap.objs.size := Heap.lt_size (N _ S).1
  refine wpAny_pyIter_tuple hl ?_
  have up : ∀ b o, s₁.heap.get? b = some o → (s₁.heap.push { cls := .type "tuple_iterator", data := .fields #[.ref ax, .int 0 0] }).get? b = some o := fun b o e => Heap.get?_push_of_some _ e
  refine block_U (Walks.tuple hh s₁.heap.objs.size ax (Nat.ne_of_lt hlt) #[v]) (by rw [sizeLine_eq]; exact Nat.le_of_ble_eq_true rfl) (fun i h st => by obtain ⟨o, e, _⟩ := st.1; exact ⟨o, e⟩) tup_st hcell hkind hx ⟨⟨_, Heap.get?_push_size _ rfl, rfl, rfl⟩, hl.push _⟩ (fun b hb => ?_)
    (F.keeps up) (N.grown up) (Nat.ne_of_lt F.ns.lt) (next_is_new F) (fun p hp => Nat.ne_of_lt (Heap.lt_size (N p hp).1)) S (R _) ?_
  · show b < (s₁.heap.push _).objs.size
    rw [Heap.size_push]
    rcases List.mem_cons.mp hb with rfl | hb
    · exact Nat.lt_succ_self _
    · rw [List.mem_singleton.mp hb]; exact Nat.lt_succ_of_lt hlt
  · intro D C h tk m' ys news' F' N' o1 hn hC₀ hD₀ hCL hDL hCD offC fin
    refine ⟨m', hn, fun h'' hs'' => fin D h'' tk (F'.change hs'' hCL hC₀) (fun p hp => ?_) o1⟩
    refine ⟨hs''.extBut _ _ ?_ (N' p hp).1, (N' p hp).2⟩
    rcases List.mem_cons.mp hp with rfl | hp
    · exact Ne.symm hCD
    · exact offC p hp
/-- one turn over a tuple of one item -/
theorem TupSrc.intro {elt : Expr} {x : PySem.Str} {scope : Scope} {cl : List (PySem.Str × Addr)} {Q : Value → Shared → Prop} {ax : Addr} {v : Value} {news : List (Addr × Obj)} (hh : A.handled = none) (F : Fr h₀ L s.heap m) (N : News h₀ L s.heap news) (hm : (ax, tupOf [v]) ∈ news)
    (h : ∀ (_g : Heap) (I : Addr) (oI : Obj) (C : Addr) (oC : Obj) (D : Addr) (m₂ : PySem.Str → Option Value) (h : Heap) (tk : Nat) (E' : Value → Shared → Prop), NsObj oC m₂ → m₂ x = some v → Fr h₀ L h m → News h₀ L h ((I, oI) :: (C, oC) :: (D, lst []) :: news) → (∀ p ∈ news, p.1 ≠ I ∧ p.1 ≠ C ∧ p.1 ≠ D) →
      wpAny (model prog w) A (eval elt (compEnvC scope cl C env)) (fun y s₂ => ∃ h' tk', s₂ = { s with heap := h', toks := tk' } ∧ Fr h₀ L h' m ∧ News h₀ L h' ((I, oI) :: (C, oC) :: (D, lst []) :: news) ∧
        ∀ D h'' tk'', Fr h₀ L h'' m → News h₀ L h'' ((D, lst [y]) :: news) → (∀ p ∈ news, p.1 ≠ D) → Q (.ref D) { s with heap := h'', toks := tk'' }) E' { s with heap := h, toks := tk }) :
    TupSrc prog w A h₀ L m env elt x scope cl Q (.ref ax) s := by
  refine ⟨ax, v, news, rfl, hh, F, N, hm, fun g => CompRest.succ ?_⟩
  intro v' I oI C oC D m₂ h' tk E' hv hC hx F' N' off ne
  have hv' : v = v' := by simpa using hv
  subst hv'
  have off' := Off3.mem off
  refine wpAny_mono (h g I oI C oC D m₂ h' tk E' hC hx F' N' off') (fun y s₂ hy => ?_) fun _ _ e => e
  obtain ⟨h2, tk2, rfl, F2, N2, fin⟩ := hy
  refine ⟨h2, tk2, news, rfl, F2, N2, off, hm, ?_⟩
  intro D' h3 tk3 F3 N3 o3
  exact fin D' h3 tk3 F3 N3 (off1_mem o3)
end
end Mine
end

section
open PySem PySem.W PySem.Calls PyProof.Rows
namespace Mine
abbrev prg : Program := PySem.Challenge.rw_dm0089_02.row.prog
theorem makes84 (w : World) (h : Heap) (X : (hd.heap_39 w.params).In h) : MakesX (model prg w) h 84 where
  obj := ⟨_, _, _, _, X 84 _ rfl, rfl, rfl⟩
  isT := Looks.of_peek X (by kernel_rfl)
  made := Looks.of_peek X (by kernel_rfl)
  base := Looks.of_peek X (by kernel_rfl)
  self := Looks.of_peek X (by kernel_rfl)
  val := Looks.of_peek X (by kernel_rfl)
  nA := Looks.of_peek X (by kernel_rfl)
  nN := Looks.of_peek X (by kernel_rfl)
  call := Looks.of_peek X (by kernel_rfl)
  typ := Looks.of_peek X (by kernel_rfl)
abbrev sLine : PySem.Str := PySem.Str.ofString "line"
abbrev sNp : PySem.Str := PySem.Str.ofString "non_printables"
abbrev defDict (P : Params) (t1 t2 : Tok) (v np : Value) : List DictEntry := [⟨PyData.keyHash P sLine, .str sLine t1, v⟩, ⟨PyData.keyHash P sNp, .str sNp t2, np⟩]

local macro_rules | `(tactic| k_inst) => `(tactic| first | (refine' inst_exc ?N ?h1 ?h2; (case N => k_asm); (case h1 => k_mem); (case h2 => k_mem)) | (refine' inst_exc0 ?N ?h1; (case N => k_asm); (case h1 => k_mem)))
local macro_rules | `(tactic| walk_at "call ref") => `(tactic| (k_here; k_dflt (refine' call_meth ?k1 ?k2 ?_; (case k1 => k_asm); (case k2 => k_mem); (refine' code_both0 ?k1 ?k2 ?k3 ?k4 ?k5 ?kA ?kF ?kK ?k6 ?k7 ?k8 ?kV ?kQ ?kM ?kR ?kP ?kS ?kT ?kB ?_ ?c2 ?c3 ?c4 ?c5; (case kA => exact rfl); (case kF => exact rfl); (case kK => exact rfl); (case k1 => k_asm); (case k2 => k_asm); (case k3 => k_asm); (case k4 => k_asm); (case k5 => k_asm); (case k6 => k_is); (case k7 => k_is); (case k8 => k_room); (case kV => kp_lit); (case kQ => exact rfl); (case kM => exact rfl); (case kR => exact rfl); (case kP => exact rfl); (case kS => exact fun _ => rfl); (case kT => exact fun _ _ => rfl); (case kB => exact fun _ _ => locs rfl); (case c5 => decide); (case c2 => exact rfl); (case c3 => exact rfl); (case c4 => exact rfl); k_whole; intro C' D' g' L' h' tk' l1 l2 lo' FG' F' N' B' X' T' l3; (try k_lt l1); (try k_lt2 l2); (try k_lt2 l3); (try dsimp only); (try k_lift B')))))
local macro_rules | `(tactic| walk_at "wpAt") => `(tactic| (ks_step "eval Call"; refine' wpAt_MethodCallStar ?_ ?hform; (case hform => first | exact rfl | with_unfolding_all exact rfl)))
local macro_rules | `(tactic| walk_at "getAttr ref") => `(tactic| (k_here; ks_any; k_dflt (refine' getAttr_superK ?k1 ?k2 ?k3 ?k4 ?k5 ?k6 ?k7 ?k8 ?k9 ?_; (case k1 => k_asm); (case k2 => k_asm); (case k3 => k_asm); (case k4 => k_mem); (case k5 => k_inst); (case k6 => k_is); (case k7 => ks_is); (case k8 => k_is); (case k9 => decide); intro q' h' F' N' l1; (try k_lt l1))))
local macro_rules | `(tactic| walk_at "callWith ref") => `(tactic| (k_here; ks_any; k_dflt (refine' callWith_star0 (T := "tuple") (.inr rfl) ?k1 ?k2 ?k3 ?k4 ?k5 ?k6 ?k7 ?k8 ?k9 ?hx ?hy ?_; (case k1 => k_asm); (case k2 => k_asm); (case k3 => k_asm); (case hx => (refine wpAny_bind (wpAny_Name (wpAny_loadName_local rfl rfl (Fr.ns (by k_asm)) rfl (wpAny_bind (wpAny_standAt (wpAny_pure ⟨rfl, rfl⟩)))) (by decide)))); (case hy => (intro hh' FF' tk'; refine wpAny_bind (wpAny_Name (wpAny_loadName_local rfl rfl FF'.ns rfl (wpAny_bind (wpAny_standAt (wpAny_pure ⟨rfl, rfl⟩)))) (by decide)))); (case k4 => k_mem); (case k5 => k_is); (case k6 => k_mem); (case k7 => k_mem); (case k8 => k_asm); (case k9 => exact Nat.le_of_ble_eq_true rfl); k_whole; intro h' F' N'; (try k_sweep))))
local macro_rules | `(tactic| walk_at "call ref") => `(tactic| (k_here; ks_any; k_dflt (refine' call_meth ?k1 ?k2 ?_; (case k1 => k_asm); (case k2 => k_mem); (refine' ks_code_super ?k1 ?k2 ?k3 ?k4 ?k5 ?kA ?kF ?kK ?k6 ?k7 ?k8 ?k9 ?kB ?_ ?c1 ?c2 ?c3 ?c4; (case kA => exact rfl); (case kF => exact rfl); (case kK => exact rfl); (case k1 => k_asm); (case k2 => k_asm); (case k3 => k_asm); (case k4 => k_asm); (case k5 => k_asm); (case k6 => k_is); (case k7 => k_is); (case k8 => k_room); (case k9 => exact binds_K (by k_in) rfl (by k_is) rfl rfl rfl); (case kB => exact locs rfl); (case c1 => decide); (case c2 => exact rfl); (case c3 => exact rfl); (case c4 => exact rfl); intro g' L' h' FG' F' N' B' X' T' l1; (try k_lt l1); (try dsimp only); (try k_lift B')))))
local macro_rules | `(tactic| walk_at "wpAt") => `(tactic| (ks_step "exec Expr"; refine ks_wpAt_Expr_any ?_ ?hi ?hs; (case hi => first | rfl | exact rfl | with_unfolding_all rfl | kernel_rfl); (case hs => first | rfl | exact rfl | with_unfolding_all rfl | kernel_rfl)))
local macro_rules | `(tactic| walk_at "wpAt") => `(tactic| (ks_step "eval Call"; refine' ks_wpAt_MethodCall ?_ ?he; (case he => first | exact rfl | with_unfolding_all exact rfl)))
local macro_rules | `(tactic| walk_at "getMethod ref") => `(tactic| (k_here; ks_any; k_dflt (refine' methodB ?k1 ?k2 ?k3 ?k4 ?k5 ?k6 ?k7 ?k8 ?k9 ?_; (case k1 => k_asm); (case k2 => k_asm); (case k3 => k_asm); (case k4 => k_mem); (case k5 => k_inst); (case k6 => k_is); (case k7 => ks_is); (case k8 => k_is); (case k9 => decide); intro q' h' F' N' l1; (try k_lt l1))))
local macro_rules | `(tactic| walk_at "callWith ref") => `(tactic| (k_here; ks_any; k_dflt (refine' callWith_mw ?k1 ?k2 ?_; (case k1 => k_asm); (case k2 => k_mem); k_whole)))
local macro_rules | `(tactic| walk_at "MwP ref") => `(tactic| (k_here; k_dflt (refine' mwP ?N ?q; (case N => k_asm); (case q => k_mem))))
local macro_rules | `(tactic| walk_at "MwP") => `(tactic| (k_here; k_dflt (refine' mwP ?N ?q; (case N => k_asm); (case q => k_mem))))
local macro_rules | `(tactic| walk_at "call ref") => `(tactic| (k_here; ks_any; k_dflt (refine' call_mwK ?k1 ?k2 ?k3 ?k4 ?k5 ?k6 ?k7 ?_; (case k1 => k_asm); (case k2 => k_asm); (case k3 => k_asm); (case k5 => k_mem); (case k6 => k_upd); (case k4 => k_is); (case k7 => exact Nat.le_of_ble_eq_true rfl); k_whole; intro h' F' N' l1; (try k_lt l1); (try k_sweep))))
local macro_rules | `(tactic| walk_at "setAttr ref") => `(tactic| (k_here; ks_any; k_dflt (refine' set_exc0K ?k1 ?k2 ?k3 ?k4 ?k5 ?k6 ?k7 ?k8 ?k9 ?k10 ?_; (case k1 => k_asm); (case k2 => k_asm); (case k3 => k_asm); (case k4 => k_inst); (case k5 => k_is); (case k6 => k_is); (case k7 => rfl); (case k8 => k_is); (case k9 => rfl); (case k10 => k_upd); k_whole; intro h' F' N' l1; (try k_lt l1); (try k_sweep))))
local macro_rules | `(tactic| walk_at "setAttr ref") => `(tactic| (k_here; ks_any; k_dflt (refine' set_exc1K ?k1 ?k2 ?k3 ?k4 ?k5 ?k6 ?k7 ?k8 ?k9 ?k10 ?k11 ?k12 ?k13 ?_; (case k1 => k_asm); (case k2 => k_asm); (case k3 => k_asm); (case k4 => k_inst); (case k5 => k_is); (case k6 => k_is); (case k7 => rfl); (case k8 => k_is); (case k9 => rfl); (case k10 => k_get); (case k11 => k_put); (case k12 => k_upd); (case k13 => exact Nat.le_of_ble_eq_true rfl); k_whole; intro h' F' N'; (try k_sweep))))
local macro_rules | `(tactic| walk_at "getAttr ref") => `(tactic| (k_here; ks_any; k_dflt (refine' get_excK ?k1 ?k2 ?k3 ?k4 ?k5 ?k6 ?k7 ?k8 ?k9 ?k10 ?k11 ?_; (case k1 => k_asm); (case k2 => k_asm); (case k3 => k_inst); (case k4 => k_is); (case k5 => k_is); (case k6 => k_is); (case k7 => k_is); (case k8 => k_is); (case k9 => k_is); (case k10 => k_get); (case k11 => k_handed); k_whole)))
local macro_rules | `(tactic| walk_at "call builtin:str.format") => `(tactic| (k_here; (with_reducible show wpAny _ _ (call (Value.builtin "str.format") [Value.str _ _, Value.ref _]) _ _ _); k_dflt (refine' fmt_listK ?k1 ?k2 ?k3 ?k4 ?k5 ?k6 ?k7 ?_; (case k1 => k_asm); (case k2 => k_asm); (case k3 => k_mem); (case k4 => first | assumption | exact StrsAre.nil); (case k5 => rfl); (case k6 => k_units); (case k7 => first | assumption | omega | decide); k_whole; intro h' t' k' F' N'; (try k_sweep))))

set_option hygiene false in
local macro_rules | `(tactic| k_all) => `(tactic| (intro p9 hp9; have z9 := ltN (lt1 p9 hp9); refine neN ?_; (try dsimp only); omega))
local macro_rules | `(tactic| k_room) => `(tactic| ((try simp only [depth_under_make, depth_under_kw, depth_in1, depth_deeper, depth_caller]); (try simp only [recursionLimit]); omega))
/-- a law's frame around -/
abbrev envL (nm : PySem.Str) (nms : List (PySem.Str × NameKind)) (mo : List (PySem.Str × Const)) (L fa : Addr) (cd : Value) : Env := envOf nm { kind := ScopeKind.function, names := nms, isGenerator := false, isCoroutine := false, more := mo } L fa cd
abbrev AL (hd0 : Option Value) (dp : Nat) (e : Env) (outer : List Env) (gd : Option (List Code)) (u : Nat) : Around := ⟨hd0, dp, some (e :: outer), gd, u⟩
section
variable {w : World} {A₀ : Around} {E : Value → Shared → Prop} {s : Shared} {h₀ base : Heap} {L fa : Addr} {m mg mb : Str → Option Value} {news : List (Addr × Obj)} {p : Program} {loose : List Str} {mean : ExcName → Option Value} {outer : List Env} {a : Addr} {Q : Value → Shared → Prop}
  {hd0 : Option Value} {dp u : Nat} {gd : Option (List Code)} {nm : PySem.Str} {nms : List (PySem.Str × NameKind)} {mo : List (PySem.Str × Const)} {cd : Value}
set_option maxHeartbeats 2000000 in
theorem mk_refK (B : Below A₀ base outer h₀) (F : Fr h₀ L s.heap m) (X₀ : (hd.heap_39 w.params).In h₀) (N : News h₀ L s.heap news) (T : Top p loose mean mg mb h₀) (hroom : dp < 900)
    (h : ∀ x dx tu h' t1 t2 n tk, Fr h₀ L h' m → News h₀ L h' ((dx, dictOf (defDict w.params t1 t2 (.ref a) (.ref a)) n) :: (tu, tupOf [.ref a]) :: (x, excOf 84 dx tu) :: news) → (∀ p ∈ news, p.1 < x) → x < tu → tu < dx → Q (.ref x) { s with heap := h', toks := tk }) :
    wpAny (model prg w) (AL hd0 dp (envOf nm { kind := ScopeKind.function, names := nms, isGenerator := false, isCoroutine := false, more := mo } L fa cd) outer gd u) (call (.ref 84) [.ref a]) Q E s := by
  have : PySem.Challenge.rw_dm0089_02 = PySem.Challenge.rw_dm0089_02 ∧ hd.heap_39 = hd.heap_39 := by (k_fill; exact ⟨rfl, rfl⟩)
  clear this
  refine call_excK F X₀ N (makes84 _) (by k_is) (by k_is) (Nat.le_of_ble_eq_true rfl) ?_
  intro x tu h1 F1 N1 lt1 lt2
  clear F N
  k_lt2 lt2
  ks_enter
  k_steps
  rename News h₀ L _ _ => NN
  refine' h x ?dx ?tu _ ?t1 ?t2 ?n _ ?F (kst_newsOf NN (List.forall_mem_cons.mpr ⟨?m1, List.forall_mem_cons.mpr ⟨?m2, List.forall_mem_cons.mpr ⟨?m3, ?m4⟩⟩⟩)) ?l1 ?l2 ?l3
  case m3 => k_mem
  case m1 => k_mem
  case m2 => k_mem
  case m4 => (intro p9 hp9; repeat' (first | exact hp9 | refine List.Mem.tail _ ?_))
  case F => assumption
  case l1 => exact fun p9 hp9 => Nat.lt_trans (lt1 p9 hp9) lt2
  case l2 => (refine ltN ?_; (try dsimp only at *); omega)
  case l3 => (refine ltN ?_; (try dsimp only at *); omega)
set_option maxHeartbeats 2000000 in
theorem mk_intK (B : Below A₀ base outer h₀) (F : Fr h₀ L s.heap m) (X₀ : (hd.heap_39 w.params).In h₀) (N : News h₀ L s.heap news) {y : Int} {ty : Tok} (T : Top p loose mean mg mb h₀) (hroom : dp < 900)
    (h : ∀ x dx tu h' t1 t2 n tk, Fr h₀ L h' m → News h₀ L h' ((dx, dictOf (defDict w.params t1 t2 (.int y ty) (.int y ty)) n) :: (tu, tupOf [.int y ty]) :: (x, excOf 84 dx tu) :: news) → (∀ p ∈ news, p.1 < x) → x < tu → tu < dx → Q (.ref x) { s with heap := h', toks := tk }) :
    wpAny (model prg w) (AL hd0 dp (envOf nm { kind := ScopeKind.function, names := nms, isGenerator := false, isCoroutine := false, more := mo } L fa cd) outer gd u) (call (.ref 84) [.int y ty]) Q E s := by
  have : PySem.Challenge.rw_dm0089_02 = PySem.Challenge.rw_dm0089_02 ∧ hd.heap_39 = hd.heap_39 := by (k_fill; exact ⟨rfl, rfl⟩)
  clear this
  refine call_excK F X₀ N (makes84 _) (by k_is) (by k_is) (Nat.le_of_ble_eq_true rfl) ?_
  intro x tu h1 F1 N1 lt1 lt2
  clear F N
  k_lt2 lt2
  ks_enter
  k_steps
  rename News h₀ L _ _ => NN
  refine' h x ?dx ?tu _ ?t1 ?t2 ?n _ ?F (kst_newsOf NN (List.forall_mem_cons.mpr ⟨?m1, List.forall_mem_cons.mpr ⟨?m2, List.forall_mem_cons.mpr ⟨?m3, ?m4⟩⟩⟩)) ?l1 ?l2 ?l3
  case m3 => k_mem
  case m1 => k_mem
  case m2 => k_mem
  case m4 => (intro p9 hp9; repeat' (first | exact hp9 | refine List.Mem.tail _ ?_))
  case F => assumption
  case l1 => exact fun p9 hp9 => Nat.lt_trans (lt1 p9 hp9) lt2
  case l2 => (refine ltN ?_; (try dsimp only at *); omega)
  case l3 => (refine ltN ?_; (try dsimp only at *); omega)
end
end Mine
end

section
open PySem PySem.W PySem.Calls PyProof.Rows
namespace Mine
/-- what stands behind the first words -/
def rest (to number : List Int) (i : Nat) : PySem.Str :=
  if h : 0 ≤ to.getD i (-1) ∧ (to.getD i (-1)).toNat < i then words ++ rest to number (to.getD i (-1)).toNat else PySem.Str.ofString (toString (number.getD i 0))
termination_by i
decreasing_by exact h.2
theorem rest_step {to number : List Int} {i : Nat} (h0 : 0 ≤ to.getD i (-1)) (h1 : (to.getD i (-1)).toNat < i) : rest to number i = words ++ rest to number (to.getD i (-1)).toNat := by
  rw [rest, dif_pos ⟨h0, h1⟩]
theorem rest_end {to number : List Int} {i : Nat} (h0 : ¬ 0 ≤ to.getD i (-1)) : rest to number i = PySem.Str.ofString (toString (number.getD i 0)) := by
  rw [rest, dif_neg (fun h => h0 h.1)]
theorem words_len : words.length = 52 := by decide +kernel
theorem rest_len {to number : List Int} (hn : ∀ k, (PySem.Str.ofString (toString (number.getD k 0))).length ≤ 10) (i : Nat) : (rest to number i).length ≤ 52 * i + 10 := by
  induction i using Nat.strongRecOn with
  | ind i ih =>
    by_cases h : 0 ≤ to.getD i (-1) ∧ (to.getD i (-1)).toNat < i
    · rw [rest, dif_pos h, Str.length_append, words_len]
      have := ih _ h.2
      have := h.2
      omega
    · rw [rest, dif_neg h]
      have := hn i
      omega
end Mine
end

section
open PySem PySem.W PySem.Calls PyProof.Rows
namespace Mine
/-- one defect: its objects' addresses, what it was made over, what it bears now, the pair kept of its making -/
structure Def where
  x : Addr
  dx : Addr
  tu : Addr
  p : Addr
  t1 : Tok
  t2 : Tok
  n : Nat
  line : Value
  np : Value
  pj : Int
  tj : Tok
  pv : Int
  tv : Tok
abbrev Def.objs (P : Params) (d : Def) : List (Addr × Obj) := [(d.dx, dictOf (defDict P d.t1 d.t2 d.line d.np) d.n), (d.tu, tupOf [d.line]), (d.x, excOf 84 d.dx d.tu), (d.p, tupOf [.int d.pj d.tj, .int d.pv d.tv])]
def fam (P : Params) (ds : List Def) : List (Addr × Obj) := ds.flatMap (Def.objs P)
structure Rel (ds : List Def) (to number : List Int) : Prop where
  lt : to.length = ds.length
  ln : number.length = ds.length
  pos : 0 < ds.length
  few : ds.length ≤ 16
  np : ∀ (k : Nat) (d : Def), ds[k]? = some d → (to.getD k (-1) = -1 ∧ ∃ t, d.np = .int (number.getD k 0) t) ∨ (0 ≤ to.getD k (-1) ∧ (to.getD k (-1)).toNat < k ∧ ∃ e, ds[(to.getD k (-1)).toNat]? = some e ∧ d.np = .ref e.x)
  fst : ∀ (k : Nat) (d : Def), ds[k]? = some d → (d.pj = -1 ∧ ∃ t, d.line = .int d.pv t) ∨ (0 ≤ d.pj ∧ d.pj.toNat < k ∧ ∃ e, ds[d.pj.toNat]? = some e ∧ d.line = .ref e.x)
  small : ∀ k : Nat, -1000 ≤ number.getD k 0 ∧ number.getD k 0 ≤ 1000
  pvs : ∀ (k : Nat) (d : Def), ds[k]? = some d → -1000 ≤ d.pv ∧ d.pv ≤ 1000
section
variable {P : Params} {ds : List Def} {k : Nat} {d : Def}
theorem fam_mem {q : Addr × Obj} (h : ds[k]? = some d) (hq : q ∈ Def.objs P d) : q ∈ fam P ds := List.mem_flatMap.mpr ⟨d, List.mem_of_getElem? h, hq⟩
theorem fam_x (h : ds[k]? = some d) : (d.x, excOf 84 d.dx d.tu) ∈ fam P ds := fam_mem h (by simp)
theorem fam_dx (h : ds[k]? = some d) : (d.dx, dictOf (defDict P d.t1 d.t2 d.line d.np) d.n) ∈ fam P ds := fam_mem h (by simp)
theorem fam_tu (h : ds[k]? = some d) : (d.tu, tupOf [d.line]) ∈ fam P ds := fam_mem h (by simp)
theorem fam_p (h : ds[k]? = some d) : (d.p, tupOf [.int d.pj d.tj, .int d.pv d.tv]) ∈ fam P ds := fam_mem h (by simp)
end
theorem num_len {i : Int} (h0 : -1000 ≤ i) (h1 : i ≤ 1000) : (PySem.Str.ofString (toString i)).length ≤ 10 := by
  have h := PySem.int_text_length_le10 (a := i) (k := 4) (by decide) (by omega)
  rw [PySem.ofString_length]
  omega
theorem num_log {i : Int} (h0 : -1000 ≤ i) (h1 : i ≤ 1000) : i.natAbs.log2 < 1920 := by
  have h : i.natAbs < 2 ^ 1920 := Nat.lt_of_lt_of_le (show i.natAbs < 2 ^ 10 by omega) (Nat.pow_le_pow_right (by decide) (by decide))
  by_cases h0 : i.natAbs = 0
  · rw [h0]; decide
  · exact (Nat.log2_lt h0).mpr h
theorem Rel.short {ds : List Def} {to number : List Int} (R : Rel ds to number) (k : Nat) : (rest to number k).length ≤ 52 * k + 10 := rest_len (fun k => num_len (R.small k).1 (R.small k).2) k
end Mine
end

section
open PySem PySem.W PySem.Calls PyProof.Rows
namespace Mine
section
open Builtin Builtin.Str
variable {prog : Program} {w : World} {A : Around} {E : Value → Shared → Prop} {s : Shared} {K : Frag} {x C f : Addr} {ox : Obj} {od : Option Obj}
theorem formatOf_own {Q : Value → Shared → Prop} (X : K.In s.heap) (I : InstAt s.heap x ox C od) (hfm : findIn K (.ref C) "__format__" = some (some (.builtin "object.__format__"))) (hm : mroIn K C (.type "object") = some true)
    (h : wpAny (model prog w) A.in1 (pyStrObj (.ref x)) (KfoBack Q) E { s with toks := s.toks + 1 }) : wpAny (model prog w) A (formatOf (.ref x) PySem.Str.empty) Q E s := by
  unfold PySem.Builtin.Str.formatOf
  refine wpAny_ite (KPc.ite_no Bool.false_ne_true ?_)
  refine wpAny_bind (wpAny_mkStr ?_ (by decide))
  refine wpAny_bind (m := callSpecial? (.ref x) (PySem.Str.ofString "__format__") [.str PySem.Str.empty s.toks]) (kfo_special (s := { s with toks := s.toks + 1 }) X I hfm PySem.F.slot_object_format.bind ?_)
  refine wpAny_call (codeAny_call_builtin PySem.F.slot_object_format.plain PySem.F.entry_object_format (kfo_check (i := "object.__format__") (owner := "object") (n := "__format__") (by decide +kernel) (by decide +kernel) (I.type.andThen (looks_mroIn X hm)) (PySem.F.args_object_format_2 _ _) ?_))
  show wpAny _ _ (do let _shown ← PySem.typeNameOf (Value.str PySem.Str.empty s.toks); (do ret (← pyStrObj (Value.ref x)))) _ _ _
  refine wpAny_bind (PySem.wpAny_typeNameOf (T := "str") (typeIs_str _ _ _) (by decide) fun _ => ?_)
  refine wpAny_bind (wpAny_mono h (fun r s₁ h₁ => ?_) fun _ _ e => e)
  obtain ⟨y, t, rfl, hq⟩ := h₁
  refine wpAny_pure ?_
  refine wpAny_bind (wpAny_of_eq (a := some y) rfl ?_)
  refine wpAny_ite (KPc.ite_no Bool.false_ne_true ?_)
  exact wpAny_pure hq
end
local macro_rules | `(tactic| walk_at "getAttr ref") => `(tactic| (k_here; ks_any; k_dflt (refine' get_excK ?k1 ?k2 ?k3 ?k4 ?k5 ?k6 ?k7 ?k8 ?k9 ?k10 ?k11 ?_; (case k1 => k_asm); (case k2 => k_asm); (case k3 => k_inst); (case k4 => k_is); (case k5 => k_is); (case k6 => k_is); (case k7 => k_is); (case k8 => k_is); (case k9 => k_is); (case k10 => k_get); (case k11 => k_handed); k_whole)))
local macro_rules | `(tactic| k_mem) => `(tactic| assumption)
local macro_rules | `(tactic| k_inst) => `(tactic| exact inst_exc (by k_asm) (by assumption) (by assumption))
local macro_rules | `(tactic| k_room) => `(tactic| ((try simp only [depth_under_make, depth_under_kw, depth_in1, depth_deeper, depth_caller]); (try simp only [recursionLimit]); omega))
local macro_rules | `(tactic| k_units) => `(tactic| ((try simp only [units_deeper, units_in1, Around.in1_units]); rw [cLine_is]; (try dsimp only); omega))
section
variable {w : World} {ds : List Def} {to number : List Int}
set_option maxHeartbeats 4000000 in
theorem str81 (R : Rel ds to number) : ∀ (k : Nat) (d : Def), ds[k]? = some d → ∀ {A₀ : Around} {E : Value → Shared → Prop} {s : Shared} {h₀ base : Heap} {L fa : Addr} {m mg mb : Str → Option Value} {news : List (Addr × Obj)} {p : Program} {loose : List Str} {mean : ExcName → Option Value} {outer : List Env} {Q : Value → Shared → Prop}
  {hd0 : Option Value} {dp u : Nat} {nm : PySem.Str} {nms : List (PySem.Str × NameKind)} {mo : List (PySem.Str × Const)} {cd : Value},
    Below A₀ base outer h₀ → Fr h₀ L s.heap m → (hd.heap_39 w.params).In h₀ → News h₀ L s.heap news → Top p loose mean mg mb h₀ → dp + 10 * k < 900 → u + 20 * k < 1000 → (∀ q ∈ fam w.params ds, q ∈ news) →
    (∀ h' t' j, Fr h₀ L h' m → News h₀ L h' news → Q (.str (words ++ rest to number k) t') { s with heap := h', toks := j }) →
    wpAny (model prg w) (AL hd0 dp (envOf nm { kind := ScopeKind.function, names := nms, isGenerator := false, isCoroutine := false, more := mo } L fa cd) outer (some []) u) (call (.ref 81) [.ref d.x]) Q E s := by
  intro k
  induction k using Nat.strongRecOn with
  | ind k ih =>
  intro d hk A₀ E s h₀ base L fa m mg mb news p loose mean outer Q hd0 dp u nm nms mo cd B F X₀ N T hroom hu hsub h
  have : PySem.Challenge.rw_dm0089_02 = PySem.Challenge.rw_dm0089_02 ∧ hd.heap_39 = hd.heap_39 := by (k_fill; exact ⟨rfl, rfl⟩)
  clear this
  have hx := hsub _ (fam_x hk)
  have hdx := hsub _ (fam_dx hk)
  have hsh := R.short k
  have hkk : k < 16 := by
    have := (List.getElem?_eq_some_iff.mp hk).1
    have := R.few
    omega
  rcases R.np k d hk with ⟨h1, tn, hnp⟩ | ⟨h1, h2, e, he, hnp⟩
  · rw [hnp] at hdx
    have hb := R.small k
    have hr : rest to number k = PySem.Str.ofString (toString (number.getD k 0)) := rest_end (by omega)
    rw [hr] at h hsh
    clear R ih
    refine wpAny_call ?_
    k_enter
    k_steps
    first
      | (refine h _ _ _ ?_ ?_ <;> assumption)
      | (refine fmt_words (KFm.formatOf_int (num_log hb.1 hb.2) fun t9 k9 => ⟨_, _, rfl, by omega, fun t8 k8 => ?_⟩)
         k_steps
         refine h _ _ _ ?_ ?_ <;> assumption)
  · rw [hnp] at hdx
    have hr : rest to number k = words ++ rest to number (to.getD k (-1)).toNat := rest_step h1 h2
    have hsh' := R.short (to.getD k (-1)).toNat
    have hw := words_len
    have hx2 := hsub _ (fam_x he)
    have hdx2 := hsub _ (fam_dx he)
    rw [hr] at h
    refine wpAny_call ?_
    k_enter
    k_steps
    refine fmt_words ?_
    rename Fr _ _ _ _ => F9
    rename News _ _ _ _ => N9
    rename Below _ _ _ _ => B9
    rename (hd.heap_39 w.params).In _ => X9
    rename Top _ _ _ _ _ _ => T9
    have I9 := inst_exc N9 hx2 hdx2
    refine formatOf_own (X9.keeps F9.keep) I9 (by k_is) (by k_is) (kfo_str (by k_units) (X9.keeps F9.keep) I9 (by k_is) (by k_is) ?_)
    refine ih _ h2 e he B9 F9 X9 N9 T9 ?_ ?_ hsub ?_
    · show dp + 1 + 10 * (to.getD k (-1)).toNat < 900
      omega
    · show u + 3 + 1 + 1 + 20 * (to.getD k (-1)).toNat < 1000
      omega
    · intro h' t' j F8 N8
      refine ⟨_, _, rfl, _, _, rfl, by rw [Str.length_append]; omega, fun t7 k7 => ?_⟩
      clear I9
      k_steps
      refine h _ _ _ ?_ ?_ <;> assumption
variable {A₀ : Around} {E : Value → Shared → Prop} {s : Shared} {h₀ base : Heap} {L fa : Addr} {m mg mb : Str → Option Value} {news : List (Addr × Obj)} {p : Program} {loose : List Str} {mean : ExcName → Option Value} {outer : List Env} {Q : Value → Shared → Prop}
  {hd0 : Option Value} {dp u : Nat} {nm : PySem.Str} {nms : List (PySem.Str × NameKind)} {mo : List (PySem.Str × Const)} {cd : Value}
set_option maxHeartbeats 4000000 in
theorem str_chain {k : Nat} {d : Def} (R : Rel ds to number) (hk : ds[k]? = some d) (B : Below A₀ base outer h₀) (F : Fr h₀ L s.heap m) (X₀ : (hd.heap_39 w.params).In h₀) (N : News h₀ L s.heap news) (T : Top p loose mean mg mb h₀) (hroom : dp < 700) (hu : u < 600) (hsub : ∀ q ∈ fam w.params ds, q ∈ news)
    (h : ∀ h' t' j, Fr h₀ L h' m → News h₀ L h' news → (rest to number k).length ≤ 1000 → Q (.str (words ++ rest to number k) t') { s with heap := h', toks := j }) :
    wpAny (model prg w) (AL hd0 dp (envOf nm { kind := ScopeKind.function, names := nms, isGenerator := false, isCoroutine := false, more := mo } L fa cd) outer (some []) u) (call (.type "str") [.ref d.x]) Q E s := by
  have : PySem.Challenge.rw_dm0089_02 = PySem.Challenge.rw_dm0089_02 ∧ hd.heap_39 = hd.heap_39 := by (k_fill; exact ⟨rfl, rfl⟩)
  clear this
  have hkk : k < 16 := by
    have := (List.getElem?_eq_some_iff.mp hk).1
    have := R.few
    omega
  have hsh := R.short k
  have I := inst_exc N (hsub _ (fam_x hk)) (hsub _ (fam_dx hk))
  refine kso_call (f := 81) (by k_units) (X₀.keeps F.keep) I (by k_is) (by k_is) ?_
  refine str81 R k d hk B F X₀ N T ?_ ?_ hsub ?_
  · show dp + 10 * k < 900
    omega
  · first | (show u + 1 + 1 + 20 * k < 1000; omega) | (show u + 1 + 1 + 1 + 20 * k < 1000; omega)
  · intro h' t' j F' N'
    exact h h' t' j F' N' (by omega)
end
end Mine
end

section
open PySem PySem.W PySem.Calls PyProof.Rows
namespace Mine
section
variable {prog : Program} {w : World} {A : Around} {E : Value → Shared → Prop} {s : Shared} {h₀ : Heap} {L : Addr} {news : List (Addr × Obj)} {value slice : PySem.Expr} {l : Addr} {its : Array Value} {c : Nat} {u : Tok} {v : Value} {i : Int} {Q : Value → Shared → Prop} {vs : List Value} {ns : List Int}
theorem item_vK (N : News h₀ L s.heap news) (hl : (l, listOf its c) ∈ news) (h0 : 0 ≤ i) (hhi : i < 1000) (hx : its[i.toNat]? = some v) (h : Q v s)
    (hs : subscripted slice false (.ref l) (.int i u) = operate [.ref l, .int i u] (getItem (.ref l) (.int i u)) := by with_unfolding_all rfl) :
    wpAny (model prog w) A (subscriptTail value slice (.ref l) (.int i u)) Q E s :=
  have hL : s.heap.IsList l its := ⟨_, (N _ hl).1, rfl, c, rfl⟩
  tail_any hL.typeIs slot_list_getitem.lookup (wpAny_getItem_list hL h0 (by omega) hx h) hs
theorem item_intK (N : News h₀ L s.heap news) (hl : (l, listOf vs.toArray c) ∈ news) (hi : IntsAre vs ns) (h0 : 0 ≤ i) (h1 : i < ns.length) (hhi : ns.length ≤ 1000) (d : Int) (h : ∀ t, Q (.int (ns.getD i.toNat d) t) s)
    (hs : subscripted slice false (.ref l) (.int i u) = operate [.ref l, .int i u] (getItem (.ref l) (.int i u)) := by with_unfolding_all rfl) :
    wpAny (model prog w) A (subscriptTail value slice (.ref l) (.int i u)) Q E s := by
  obtain ⟨t, ht⟩ := hi.get i.toNat (ns.getD i.toNat d) (by rw [List.getD_eq_getElem?_getD, List.getElem?_eq_getElem (by omega)]; rfl)
  exact item_vK N hl h0 (by omega) (by simpa using ht) (h t) hs
end
structure ToldP (to number : List Int) (k : Nat) (i : Int) (text : PySem.Str) : Prop where
  i0 : 0 ≤ i
  ik : i.toNat ≤ k
  eq : text ++ rest to number i.toNat = words ++ rest to number k
  len : text.length + 52 * i.toNat ≤ 52 * (k + 1)
theorem told_start {to number : List Int} {k : Int} (h : 0 ≤ k) : ToldP to number k.toNat k words := ⟨h, Nat.le_refl _, rfl, by rw [words_len]; omega⟩
theorem told_turn {to number : List Int} {k : Nat} {i : Int} {text : PySem.Str} (T : ToldP to number k i text) (h0 : 0 ≤ to.getD i.toNat (-1)) (h1 : (to.getD i.toNat (-1)).toNat < i.toNat) : ToldP to number k (to.getD i.toNat (-1)) (text ++ words) := by
  refine ⟨h0, by have := T.ik; omega, ?_, ?_⟩
  · rw [← T.eq, rest_step h0 h1, Str.append_assoc]
  · rw [Str.length_append, words_len]
    have := T.len
    omega
theorem told_end {to number : List Int} {k : Nat} {i : Int} {text : PySem.Str} (T : ToldP to number k i text) (h0 : ¬ 0 ≤ to.getD i.toNat (-1)) : text ++ PySem.Str.ofString (toString (number.getD i.toNat 0)) = words ++ rest to number k := by
  rw [← T.eq, rest_end h0]
local macro_rules | `(tactic| k_mem) => `(tactic| assumption)
local macro_rules | `(tactic| k_room) => `(tactic| ((try simp only [depth_under_make, depth_under_kw, depth_in1, depth_deeper, depth_caller]); (try simp only [recursionLimit]); omega))
local macro_rules | `(tactic| k_units) => `(tactic| ((try simp only [units_deeper, units_in1, Around.in1_units]); rw [cLine_is]; (try dsimp only); omega))
/-- the loop's state: place, text, their tokens -/
structure TSt where
  i : Int
  ti : Tok
  text : PySem.Str
  tt : Tok
abbrev tps (c : TSt) : List (PySem.Str × Value) := [(PySem.Str.ofString "i", .int c.i c.ti), (PySem.Str.ofString "text", .str c.text c.tt)]
section
variable {w : World} {ds : List Def} {to number : List Int}
variable {A₀ : Around} {E : Value → Shared → Prop} {s : Shared} {h₀ base : Heap} {L fa : Addr} {m mg mb : Str → Option Value} {news : List (Addr × Obj)} {p : Program} {loose : List Str} {mean : ExcName → Option Value} {outer : List Env} {Q : Value → Shared → Prop}
  {hd0 : Option Value} {dp u : Nat} {nm : PySem.Str} {nms : List (PySem.Str × NameKind)} {mo : List (PySem.Str × Const)} {cd : Value} {ta na : Addr} {vt vn : List Value} {c1 c2 : Nat} {k : Int} {tk : Tok}
theorem told_while {prog : Program} {A : Around} {Q : Flow → Shared → Prop} {s : Shared} {env : Env} {h₀ : Heap} {L : Addr} {test : Expr} {body : List Stmt} {pos : Pos} {m₀ : PySem.Str → Option Value} {news : List (Addr × Obj)} {k : Int} {tk tt : Tok} {to number : List Int} (h0 : 0 ≤ k)
    (F : Fr h₀ L s.heap m₀) (N : News h₀ L s.heap news) (hi : m₀ (PySem.Str.ofString "i") = some (.int k tk)) (ht : m₀ (PySem.Str.ofString "text") = some (.str words tt))
    (turn : ∀ (c : TSt) (u : PySem.Str → Option Value) h tk, ToldP to number k.toNat c.i c.text → Fr h₀ L h (kstB (fun z => if ([] : List PySem.Str).contains z then u z else m₀ z) (tps c)) → News h₀ L h news →
      wpAny (model prog w) A (isTrue test env (eval test env)) (fun b s₂ =>
        if b = true then wpAny (model prog w) A (execs body env) (KswPost h₀ L s (fun _ => news) tps (fun _ => True) [] m₀ (fun c => ToldP to number k.toNat c.i c.text) (fun c => c.i.toNat) Q c) E s₂ else Q .next s₂) E { s with heap := h, toks := tk })
    (hE : PassesOwn (model prog w) A env E := by passes_own) :
    wpAny (model prog w) A (exec (.While test body [] pos) env) Q E s :=
  ksw_while (fun _ => news) tps (fun _ => True) [] (fun c => ToldP to number k.toNat c.i c.text) (fun c => c.i.toNat) ⟨k, tk, words, tt⟩ F N trivial (by
    intro p hp
    rcases List.mem_cons.mp hp with rfl | hp
    · exact hi
    · rw [List.mem_singleton.mp hp]; exact ht) (told_start h0) (fun c u h tk _ P F N => turn c u h tk P F N) hE
set_option hygiene false in
local macro_rules | `(tactic| walk_at "exec While Compare cons nil") => `(tactic| (k_here; k_dflt (refine' told_while (to := to) (number := number) (k := k) h0 ?k2 ?k3 ?k4 ?k5 ?_ ?kE; (case k2 => k_asm); (case k3 => k_asm); (case k4 => rfl); (case k5 => rfl); (case kE => passes_own); intro c9 u9 h9 tk9 P9 F9 N9; obtain ⟨i9, ti9, text9, tt9⟩ := c9; have b9 := P9.i0; (have b8 : i9.toNat < ds.length := by have := P9.ik; (dsimp only at this); omega); (have l9 : text9.length ≤ 1000 := by have := P9.len; have := R.few; (dsimp only at *); omega); (dsimp only at *); (try k_sweep))))
set_option hygiene false in
local macro_rules | `(tactic| walk_at "subscriptTail") => `(tactic| (k_here; (with_reducible show wpAny _ _ (subscriptTail _ _ (Value.ref _) (Value.int _ _)) _ _ _); k_dflt (first | refine item_intK (by k_asm) ht It b9 (by have := R.lt; omega) (by have := R.lt; have := R.few; omega) (-1) ?_ | refine item_intK (by k_asm) hn In b9 (by have := R.ln; omega) (by have := R.ln; have := R.few; omega) 0 ?_); intro t'))
set_option hygiene false in
local macro_rules | `(tactic| walk_at "call type:str") => `(tactic| (k_here; (with_reducible show wpAny _ _ (call (Value.type "str") [Value.int _ _]) _ _ _); k_dflt (refine PySem.P.str_of_int (num_log (R.small _).1 (R.small _).2) ?_); have l8 := num_len (R.small i9.toNat).1 (R.small i9.toNat).2))
theorem Rel.down (R : Rel ds to number) {j : Nat} (h : 0 ≤ to.getD j (-1)) : (to.getD j (-1)).toNat < j := by
  by_cases hj : j < ds.length
  · rcases R.np j ds[j] (List.getElem?_eq_getElem hj) with h1 | h1
    · omega
    · exact h1.2.1
  · have := R.lt
    rw [List.getD_eq_getElem?_getD, List.getElem?_eq_none (by omega)] at h
    exact absurd h (by decide)
set_option maxHeartbeats 4000000 in
theorem told_call (R : Rel ds to number) (B : Below A₀ base outer h₀) (F : Fr h₀ L s.heap m) (X₀ : (hd.heap_39 w.params).In h₀) (N : News h₀ L s.heap news) (T : Top p loose mean mg mb h₀) (hroom : dp < 700) (hu : u < 600) (ht : (ta, listOf vt.toArray c1) ∈ news) (hn : (na, listOf vn.toArray c2) ∈ news)
    (It : IntsAre vt to) (In : IntsAre vn number) (h0 : 0 ≤ k) (h1 : k < ds.length)
    (h : ∀ h' t' j, Fr h₀ L h' m → News h₀ L h' news → Q (.str (words ++ rest to number k.toNat) t') { s with heap := h', toks := j }) :
    wpAny (model prg w) (AL hd0 dp (envOf nm { kind := ScopeKind.function, names := nms, isGenerator := false, isCoroutine := false, more := mo } L fa cd) outer (some []) u) (call (.ref 93) [.ref ta, .ref na, .int k tk]) Q E s := by
  have : PySem.Challenge.rw_dm0089_02 = PySem.Challenge.rw_dm0089_02 ∧ hd.heap_39 = hd.heap_39 := by (k_fill; exact ⟨rfl, rfl⟩)
  clear this
  refine wpAny_call ?_
  k_enter
  k_steps
  · have e9 : 0 ≤ to.getD i9.toNat (-1) := by assumption
    have d9 := R.down e9
    refine ksw_end ⟨_, _, _, _⟩ (by assumption) (by assumption) (fun _ h => h) trivial (List.forall_mem_cons.mpr ⟨rfl, List.forall_mem_cons.mpr ⟨rfl, nofun⟩⟩) ?_ (told_turn P9 e9 d9) d9
    intro z hz _
    have q1 := hz _ (.head _)
    have q2 := hz _ (.tail _ (.head _))
    dsimp only [kstB] at q1 q2 ⊢
    simp only [if_neg q1, if_neg q2]
    rfl
  · have e9 : ¬ 0 ≤ to.getD i9.toNat (-1) := by assumption
    have n9 := R.small i9.toNat
    have q9 := told_end P9 e9
    refine Eq.subst (motive := fun z => Q (.str z _) _) q9.symm (h _ _ _ ?_ ?_) <;> assumption
end
end Mine
end

section
open PySem PySem.W PySem.Calls PyProof.Rows PyProof.V PySem.Spec
namespace Mine
abbrev nMade : PySem.Str := PySem.Str.ofString "made"
abbrev nTo : PySem.Str := PySem.Str.ofString "to"
abbrev nNumber : PySem.Str := PySem.Str.ofString "number"
abbrev nFirst : PySem.Str := PySem.Str.ofString "first"
structure St02 where
  ma : Addr
  ta : Addr
  na : Addr
  fa : Addr
  ds : List Def
  to : List Int
  number : List Int
  vt : List Value
  vn : List Value
  c1 : Nat
  c2 : Nat
  c3 : Nat
  c4 : Nat
abbrev xsOf (ds : List Def) : List Value := ds.map fun d => Value.ref d.x
abbrev psOf (ds : List Def) : List Value := ds.map fun d => Value.ref d.p
abbrev led4 (c : St02) : List (Addr × Obj) := [(c.ma, listOf (xsOf c.ds).toArray c.c1), (c.ta, listOf c.vt.toArray c.c2), (c.na, listOf c.vn.toArray c.c3), (c.fa, listOf (psOf c.ds).toArray c.c4)]
abbrev ledger (P : Params) (sl : Addr × Obj) (c : St02) : List (Addr × Obj) := (c.ma, listOf (xsOf c.ds).toArray c.c1) :: (c.ta, listOf c.vt.toArray c.c2) :: (c.na, listOf c.vn.toArray c.c3) :: (c.fa, listOf (psOf c.ds).toArray c.c4) :: sl :: fam P c.ds
abbrev mps (c : St02) : List (PySem.Str × Value) := [(nMade, .ref c.ma), (nTo, .ref c.ta), (nNumber, .ref c.na), (nFirst, .ref c.fa)]
structure Good (P : Params) (sl : Addr × Obj) (m : PySem.Str → Option Value) (nx : List (Addr × Obj)) (c : St02) : Prop where
  names : ∀ p ∈ mps c, m p.1 = some p.2
  eq : nx = ledger P sl c
  it : IntsAre c.vt c.to
  nn : IntsAre c.vn c.number
  rel : Rel c.ds c.to c.number
  nodup : (nx.map (·.1)).Nodup
def JJ (P : Params) (sl : Addr × Obj) (_i : Nat) (m : PySem.Str → Option Value) (nx : List (Addr × Obj)) : Prop := ∃ c, Good P sl m nx c
/-- the way's end: the next turn's word holds -/
def Fin02 (h₀ : Heap) (L : Addr) (J : (PySem.Str → Option Value) → List (Addr × Obj) → Prop) (own : List (Addr × Obj)) (s₁ : Shared) (f : Flow) (s₂ : Shared) : Prop := f = .next ∧ TbEnd h₀ L J own s₁ s₂
theorem cut_tb {M : Model} {A : Around} {E : Value → Shared → Prop} {env : Env} {s : Shared} {h₀ : Heap} {L : Addr} {J : (PySem.Str → Option Value) → List (Addr × Obj) → Prop} {own : List (Addr × Obj)} {s₁ : Shared} {Q : Flow → Shared → Prop} {st : Stmt} {rest : List Stmt}
    (h1 : wpAny M A (exec st env) (Fin02 h₀ L J own s₁) E s) (h2 : ∀ s', TbEnd h₀ L J own s₁ s' → wpAny M A (execs rest env) (TbPost h₀ L J own s₁ Q) E s') : wpAny M A (execs (st :: rest) env) (TbPost h₀ L J own s₁ Q) E s := by
  refine wpAny_execs_cons (wpAny_mono h1 (fun f s' h => ?_) fun _ _ e => e)
  obtain ⟨rfl, h⟩ := h
  exact h2 s' h
theorem fr_names {h₀ h : Heap} {L : Addr} {m : PySem.Str → Option Value} {ps : List (PySem.Str × Value)} (hn : ∀ p ∈ ps, m p.1 = some p.2) (F : Fr h₀ L h m) : Fr h₀ L h (kstB m ps) := by
  have e : kstB m ps = m := by
    funext y
    exact kstB_eq hn fun _ => rfl
  rw [e]; exact F
theorem fr_names1 {h₀ h : Heap} {L : Addr} {m : PySem.Str → Option Value} {x : PySem.Str} {v : Value} {ps : List (PySem.Str × Value)} (hn : ∀ p ∈ ps, m p.1 = some p.2) (F : Fr h₀ L h (fun y => if y = x then some v else m y)) : Fr h₀ L h (fun y => if y = x then some v else kstB m ps y) := by
  have e : kstB m ps = m := by
    funext y
    exact kstB_eq hn fun _ => rfl
  rw [e]; exact F
theorem nodup_upd {a b : List (Addr × Obj)} (h : (a.map (·.1)).Nodup) (e : b.map (·.1) = a.map (·.1)) : (b.map (·.1)).Nodup := e ▸ h
def J2 (P : Params) (sl : Addr × Obj) (m : PySem.Str → Option Value) (nx : List (Addr × Obj)) : Prop := sl ∈ nx ∧ JJ P sl 0 m nx
section
variable {prog : Program} {w : World} {A : Around} {E : Value → Shared → Prop} {s : Shared} {env : Env} {h₀ : Heap} {x : Str} {body : List Stmt} {Q : Flow → Shared → Prop}
theorem loop02 {l : Addr} {vs : List Value} {ns : List Int} {nn : Nat} {m₀ : Str → Option Value} {news : List (Addr × Obj)} (P : Params) (c₀ : St02)
    (hh : A.handled = none) (F : Fr h₀ env.locals s.heap m₀) (N : News h₀ env.locals s.heap news) (hi : IntsAre vs ns) (hnm : ∀ p ∈ mps c₀, m₀ p.1 = some p.2) (hsub : ∀ p ∈ ledger P (l, listOf vs.toArray nn) c₀, p ∈ news)
    (hit : IntsAre c₀.vt c₀.to) (hin : IntsAre c₀.vn c₀.number) (hrel : Rel c₀.ds c₀.to c₀.number) (hnd : ((ledger P (l, listOf vs.toArray nn) c₀).map (·.1)).Nodup)
    (turn : ∀ n t (c : St02) m₁ h tk own, TbOff own (ledger P (l, listOf vs.toArray nn) c) → IntsAre c.vt c.to → IntsAre c.vn c.number → Rel c.ds c.to c.number → ((ledger P (l, listOf vs.toArray nn) c).map (·.1)).Nodup →
      Fr h₀ env.locals h (fun y => if y = x then some (.int n t) else kstB m₁ (mps c) y) → News h₀ env.locals h (ledger P (l, listOf vs.toArray nn) c ++ own) →
      wpAny (model prog w) A (execs body env) (TbPost h₀ env.locals (J2 P (l, listOf vs.toArray nn)) own { s with heap := h, toks := tk } Q) E { s with heap := h, toks := tk })
    (done : ∀ (c : St02) m₁ h tk, IntsAre c.vt c.to → IntsAre c.vn c.number → Rel c.ds c.to c.number → Fr h₀ env.locals h (kstB m₁ (mps c)) → News h₀ env.locals h (ledger P (l, listOf vs.toArray nn) c) → Q .next { s with heap := h, toks := tk }) :
    wpAny (model prog w) A (pyIter (.ref l)) (fun it s₂ => LoopAtV prog w A h₀ env x body Q E it s₂) E s := by
  have N' : News h₀ env.locals s.heap (ledger P (l, listOf vs.toArray nn) c₀) := fun p hp => N p (hsub p hp)
  refine inv_list (JJ P (l, listOf vs.toArray nn)) hh (.tail _ (.tail _ (.tail _ (.tail _ (.head _))))) hi F N' ⟨c₀, hnm, rfl, hit, hin, hrel, hnd⟩ ?_ ?_
  · rintro i n t m₁ nx h tk own hn hoff hl ⟨c, G⟩ F1 N1
    have F2 := fr_names1 G.names F1
    obtain ⟨_, e, It, In, R, nd⟩ := G
    subst e
    exact turn n t c m₁ h tk own hoff It In R nd F2 N1
  · rintro m₁ nx h tk hl ⟨c, G⟩ F1 N1
    have F2 := fr_names G.names F1
    obtain ⟨_, e, It, In, R, nd⟩ := G
    subst e
    exact done c m₁ h tk It In R F2 N1
end
theorem rel0 {d : Def} {t : Tok} (h1 : d.np = .int 0 t) (h2 : d.line = .int 0 t) (h3 : d.pj = -1) (h4 : d.pv = 0) : Rel [d] [-1] [0] where
  lt := rfl
  ln := rfl
  pos := by simp
  few := by simp
  np := by
    intro k e hk
    cases k with
    | zero => cases hk; exact .inl ⟨rfl, t, h1⟩
    | succ k => simp at hk
  fst := by
    intro k e hk
    cases k with
    | zero => cases hk; exact .inl ⟨h3, t, by rw [h4]; exact h2⟩
    | succ k => simp at hk
  small := by
    intro k
    cases k with
    | zero => decide
    | succ k => simp
  pvs := by
    intro k e hk
    cases k with
    | zero => cases hk; rw [h4]; decide
    | succ k => simp at hk
/-- the addresses are apart; R is the rest of the ledger -/
structure Ap (P : Params) (ma ta na fa : Addr) (sl : Addr × Obj) (ds : List Def) (own R : List (Addr × Obj)) : Prop where
  eq : R = fam P ds ++ own
  nd : (ma :: ta :: na :: fa :: sl.1 :: (fam P ds).map (·.1)).Nodup
  off : ∀ p ∈ own, p.1 ≠ ma ∧ p.1 ≠ ta ∧ p.1 ≠ na ∧ p.1 ≠ fa ∧ p.1 ≠ sl.1 ∧ ∀ q ∈ fam P ds, p.1 ≠ q.1
  n1 : ∀ p ∈ R, p.1 ≠ ma
  n2 : ∀ p ∈ R, p.1 ≠ ta
  n3 : ∀ p ∈ R, p.1 ≠ na
  n4 : ∀ p ∈ R, p.1 ≠ fa
  n5 : ∀ p ∈ R, p.1 ≠ sl.1
  d1 : @Ne Nat ma ta ∧ @Ne Nat ma na ∧ @Ne Nat ma fa ∧ @Ne Nat ma sl.1
  d2 : @Ne Nat ta na ∧ @Ne Nat ta fa ∧ @Ne Nat ta sl.1
  d3 : @Ne Nat na fa ∧ @Ne Nat na sl.1
  d4 : @Ne Nat fa sl.1
theorem ap_of {P : Params} {sl : Addr × Obj} {c : St02} {own : List (Addr × Obj)} (hoff : TbOff own (ledger P sl c)) (nd : ((ledger P sl c).map (·.1)).Nodup) : Ap P c.ma c.ta c.na c.fa sl c.ds own (fam P c.ds ++ own) := by
  have nd' : (c.ma :: c.ta :: c.na :: c.fa :: sl.1 :: (fam P c.ds).map (·.1)).Nodup := nd
  have off' : ∀ p ∈ own, p.1 ≠ c.ma ∧ p.1 ≠ c.ta ∧ p.1 ≠ c.na ∧ p.1 ≠ c.fa ∧ p.1 ≠ sl.1 ∧ ∀ q ∈ fam P c.ds, p.1 ≠ q.1 := fun p hp =>
    ⟨hoff p hp _ (.head _), hoff p hp _ (.tail _ (.head _)), hoff p hp _ (.tail _ (.tail _ (.head _))), hoff p hp _ (.tail _ (.tail _ (.tail _ (.head _)))), hoff p hp _ (.tail _ (.tail _ (.tail _ (.tail _ (.head _))))), fun q hq => hoff p hp q (.tail _ (.tail _ (.tail _ (.tail _ (.tail _ hq)))))⟩
  obtain ⟨a1, nd1⟩ := List.nodup_cons.mp nd'
  obtain ⟨a2, nd2⟩ := List.nodup_cons.mp nd1
  obtain ⟨a3, nd3⟩ := List.nodup_cons.mp nd2
  obtain ⟨a4, nd4⟩ := List.nodup_cons.mp nd3
  obtain ⟨a5, nd5⟩ := List.nodup_cons.mp nd4
  have tl : ∀ {a : Addr} {p : Addr × Obj}, a ∉ (fam P c.ds).map (·.1) → (∀ p ∈ own, p.1 ≠ a) → p ∈ fam P c.ds ++ own → p.1 ≠ a := fun h1 h2 hp => by
    rcases List.mem_append.mp hp with hp | hp
    · rintro rfl; exact h1 (List.mem_map.mpr ⟨_, hp, rfl⟩)
    · exact h2 _ hp
  simp only [List.mem_cons, not_or] at a1 a2 a3 a4
  exact ⟨rfl, nd', off', fun p hp => tl a1.2.2.2.2 (fun p hp => (off' p hp).1) hp, fun p hp => tl a2.2.2.2 (fun p hp => (off' p hp).2.1) hp, fun p hp => tl a3.2.2 (fun p hp => (off' p hp).2.2.1) hp, fun p hp => tl a4.2 (fun p hp => (off' p hp).2.2.2.1) hp, fun p hp => tl a5 (fun p hp => (off' p hp).2.2.2.2.1) hp,
    ⟨a1.1, a1.2.1, a1.2.2.1, a1.2.2.2.1⟩, ⟨a2.1, a2.2.1, a2.2.2.1⟩, ⟨a3.1, a3.2.1⟩, a4.1⟩
theorem nd0 {x tu dx ma ta na p fa l : Nat} (g1 : x < tu) (g2 : tu < dx) (g3 : dx < ma) (g4 : ma < ta) (g5 : ta < na) (g6 : na < p) (g7 : p < fa) (g8 : fa < l) : ([ma, ta, na, fa, l, dx, tu, x, p] : List Nat).Nodup := by
  simp only [List.nodup_cons, List.mem_cons, List.not_mem_nil, or_false, not_or, not_false_eq_true, true_and, List.nodup_nil, and_true]
  repeat' apply And.intro
  all_goals omega
theorem fam_one {P : Params} {d : Def} {news : List (Addr × Obj)} (h : ∀ p ∈ Def.objs P d, p ∈ news) : ∀ p ∈ fam P [d], p ∈ news := by
  intro p hp
  obtain ⟨e, he, hp⟩ := List.mem_flatMap.mp hp
  rw [List.mem_singleton.mp he] at hp
  exact h p hp
section
variable {prog : Program} {w : World} {A : Around} {E : Value → Shared → Prop} {s : Shared} {env : Env} {h₀ : Heap} {y : Str} {body : List Stmt} {Q : Flow → Shared → Prop}
theorem loop02s {l ma ta na fa x dx tu p : Addr} {vs : List Value} {ns : List Int} {nn c1 c2 c3 c4 n : Nat} {t1 t2 t t3 t4 tj tv : Tok} {m₀ : Str → Option Value} {news : List (Addr × Obj)} {P : Params}
    (hh : A.handled = none) (F : Fr h₀ env.locals s.heap m₀) (N : News h₀ env.locals s.heap news) (hi : IntsAre vs ns) (q1 : m₀ nMade = some (.ref ma)) (q2 : m₀ nTo = some (.ref ta)) (q3 : m₀ nNumber = some (.ref na)) (q4 : m₀ nFirst = some (.ref fa))
    (M1 : (ma, listOf #[.ref x] c1) ∈ news) (M2 : (ta, listOf #[.int (-1) t3] c2) ∈ news) (M3 : (na, listOf #[.int 0 t4] c3) ∈ news) (M4 : (fa, listOf #[.ref p] c4) ∈ news) (M5 : (l, listOf vs.toArray nn) ∈ news) (M6 : (x, excOf 84 dx tu) ∈ news)
    (M7 : (dx, dictOf (defDict P t1 t2 (.int 0 t) (.int 0 t)) n) ∈ news) (M8 : (tu, tupOf [.int 0 t]) ∈ news) (M9 : (p, tupOf [.int (-1) tj, .int 0 tv]) ∈ news)
    (g1 : x < tu) (g2 : tu < dx) (g3 : dx < ma) (g4 : ma < ta) (g5 : ta < na) (g6 : na < p) (g7 : p < fa) (g8 : fa < l)
    (turn : ∀ n t ma ta na fa ds to number vt vn c1 c2 c3 c4 (m₁ : PySem.Str → Option Value) h tk own R, Ap P ma ta na fa (l, listOf vs.toArray nn) ds own R → IntsAre vt to → IntsAre vn number → Rel ds to number →
      Fr h₀ env.locals h (fun z => if z = y then some (.int n t) else if z = PySem.Str.ofString "made" then some (.ref ma) else if z = PySem.Str.ofString "to" then some (.ref ta) else if z = PySem.Str.ofString "number" then some (.ref na) else if z = PySem.Str.ofString "first" then some (.ref fa) else m₁ z) → News h₀ env.locals h ((ma, listOf (xsOf ds).toArray c1) :: (ta, listOf vt.toArray c2) :: (na, listOf vn.toArray c3) :: (fa, listOf (psOf ds).toArray c4) :: (l, listOf vs.toArray nn) :: R) →
      wpAny (model prog w) A (execs body env) (TbPost h₀ env.locals (J2 P (l, listOf vs.toArray nn)) own { s with heap := h, toks := tk } Q) E { s with heap := h, toks := tk })
    (done : ∀ ma ta na fa ds to number vt vn c1 c2 c3 c4 (m₁ : PySem.Str → Option Value) h tk R, (∀ q ∈ fam P ds, q ∈ R) → IntsAre vt to → IntsAre vn number → Rel ds to number → Fr h₀ env.locals h (fun z => if z = PySem.Str.ofString "made" then some (.ref ma) else if z = PySem.Str.ofString "to" then some (.ref ta) else if z = PySem.Str.ofString "number" then some (.ref na) else if z = PySem.Str.ofString "first" then some (.ref fa) else m₁ z) → News h₀ env.locals h ((ma, listOf (xsOf ds).toArray c1) :: (ta, listOf vt.toArray c2) :: (na, listOf vn.toArray c3) :: (fa, listOf (psOf ds).toArray c4) :: (l, listOf vs.toArray nn) :: R) → Q .next { s with heap := h, toks := tk }) :
    wpAny (model prog w) A (pyIter (.ref l)) (fun it s₂ => LoopAtV prog w A h₀ env y body Q E it s₂) E s := by
  refine loop02 P ⟨ma, ta, na, fa, [⟨x, dx, tu, p, t1, t2, n, .int 0 t, .int 0 t, -1, tj, 0, tv⟩], [-1], [0], [.int (-1) t3], [.int 0 t4], c1, c2, c3, c4⟩ hh F N hi ?_ ?_ (.cons _ _ .nil) (.cons _ _ .nil) (rel0 rfl rfl rfl rfl) ?_ (fun n t c m₁ h tk own hoff It In R nd F N => turn n t _ _ _ _ _ _ _ _ _ _ _ _ _ _ _ _ _ _ (ap_of hoff nd) It In R F N) (fun c m₁ h tk It In R F N => done _ _ _ _ _ _ _ _ _ _ _ _ _ _ _ _ _ (fun _ hq => hq) It In R F N)
  · exact List.forall_mem_cons.mpr ⟨q1, List.forall_mem_cons.mpr ⟨q2, List.forall_mem_cons.mpr ⟨q3, List.forall_mem_cons.mpr ⟨q4, List.forall_mem_nil _⟩⟩⟩⟩
  · refine List.forall_mem_cons.mpr ⟨M1, List.forall_mem_cons.mpr ⟨M2, List.forall_mem_cons.mpr ⟨M3, List.forall_mem_cons.mpr ⟨M4, List.forall_mem_cons.mpr ⟨M5, fam_one ?_⟩⟩⟩⟩⟩
    exact List.forall_mem_cons.mpr ⟨M7, List.forall_mem_cons.mpr ⟨M8, List.forall_mem_cons.mpr ⟨M6, List.forall_mem_cons.mpr ⟨M9, List.forall_mem_nil _⟩⟩⟩⟩
  · exact nd0 g1 g2 g3 g4 g5 g6 g7 g8
end
end Mine
end

section
open PySem PySem.W PySem.Calls PyProof.Rows
namespace Mine
theorem getD_left {α : Type} {l : List α} {a x : α} {k : Nat} (h : k < l.length) : (l ++ [a]).getD k x = l.getD k x := by
  rw [List.getD_eq_getElem?_getD, List.getD_eq_getElem?_getD, List.getElem?_append_left h]
theorem getD_last {α : Type} {l : List α} {a x : α} {k : Nat} (h : k = l.length) : (l ++ [a]).getD k x = a := by
  rw [List.getD_eq_getElem?_getD, h, List.getElem?_append_right (Nat.le_refl _)]; simp
theorem getD_out {α : Type} {l : List α} {x : α} {k : Nat} (h : l.length ≤ k) : l.getD k x = x := by
  rw [List.getD_eq_getElem?_getD, List.getElem?_eq_none h]; rfl
theorem getD_set_self {α : Type} {l : List α} {a x : α} {k : Nat} (h : k < l.length) : (l.set k a).getD k x = a := by
  rw [List.getD_eq_getElem?_getD, List.getElem?_set_self h]; rfl
theorem getD_set_ne {α : Type} {l : List α} {a x : α} {i k : Nat} (h : k ≠ i) : (l.set i a).getD k x = l.getD k x := by
  rw [List.getD_eq_getElem?_getD, List.getElem?_set_ne (Ne.symm h), List.getD_eq_getElem?_getD]
section
variable {P : Params} {ds : List Def} {to number : List Int}
theorem Rel.new (R : Rel ds to number) (h16 : ds.length < 16) {d : Def} {a b : Int} (hnp : (a = -1 ∧ ∃ t, d.np = .int b t) ∨ (0 ≤ a ∧ a.toNat < ds.length ∧ ∃ e, ds[a.toNat]? = some e ∧ d.np = .ref e.x))
    (hfst : (d.pj = -1 ∧ ∃ t, d.line = .int d.pv t) ∨ (0 ≤ d.pj ∧ d.pj.toNat < ds.length ∧ ∃ e, ds[d.pj.toNat]? = some e ∧ d.line = .ref e.x)) (hb : -1000 ≤ b ∧ b ≤ 1000) (hv : -1000 ≤ d.pv ∧ d.pv ≤ 1000) : Rel (ds ++ [d]) (to ++ [a]) (number ++ [b]) where
  lt := by simp [R.lt]
  ln := by simp [R.ln]
  pos := by simp
  few := by simp; omega
  np := by
    intro k e hk
    have hkl : k < ds.length + 1 := by have := (List.getElem?_eq_some_iff.mp hk).1; simpa using this
    by_cases h : k < ds.length
    · rw [List.getElem?_append_left h] at hk
      rw [getD_left (by rw [R.lt]; exact h), getD_left (by rw [R.ln]; exact h)]
      rcases R.np k e hk with h1 | ⟨h1, h2, e', he', h3⟩
      · exact .inl h1
      · exact .inr ⟨h1, h2, e', by rw [List.getElem?_append_left (by omega)]; exact he', h3⟩
    · have hkk : k = ds.length := by omega
      subst hkk
      rw [List.getElem?_append_right (Nat.le_refl _)] at hk
      simp at hk
      subst hk
      rw [getD_last R.lt.symm, getD_last R.ln.symm]
      rcases hnp with h1 | ⟨h1, h2, e', he', h3⟩
      · exact .inl h1
      · exact .inr ⟨h1, h2, e', by rw [List.getElem?_append_left h2]; exact he', h3⟩
  fst := by
    intro k e hk
    have hkl : k < ds.length + 1 := by have := (List.getElem?_eq_some_iff.mp hk).1; simpa using this
    by_cases h : k < ds.length
    · rw [List.getElem?_append_left h] at hk
      rcases R.fst k e hk with h1 | ⟨h1, h2, e', he', h3⟩
      · exact .inl h1
      · exact .inr ⟨h1, h2, e', by rw [List.getElem?_append_left (by omega)]; exact he', h3⟩
    · have hkk : k = ds.length := by omega
      subst hkk
      rw [List.getElem?_append_right (Nat.le_refl _)] at hk
      simp at hk
      subst hk
      rcases hfst with h1 | ⟨h1, h2, e', he', h3⟩
      · exact .inl h1
      · exact .inr ⟨h1, h2, e', by rw [List.getElem?_append_left h2]; exact he', h3⟩
  small := by
    intro k
    by_cases h : k < number.length
    · rw [getD_left h]; exact R.small k
    · by_cases h2 : k = number.length
      · rw [getD_last h2]; exact hb
      · rw [getD_out (by simp; omega)]; decide
  pvs := by
    intro k e hk
    have hkl : k < ds.length + 1 := by have := (List.getElem?_eq_some_iff.mp hk).1; simpa using this
    by_cases h : k < ds.length
    · rw [List.getElem?_append_left h] at hk
      exact R.pvs k e hk
    · have hkk : k = ds.length := by omega
      subst hkk
      rw [List.getElem?_append_right (Nat.le_refl _)] at hk
      simp at hk
      subst hk
      exact hv
theorem get_set {i j : Nat} {d e : Def} {v : Value} (hi : ds[i]? = some d) (hj : ds[j]? = some e) : ∃ e', (ds.set i { d with np := v })[j]? = some e' ∧ e'.x = e.x ∧ e'.line = e.line ∧ e'.pj = e.pj ∧ e'.pv = e.pv ∧ (j ≠ i → e' = e) := by
  by_cases h : j = i
  · subst h
    rw [hi] at hj
    cases hj
    exact ⟨_, List.getElem?_set_self (List.getElem?_eq_some_iff.mp hi).1, rfl, rfl, rfl, rfl, fun h => absurd rfl h⟩
  · exact ⟨e, by rw [List.getElem?_set_ne (Ne.symm h)]; exact hj, rfl, rfl, rfl, rfl, fun _ => rfl⟩
theorem get_set' {i j : Nat} {d e' : Def} {v : Value} (hi : ds[i]? = some d) (hj : (ds.set i { d with np := v })[j]? = some e') : ∃ e, ds[j]? = some e ∧ e'.line = e.line ∧ e'.pj = e.pj ∧ e'.pv = e.pv ∧ (j ≠ i → e' = e) ∧ (j = i → e'.np = v) := by
  by_cases h : j = i
  · subst h
    rw [List.getElem?_set_self (List.getElem?_eq_some_iff.mp hi).1] at hj
    cases hj
    exact ⟨d, hi, rfl, rfl, rfl, fun h => absurd rfl h, fun _ => rfl⟩
  · rw [List.getElem?_set_ne (Ne.symm h)] at hj
    exact ⟨e', hj, rfl, rfl, rfl, fun _ => rfl, fun h' => absurd h' h⟩
theorem Rel.set (R : Rel ds to number) {i : Nat} {d : Def} {a : Int} {v : Value} {number' : List Int} (hi : ds[i]? = some d) (hn1 : number'.length = number.length) (hn2 : ∀ k, k ≠ i → number'.getD k 0 = number.getD k 0)
    (h : (a = -1 ∧ ∃ t, v = .int (number'.getD i 0) t) ∨ (0 ≤ a ∧ a.toNat < i ∧ ∃ e, ds[a.toNat]? = some e ∧ v = .ref e.x)) (hb : -1000 ≤ number'.getD i 0 ∧ number'.getD i 0 ≤ 1000) : Rel (ds.set i { d with np := v }) (to.set i a) number' where
  lt := by simp [R.lt]
  ln := by simp [R.ln, hn1]
  pos := by simpa using R.pos
  few := by simpa using R.few
  np := by
    intro k e' hk
    have hil := (List.getElem?_eq_some_iff.mp hi).1
    obtain ⟨e, he, _, _, _, q1, q2⟩ := get_set' hi hk
    by_cases hki : k = i
    · subst hki
      rw [q2 rfl, getD_set_self (by rw [R.lt]; exact hil)]
      rcases h with h1 | ⟨h1, h2, f, hf, h3⟩
      · exact .inl h1
      · obtain ⟨f', hf', hx, _⟩ := get_set (v := v) hi hf
        exact .inr ⟨h1, h2, f', hf', by rw [h3, hx]⟩
    · rw [q1 hki, getD_set_ne hki, hn2 k hki]
      rcases R.np k e he with h1 | ⟨h1, h2, f, hf, h3⟩
      · exact .inl h1
      · obtain ⟨f', hf', hx, _⟩ := get_set (v := v) hi hf
        exact .inr ⟨h1, h2, f', hf', by rw [h3, hx]⟩
  fst := by
    intro k e' hk
    obtain ⟨e, he, q1, q2, q3, _, _⟩ := get_set' hi hk
    rw [q1, q2, q3]
    rcases R.fst k e he with h1 | ⟨h1, h2, f, hf, h3⟩
    · exact .inl h1
    · obtain ⟨f', hf', hx, _⟩ := get_set (v := v) hi hf
      exact .inr ⟨h1, h2, f', hf', by rw [h3, hx]⟩
  small := by
    intro k
    by_cases hki : k = i
    · subst hki; exact hb
    · rw [hn2 k hki]; exact R.small k
  pvs := by
    intro k e' hk
    obtain ⟨e, he, _, _, q3, _, _⟩ := get_set' hi hk
    rw [q3]; exact R.pvs k e he
end
theorem fam_cons {P : Params} {d : Def} {ds : List Def} : fam P (d :: ds) = Def.objs P d ++ fam P ds := rfl
theorem fam_app {P : Params} {d : Def} : ∀ {ds : List Def}, fam P (ds ++ [d]) = fam P ds ++ Def.objs P d
  | [] => rfl
  | e :: r => by rw [List.cons_append, fam_cons, fam_cons, fam_app, List.append_assoc]
theorem upd_fam {P : Params} {d : Def} {v : Value} {own : List (Addr × Obj)} : ∀ {ds : List Def} {i : Nat}, ds[i]? = some d → ((fam P ds).map (·.1)).Nodup → (∀ p ∈ own, ∀ q ∈ fam P ds, p.1 ≠ q.1) →
    Upd d.dx (dictOf (defDict P d.t1 d.t2 d.line d.np) d.n) (dictOf (defDict P d.t1 d.t2 d.line v) d.n) (fam P ds ++ own) (fam P (ds.set i { d with np := v }) ++ own)
  | [], _, h, _, _ => by simp at h
  | e :: r, 0, h, nd, off => by
    cases h
    rw [fam_cons, List.map_append] at nd
    have nd' := nd
    simp only [Def.objs, List.map_cons, List.map_nil, List.cons_append, List.nil_append] at nd'
    obtain ⟨a1, _⟩ := List.nodup_cons.mp nd'
    simp only [List.mem_cons, not_or] at a1
    show Upd d.dx _ _ ((d.dx, _) :: ([(d.tu, tupOf [d.line]), (d.x, excOf 84 d.dx d.tu), (d.p, tupOf [.int d.pj d.tj, .int d.pv d.tv])] ++ fam P r ++ own)) ((d.dx, _) :: ([(d.tu, tupOf [d.line]), (d.x, excOf 84 d.dx d.tu), (d.p, tupOf [.int d.pj d.tj, .int d.pv d.tv])] ++ fam P r ++ own))
    refine Upd.head fun p hp => ?_
    rcases List.mem_append.mp hp with hp | hp
    · rcases List.mem_append.mp hp with hp | hp
      · simp only [List.mem_cons, List.not_mem_nil, or_false] at hp
        rcases hp with rfl | rfl | rfl
        · exact Ne.symm a1.1
        · exact Ne.symm a1.2.1
        · exact Ne.symm a1.2.2.1
      · rintro e
        exact a1.2.2.2 (List.mem_map.mpr ⟨p, hp, e⟩)
    · exact off p hp _ (by rw [fam_cons]; exact List.mem_append_left _ (.head _))
  | e :: r, i + 1, h, nd, off => by
    have h' : r[i]? = some d := by simpa using h
    rw [fam_cons, List.map_append] at nd
    obtain ⟨_, nd2, nd3⟩ := List.nodup_append.mp nd
    have ih := upd_fam (v := v) h' nd2 (fun p hp q hq => off p hp q (by rw [fam_cons]; exact List.mem_append_right _ hq))
    have hd : d.dx ∈ (fam P r).map (·.1) := List.mem_map.mpr ⟨_, fam_dx h', rfl⟩
    have ne : ∀ q ∈ Def.objs P e, q.1 ≠ d.dx := fun q hq => nd3 _ (List.mem_map.mpr ⟨q, hq, rfl⟩) _ hd
    show Upd d.dx _ _ (_ :: _ :: _ :: _ :: (fam P r ++ own)) (_ :: _ :: _ :: _ :: (fam P (r.set i { d with np := v }) ++ own))
    exact .tail (ne _ (.head _)) (.tail (ne _ (.tail _ (.head _))) (.tail (ne _ (.tail _ (.tail _ (.head _)))) (.tail (ne _ (.tail _ (.tail _ (.tail _ (.head _))))) ih)))
theorem fam_set_map {P : Params} {d : Def} {v : Value} : ∀ {ds : List Def} {i : Nat}, ds[i]? = some d → (fam P (ds.set i { d with np := v })).map (·.1) = (fam P ds).map (·.1)
  | [], _, h => by simp at h
  | e :: r, 0, h => by cases h; rfl
  | e :: r, i + 1, h => by
    have h' : r[i]? = some d := by simpa using h
    have ih := fam_set_map (P := P) (v := v) h'
    rw [List.set_cons_succ, fam_cons, fam_cons, List.map_append, List.map_append, ih]
theorem xs_set {d : Def} {v : Value} : ∀ {ds : List Def} {i : Nat}, ds[i]? = some d → xsOf (ds.set i { d with np := v }) = xsOf ds ∧ psOf (ds.set i { d with np := v }) = psOf ds
  | [], _, h => by simp at h
  | e :: r, 0, h => by cases h; exact ⟨rfl, rfl⟩
  | e :: r, i + 1, h => by
    have h' : r[i]? = some d := by simpa using h
    have ih := xs_set (v := v) h'
    exact ⟨by show _ :: xsOf _ = _ :: xsOf r; rw [ih.1], by show _ :: psOf _ = _ :: psOf r; rw [ih.2]⟩
end Mine
end

section
open PySem PySem.W PySem.Calls PyProof.Rows
namespace Mine
section
variable {h₀ : Heap} {L : Addr} {own R : List (Addr × Obj)} {s₁ : Shared} {P : Params} {ma ta na fa : Addr} {sl : Addr × Obj} {ds : List Def} {to number : List Int} {vt vn : List Value} {h' : Heap} {m' : PySem.Str → Option Value} {news' : List (Addr × Obj)} {tk c1 c2 c3 c4 : Nat}
theorem names4 (q1 : m' nMade = some (.ref ma)) (q2 : m' nTo = some (.ref ta)) (q3 : m' nNumber = some (.ref na)) (q4 : m' nFirst = some (.ref fa)) : ∀ p ∈ ([(nMade, .ref ma), (nTo, .ref ta), (nNumber, .ref na), (nFirst, .ref fa)] : List (PySem.Str × Value)), m' p.1 = some p.2 :=
  List.forall_mem_cons.mpr ⟨q1, List.forall_mem_cons.mpr ⟨q2, List.forall_mem_cons.mpr ⟨q3, List.forall_mem_cons.mpr ⟨q4, List.forall_mem_nil _⟩⟩⟩⟩
theorem fin_new (d : Def) {a b : Int} {t t' : Tok} (AP : Ap P ma ta na fa sl ds own R) (It : IntsAre vt to) (In : IntsAre vn number) (Rl : Rel ds to number) (F' : Fr h₀ L h' m') (N' : News h₀ L h' news')
    (q1 : m' nMade = some (.ref ma)) (q2 : m' nTo = some (.ref ta)) (q3 : m' nNumber = some (.ref na)) (q4 : m' nFirst = some (.ref fa))
    (O1 : (d.dx, dictOf (defDict P d.t1 d.t2 d.line d.np) d.n) ∈ news') (O2 : (d.tu, tupOf [d.line]) ∈ news') (O3 : (d.x, excOf 84 d.dx d.tu) ∈ news') (O4 : (d.p, tupOf [.int d.pj d.tj, .int d.pv d.tv]) ∈ news')
    (M1 : (ma, listOf ((xsOf ds).toArray.push (.ref d.x)) c1) ∈ news') (M2 : (ta, listOf (vt.toArray.push (.int a t)) c2) ∈ news') (M3 : (na, listOf (vn.toArray.push (.int b t')) c3) ∈ news') (M4 : (fa, listOf ((psOf ds).toArray.push (.ref d.p)) c4) ∈ news') (M5 : sl ∈ news') (MR : ∀ q ∈ R, q ∈ news')
    (lt : ma < d.x ∧ ta < d.x ∧ na < d.x ∧ fa < d.x ∧ sl.1 < d.x) (ltR : ∀ p ∈ R, p.1 < d.x) (l2 : d.x < d.tu) (l3 : d.tu < d.dx) (l4 : d.dx < d.p) (h16 : ds.length < 16)
    (hnp : (a = -1 ∧ ∃ t, d.np = .int b t) ∨ (0 ≤ a ∧ a.toNat < ds.length ∧ ∃ e, ds[a.toNat]? = some e ∧ d.np = .ref e.x))
    (hfst : (d.pj = -1 ∧ ∃ t, d.line = .int d.pv t) ∨ (0 ≤ d.pj ∧ d.pj.toNat < ds.length ∧ ∃ e, ds[d.pj.toNat]? = some e ∧ d.line = .ref e.x)) (hb : -1000 ≤ b ∧ b ≤ 1000) (hv : -1000 ≤ d.pv ∧ d.pv ≤ 1000) :
    Fin02 h₀ L (J2 P sl) own s₁ .next { s₁ with heap := h', toks := tk } := by
  obtain ⟨eR, nd, off, _⟩ := AP
  subst eR
  have e1 : (xsOf ds).toArray.push (.ref d.x) = (xsOf (ds ++ [d])).toArray := by simp [xsOf]
  have e4 : (psOf ds).toArray.push (.ref d.p) = (psOf (ds ++ [d])).toArray := by simp [psOf]
  have e2 : vt.toArray.push (.int a t) = (vt ++ [Value.int a t]).toArray := by simp
  have e3 : vn.toArray.push (.int b t') = (vn ++ [Value.int b t']).toArray := by simp
  rw [e1] at M1
  rw [e2] at M2
  rw [e3] at M3
  rw [e4] at M4
  have hobj : ∀ q ∈ Def.objs P d, q ∈ news' := List.forall_mem_cons.mpr ⟨O1, List.forall_mem_cons.mpr ⟨O2, List.forall_mem_cons.mpr ⟨O3, List.forall_mem_cons.mpr ⟨O4, List.forall_mem_nil _⟩⟩⟩⟩
  have hlt : ∀ q ∈ Def.objs P d, @LE.le Nat _ d.x q.1 := by
    have l2' : @LT.lt Nat _ d.x d.tu := l2
    have l3' : @LT.lt Nat _ d.tu d.dx := l3
    have l4' : @LT.lt Nat _ d.dx d.p := l4
    refine List.forall_mem_cons.mpr ⟨?_, List.forall_mem_cons.mpr ⟨?_, List.forall_mem_cons.mpr ⟨Nat.le_refl _, List.forall_mem_cons.mpr ⟨?_, List.forall_mem_nil _⟩⟩⟩⟩
    · show @LE.le Nat _ d.x d.dx
      omega
    · show @LE.le Nat _ d.x d.tu
      omega
    · show @LE.le Nat _ d.x d.p
      omega
  have ltF : ∀ p ∈ fam P ds, p.1 < d.x := fun p hp => ltR p (List.mem_append_left _ hp)
  have ltO : ∀ p ∈ own, p.1 < d.x := fun p hp => ltR p (List.mem_append_right _ hp)
  refine ⟨rfl, h', tk, m', news', ledger P sl ⟨ma, ta, na, fa, ds ++ [d], to ++ [a], number ++ [b], vt ++ [.int a t], vn ++ [.int b t'], c1, c2, c3, c4⟩, rfl, F', N', ?_, ?_, ?_, ?_, _, names4 q1 q2 q3 q4, rfl, IntsAre.append It (.cons _ _ .nil), IntsAre.append In (.cons _ _ .nil), Rl.new h16 hnp hfst hb hv, ?_⟩
  · refine List.forall_mem_cons.mpr ⟨M1, List.forall_mem_cons.mpr ⟨M2, List.forall_mem_cons.mpr ⟨M3, List.forall_mem_cons.mpr ⟨M4, List.forall_mem_cons.mpr ⟨M5, fun q hq => ?_⟩⟩⟩⟩⟩
    rw [fam_app] at hq
    rcases List.mem_append.mp hq with hq | hq
    · exact MR q (List.mem_append_left _ hq)
    · exact hobj q hq
  · exact fun q hq => MR q (List.mem_append_right _ hq)
  · intro p hp
    obtain ⟨o1, o2, o3, o4, o5, o6⟩ := off p hp
    refine List.forall_mem_cons.mpr ⟨o1, List.forall_mem_cons.mpr ⟨o2, List.forall_mem_cons.mpr ⟨o3, List.forall_mem_cons.mpr ⟨o4, List.forall_mem_cons.mpr ⟨o5, fun q hq => ?_⟩⟩⟩⟩⟩
    rw [fam_app] at hq
    rcases List.mem_append.mp hq with hq | hq
    · exact o6 q hq
    · exact Nat.ne_of_lt (Nat.lt_of_lt_of_le (ltO p hp) (hlt q hq))
  · exact .tail _ (.tail _ (.tail _ (.tail _ (.head _))))
  · show (ma :: ta :: na :: fa :: sl.1 :: (fam P (ds ++ [d])).map (·.1)).Nodup
    rw [fam_app, List.map_append]
    show ((ma :: ta :: na :: fa :: sl.1 :: (fam P ds).map (·.1)) ++ (Def.objs P d).map (·.1)).Nodup
    refine List.nodup_append.mpr ⟨nd, ?_, ?_⟩
    · show ([d.dx, d.tu, d.x, d.p] : List Nat).Nodup
      have l2' : @LT.lt Nat _ d.x d.tu := l2
      have l3' : @LT.lt Nat _ d.tu d.dx := l3
      have l4' : @LT.lt Nat _ d.dx d.p := l4
      simp only [List.nodup_cons, List.mem_cons, List.not_mem_nil, or_false, not_or, not_false_eq_true, true_and, List.nodup_nil, and_true]
      repeat' apply And.intro
      all_goals omega
    · intro a ha b hb
      obtain ⟨q, hq, rfl⟩ := List.mem_map.mp hb
      have hb' := hlt q hq
      have ha' : a < d.x := by
        simp only [List.mem_cons] at ha
        rcases ha with rfl | rfl | rfl | rfl | rfl | ha
        · exact lt.1
        · exact lt.2.1
        · exact lt.2.2.1
        · exact lt.2.2.2.1
        · exact lt.2.2.2.2
        · obtain ⟨p, hp, rfl⟩ := List.mem_map.mp ha
          exact ltF p hp
      exact Nat.ne_of_lt (Nat.lt_of_lt_of_le ha' hb')
theorem fin_set {i : Nat} {d : Def} {a : Int} {v : Value} {number' : List Int} {vt' vn' : List Value} (AP : Ap P ma ta na fa sl ds own R) (It : IntsAre vt' (to.set i a)) (In : IntsAre vn' number') (Rl : Rel ds to number) (hi : ds[i]? = some d) (F' : Fr h₀ L h' m') (N' : News h₀ L h' news')
    (q1 : m' nMade = some (.ref ma)) (q2 : m' nTo = some (.ref ta)) (q3 : m' nNumber = some (.ref na)) (q4 : m' nFirst = some (.ref fa))
    (M1 : (ma, listOf (xsOf ds).toArray c1) ∈ news') (M2 : (ta, listOf vt'.toArray c2) ∈ news') (M3 : (na, listOf vn'.toArray c3) ∈ news') (M4 : (fa, listOf (psOf ds).toArray c4) ∈ news') (M5 : sl ∈ news') (MR : ∀ q ∈ fam P (ds.set i { d with np := v }) ++ own, q ∈ news')
    (hn1 : number'.length = number.length) (hn2 : ∀ k, k ≠ i → number'.getD k 0 = number.getD k 0)
    (h : (a = -1 ∧ ∃ t, v = .int (number'.getD i 0) t) ∨ (0 ≤ a ∧ a.toNat < i ∧ ∃ e, ds[a.toNat]? = some e ∧ v = .ref e.x)) (hb : -1000 ≤ number'.getD i 0 ∧ number'.getD i 0 ≤ 1000) :
    Fin02 h₀ L (J2 P sl) own s₁ .next { s₁ with heap := h', toks := tk } := by
  obtain ⟨eR, nd, off, _⟩ := AP
  subst eR
  have ex := xs_set (v := v) hi
  have em := fam_set_map (P := P) (v := v) hi
  refine ⟨rfl, h', tk, m', news', ledger P sl ⟨ma, ta, na, fa, ds.set i { d with np := v }, to.set i a, number', vt', vn', c1, c2, c3, c4⟩, rfl, F', N', ?_, ?_, ?_, ?_, _, names4 q1 q2 q3 q4, rfl, It, In, Rl.set hi hn1 hn2 h hb, ?_⟩
  · refine List.forall_mem_cons.mpr ⟨?_, List.forall_mem_cons.mpr ⟨M2, List.forall_mem_cons.mpr ⟨M3, List.forall_mem_cons.mpr ⟨?_, List.forall_mem_cons.mpr ⟨M5, fun q hq => MR q (List.mem_append_left _ hq)⟩⟩⟩⟩⟩
    · show (ma, listOf (xsOf (ds.set i { d with np := v })).toArray c1) ∈ news'
      rw [ex.1]; exact M1
    · show (fa, listOf (psOf (ds.set i { d with np := v })).toArray c4) ∈ news'
      rw [ex.2]; exact M4
  · exact fun q hq => MR q (List.mem_append_right _ hq)
  · intro p hp
    obtain ⟨o1, o2, o3, o4, o5, o6⟩ := off p hp
    refine List.forall_mem_cons.mpr ⟨o1, List.forall_mem_cons.mpr ⟨o2, List.forall_mem_cons.mpr ⟨o3, List.forall_mem_cons.mpr ⟨o4, List.forall_mem_cons.mpr ⟨o5, fun q hq => ?_⟩⟩⟩⟩⟩
    have hq' : q.1 ∈ (fam P ds).map (·.1) := by rw [← em]; exact List.mem_map.mpr ⟨q, hq, rfl⟩
    obtain ⟨q', hq'', e⟩ := List.mem_map.mp hq'
    rw [← e]; exact o6 q' hq''
  · exact .tail _ (.tail _ (.tail _ (.tail _ (.head _))))
  · show (ma :: ta :: na :: fa :: sl.1 :: (fam P (ds.set i { d with np := v })).map (·.1)).Nodup
    rw [em]; exact nd
theorem fin_same (AP : Ap P ma ta na fa sl ds own R) (It : IntsAre vt to) (In : IntsAre vn number) (Rl : Rel ds to number) (F' : Fr h₀ L h' m') (N' : News h₀ L h' news')
    (q1 : m' nMade = some (.ref ma)) (q2 : m' nTo = some (.ref ta)) (q3 : m' nNumber = some (.ref na)) (q4 : m' nFirst = some (.ref fa))
    (M1 : (ma, listOf (xsOf ds).toArray c1) ∈ news') (M2 : (ta, listOf vt.toArray c2) ∈ news') (M3 : (na, listOf vn.toArray c3) ∈ news') (M4 : (fa, listOf (psOf ds).toArray c4) ∈ news') (M5 : sl ∈ news') (MR : ∀ q ∈ R, q ∈ news') :
    TbEnd h₀ L (J2 P sl) own s₁ { s₁ with heap := h', toks := tk } := by
  obtain ⟨eR, nd, off, _⟩ := AP
  subst eR
  refine ⟨h', tk, m', news', ledger P sl ⟨ma, ta, na, fa, ds, to, number, vt, vn, c1, c2, c3, c4⟩, rfl, F', N', ?_, ?_, ?_, ?_, _, names4 q1 q2 q3 q4, rfl, It, In, Rl, nd⟩
  · exact List.forall_mem_cons.mpr ⟨M1, List.forall_mem_cons.mpr ⟨M2, List.forall_mem_cons.mpr ⟨M3, List.forall_mem_cons.mpr ⟨M4, List.forall_mem_cons.mpr ⟨M5, fun q hq => MR q (List.mem_append_left _ hq)⟩⟩⟩⟩⟩
  · exact fun q hq => MR q (List.mem_append_right _ hq)
  · intro p hp
    obtain ⟨o1, o2, o3, o4, o5, o6⟩ := off p hp
    exact List.forall_mem_cons.mpr ⟨o1, List.forall_mem_cons.mpr ⟨o2, List.forall_mem_cons.mpr ⟨o3, List.forall_mem_cons.mpr ⟨o4, List.forall_mem_cons.mpr ⟨o5, o6⟩⟩⟩⟩⟩
  · exact .tail _ (.tail _ (.tail _ (.tail _ (.head _))))
end
section
variable {prog : Program} {w : World} {A : Around} {E : Value → Shared → Prop} {s : Shared} {h₀ : Heap} {L : Addr} {m : PySem.Str → Option Value} {news news' : List (Addr × Obj)} {value slice : PySem.Expr} {l : Addr} {its : Array Value} {c : Nat} {u : Tok} {v : Value} {i : Int} {Q : Value → Shared → Prop} {vs : List Value} {ns : List Int} {ds : List Def}
theorem len_madeK (N : News h₀ L s.heap news) (hl : (l, listOf (xsOf ds).toArray c) ∈ news) (h16 : ds.length ≤ 16) (h : Q (.int ds.length (s.toks + 1)) { s with toks := s.toks + 1 + 1 }) : wpAny (model prog w) A (call (.builtin "len") [.ref l]) Q E s := by
  have e : (xsOf ds).toArray.size = ds.length := by simp [xsOf]
  refine call_len_list (items := (xsOf ds).toArray) ⟨_, (N _ hl).1, rfl, c, rfl⟩ (by rw [e]; omega) ?_
  rw [e]; exact h
theorem item_madeK (N : News h₀ L s.heap news) (hl : (l, listOf (xsOf ds).toArray c) ∈ news) (h16 : ds.length ≤ 16) (h0 : 0 ≤ i) (h1 : i < ds.length) (h : ∀ d, ds[i.toNat]? = some d → Q (.ref d.x) s)
    (hs : subscripted slice false (.ref l) (.int i u) = operate [.ref l, .int i u] (getItem (.ref l) (.int i u)) := by with_unfolding_all rfl) :
    wpAny (model prog w) A (subscriptTail value slice (.ref l) (.int i u)) Q E s := by
  have hd : ds[i.toNat]? = some ds[i.toNat] := List.getElem?_eq_getElem (by omega)
  exact item_vK N hl h0 (by omega) (by simp [xsOf, hd]) (h _ hd) hs
theorem item_setK {k : Int} (N : News h₀ L s.heap news) (hl : (l, listOf (vs.set k.toNat v).toArray c) ∈ news) (h0 : 0 ≤ k) (h1 : k < vs.length) (hhi : vs.length ≤ 1000) (h : Q v s)
    (hs : subscripted slice false (.ref l) (.int k u) = operate [.ref l, .int k u] (getItem (.ref l) (.int k u)) := by with_unfolding_all rfl) :
    wpAny (model prog w) A (subscriptTail value slice (.ref l) (.int k u)) Q E s :=
  item_vK N hl h0 (by omega) (by rw [List.getElem?_toArray, List.getElem?_set_self (by omega)]) h hs
theorem item_lastK (N : News h₀ L s.heap news) (hl : (l, listOf (xsOf ds).toArray c) ∈ news) (hp : 0 < ds.length) (h16 : ds.length ≤ 16) (h : ∀ d, ds[ds.length - 1]? = some d → Q (.ref d.x) s)
    (hs : subscripted slice false (.ref l) (.int (-1) u) = operate [.ref l, .int (-1) u] (getItem (.ref l) (.int (-1) u)) := by with_unfolding_all rfl) :
    wpAny (model prog w) A (subscriptTail value slice (.ref l) (.int (-1) u)) Q E s := by
  have hd : ds[ds.length - 1]? = some ds[ds.length - 1] := List.getElem?_eq_getElem (by omega)
  have hL : s.heap.IsList l (xsOf ds).toArray := ⟨_, (N _ hl).1, rfl, c, rfl⟩
  have e : (xsOf ds).toArray.size = ds.length := by simp [xsOf]
  have ei : ((-1 : Int) + ds.length).toNat = ds.length - 1 := by omega
  exact tail_any hL.typeIs slot_list_getitem.lookup (wpAny_getItem_list_neg hL (by decide) (by rw [e]; omega) (by decide) (by rw [e, ei]; simp [xsOf, hd]) (h _ hd)) hs
theorem set_intK {k x : Int} {D : Addr} {n : Nat} {t : Tok} {Q : Unit → Shared → Prop} (F : Fr h₀ L s.heap m) (N : News h₀ L s.heap news) (U : Upd D (listOf vs.toArray n) (listOf (vs.set k.toNat (.int x u)).toArray n) news news') (hi : IntsAre vs ns) (h0 : 0 ≤ k) (h1 : k < ns.length) (hfit : ns.length ≤ 1000)
    (h : ∀ h', Fr h₀ L h' m → News h₀ L h' news' → IntsAre (vs.set k.toNat (.int x u)) (ns.set k.toNat x) → Q () { s with heap := h' }) :
    wpAny (model prog w) A (setItem (.ref D) (.int k t) (.int x u)) Q E s := ksa_set F N U hi h0 h1 (by omega) fun h' F' N' I' _ _ => h h' F' N' I'
end
theorem fmodn0 {y n : Int} (h : 0 < n) : 0 ≤ y.fmod n := Int.fmod_nonneg_of_pos y h
theorem fmodn1 {y n : Int} (h : 0 < n) : y.fmod n < n := Int.fmod_lt_of_pos y h
/-- a mark at which the walk halts -/
def Halt (p : Prop) : Prop := p
theorem Halt.out {p : Prop} (h : Halt p) : p := h
theorem Halt.go {p : Prop} (h : p) : Halt p := h
end Mine
end

section
open PySem PySem.W PySem.Calls PyProof.Rows
namespace Mine
theorem ite_dt {c : Prop} [Decidable c] {P Q : Prop} (h : c) (p : P) : if decide c = true then P else Q := by rw [if_pos (decide_eq_true h)]; exact p
theorem ite_df {c : Prop} [Decidable c] {P Q : Prop} (h : ¬ c) (q : Q) : if decide c = true then P else Q := by rw [if_neg (by simpa using h)]; exact q
theorem ite_bt {a b : Int} {P Q : Prop} (h : a = b) (p : P) : if (a == b) = true then P else Q := by rw [if_pos (by simpa using h)]; exact p
theorem ite_bf {a b : Int} {P Q : Prop} (h : ¬ a = b) (q : Q) : if (a == b) = true then P else Q := by rw [if_neg (by simpa using h)]; exact q
theorem put_np (P : Params) (t1 t2 t3 : Tok) (v np np' : Value) (n : Nat) : (putL sNp (PyData.keyHash P sNp) (.str sNp t3) np' (defDict P t1 t2 v np), putN sNp (defDict P t1 t2 v np) n) = (defDict P t1 t2 v np', n) := by rfl
section
variable {w : World} {A : Around} {E : Value → Shared → Prop} {s : Shared} {h₀ : Heap} {L : Addr} {m : Str → Option Value} {news news' : List (Addr × Obj)} {x dx tu : Addr} {v np np' : Value} {t1 t2 : Tok} {n : Nat} {Q : Unit → Shared → Prop} {cd : ClassData}
theorem set_npK (F : Fr h₀ L s.heap m) (X₀ : (hd.heap_39 w.params).In h₀) (N : News h₀ L s.heap news) (hx : (x, excOf 84 dx tu) ∈ news) (hdx : (dx, dictOf (defDict w.params t1 t2 v np) n) ∈ news)
    (hs : findIn (hd.heap_39 w.params) (.ref 84) "__setattr__" = some (some (.builtin "object.__setattr__"))) (hc : clsIn (hd.heap_39 w.params) 84 = some cd) (ho : overVal cd.mro = true) (ht : takerIn (hd.heap_39 w.params) 84 sNp = some none) (hh : cd.hasDict = true)
    (U : Upd dx (dictOf (defDict w.params t1 t2 v np) n) (dictOf (defDict w.params t1 t2 v np') n) news news')
    (h : ∀ h', Fr h₀ L h' m → News h₀ L h' news' → Q () { s with heap := h', toks := s.toks + 2 }) :
    wpAny (model prg w) A (setAttr (.ref x) sNp np') Q E s :=
  set_exc1K F X₀ N (inst_exc N hx hdx) hs hc ho ht hh rfl (put_np _ _ _ _ _ _ _ _) U (Nat.le_of_ble_eq_true rfl) h
theorem upd_np {P : Params} {ma ta na fa l : Addr} {o1 o2 o3 o4 o5 : Obj} {ds : List Def} {own R : List (Addr × Obj)} {i : Nat} {d : Def} {v : Value} (AP : Ap P ma ta na fa (l, o5) ds own R) (hi : ds[i]? = some d) :
    Upd d.dx (dictOf (defDict P d.t1 d.t2 d.line d.np) d.n) (dictOf (defDict P d.t1 d.t2 d.line v) d.n) ((ma, o1) :: (ta, o2) :: (na, o3) :: (fa, o4) :: (l, o5) :: R) ((ma, o1) :: (ta, o2) :: (na, o3) :: (fa, o4) :: (l, o5) :: (fam P (ds.set i { d with np := v }) ++ own)) := by
  obtain ⟨eR, nd, off, n1, n2, n3, n4, n5, _⟩ := AP
  subst eR
  have hm : (d.dx, dictOf (defDict P d.t1 d.t2 d.line d.np) d.n) ∈ fam P ds ++ own := List.mem_append_left _ (fam_dx hi)
  have nd5 := (List.nodup_cons.mp (List.nodup_cons.mp (List.nodup_cons.mp (List.nodup_cons.mp (List.nodup_cons.mp nd).2).2).2).2).2
  exact .tail (Ne.symm (n1 _ hm)) (.tail (Ne.symm (n2 _ hm)) (.tail (Ne.symm (n3 _ hm)) (.tail (Ne.symm (n4 _ hm)) (.tail (Ne.symm (n5 _ hm)) (upd_fam hi nd5 fun p hp => (off p hp).2.2.2.2.2)))))
/-- a defect of the family gets a new bearing -/
theorem set_famK {ma ta na fa l : Addr} {o1 o2 o3 o4 o5 : Obj} {ds : List Def} {own R : List (Addr × Obj)} {i : Nat} {d : Def} (AP : Ap w.params ma ta na fa (l, o5) ds own R) (hi : ds[i]? = some d) (F : Fr h₀ L s.heap m) (X₀ : (hd.heap_39 w.params).In h₀)
    (N : News h₀ L s.heap ((ma, o1) :: (ta, o2) :: (na, o3) :: (fa, o4) :: (l, o5) :: R))
    (h : ∀ h', Fr h₀ L h' m → News h₀ L h' ((ma, o1) :: (ta, o2) :: (na, o3) :: (fa, o4) :: (l, o5) :: (fam w.params (ds.set i { d with np := np' }) ++ own)) → Q () { s with heap := h', toks := s.toks + 2 }) :
    wpAny (model prg w) A (setAttr (.ref d.x) sNp np') Q E s := by
  have eR := AP.eq
  have this : PySem.Challenge.rw_dm0089_02 = PySem.Challenge.rw_dm0089_02 ∧ hd.heap_39 = hd.heap_39 := by (k_fill; exact ⟨rfl, rfl⟩)
  clear this
  have hx : (d.x, excOf 84 d.dx d.tu) ∈ R := by rw [eR]; exact List.mem_append_left _ (fam_x hi)
  have hdx : (d.dx, dictOf (defDict w.params d.t1 d.t2 d.line d.np) d.n) ∈ R := by rw [eR]; exact List.mem_append_left _ (fam_dx hi)
  have tl : ∀ {q : Addr × Obj}, q ∈ R → q ∈ (ma, o1) :: (ta, o2) :: (na, o3) :: (fa, o4) :: (l, o5) :: R := fun h => .tail _ (.tail _ (.tail _ (.tail _ (.tail _ h))))
  refine' set_npK F X₀ N (tl hx) (tl hdx) ?k6 ?k7 ?k8 ?k9 ?k10 (upd_np AP hi) h
  case k6 => k_is
  case k7 => k_is
  case k8 => rfl
  case k9 => k_is
  case k10 => rfl
end
theorem tb_open {h₀ : Heap} {L : Addr} {P : Params} {sl : Addr × Obj} {own : List (Addr × Obj)} {s₁ s' : Shared} (hE : TbEnd h₀ L (J2 P sl) own s₁ s') :
    ∃ (h' : Heap) (tk : Nat) (m' : PySem.Str → Option Value) (ma ta na fa : Addr) (ds : List Def) (to number : List Int) (vt vn : List Value) (c1 c2 c3 c4 : Nat) (R : List (Addr × Obj)), s' = { s₁ with heap := h', toks := tk } ∧ Ap P ma ta na fa sl ds own R ∧ IntsAre vt to ∧ IntsAre vn number ∧ Rel ds to number ∧
      Fr h₀ L h' (fun z => if z = PySem.Str.ofString "made" then some (.ref ma) else if z = PySem.Str.ofString "to" then some (.ref ta) else if z = PySem.Str.ofString "number" then some (.ref na) else if z = PySem.Str.ofString "first" then some (.ref fa) else m' z) ∧
      News h₀ L h' ((ma, listOf (xsOf ds).toArray c1) :: (ta, listOf vt.toArray c2) :: (na, listOf vn.toArray c3) :: (fa, listOf (psOf ds).toArray c4) :: sl :: R) := by
  obtain ⟨h', tk, m', news', nx, e, F', N', hn, ho, ha, hsl, c, G⟩ := hE
  have F2 := fr_names G.names F'
  obtain ⟨_, enx, It, In, R, nd⟩ := G
  subst enx
  refine ⟨h', tk, m', c.ma, c.ta, c.na, c.fa, c.ds, c.to, c.number, c.vt, c.vn, c.c1, c.c2, c.c3, c.c4, _, e, ap_of ha nd, It, In, R, F2, fun p hp => N' p ?_⟩
  have hp' : p ∈ ledger P sl c ++ own := hp
  rcases List.mem_append.mp hp' with h | h
  · exact hn p h
  · exact ho p h
theorem Ap.sub {P : Params} {ma ta na fa : Addr} {sl : Addr × Obj} {ds : List Def} {own R : List (Addr × Obj)} (AP : Ap P ma ta na fa sl ds own R) {o1 o2 o3 o4 : Addr × Obj} : ∀ q ∈ fam P ds, q ∈ o1 :: o2 :: o3 :: o4 :: sl :: R := by
  intro q hq
  rw [AP.eq]
  exact .tail _ (.tail _ (.tail _ (.tail _ (.tail _ (List.mem_append_left _ hq)))))
theorem ite_sn {x : PySem.Str} {P Q : Prop} (q : Q) : if (x != x) = true then P else Q := by rw [if_neg (by simp)]; exact q
end Mine
end

section
open PySem PySem.W PySem.Calls PyProof.Rows PyProof.V PySem.Spec PySem.SeqAt
namespace Mine
def J3 (ps : List (PySem.Str × Value)) (news : List (Addr × Obj)) (m : PySem.Str → Option Value) (nx : List (Addr × Obj)) : Prop := nx = news ∧ ∀ p ∈ ps, m p.1 = some p.2
section
variable {prog : Program} {w : World} {A : Around} {E : Value → Shared → Prop} {s : Shared} {env : Env} {h₀ : Heap} {y : PySem.Str} {body : List Stmt} {Q : Flow → Shared → Prop}
theorem range_in {n i : Nat} {k : Int} (h : (rangeKs 0 n)[i]? = some k) : 0 ≤ k ∧ k < n := by
  unfold rangeKs at h
  rw [List.getElem?_map, Option.map_eq_some_iff] at h
  obtain ⟨j, hj, rfl⟩ := h
  have := List.mem_of_getElem? hj
  rw [List.mem_range] at this
  omega
theorem loop02r {r : Addr} {t₀ u₀ v₀ : Tok} {n : Nat} {m₀ : PySem.Str → Option Value} {o1 o2 o3 o4 o5 : Addr × Obj} {R : List (Addr × Obj)} {ma ta na fa : Addr} 
    (hh : A.handled = none) (hr : IsRange s.heap r 0 (n : Int) 1 t₀ u₀ v₀) (hn : n ≤ 16) (F : Fr h₀ env.locals s.heap (fun z => if z = PySem.Str.ofString "made" then some (.ref ma) else if z = PySem.Str.ofString "to" then some (.ref ta) else if z = PySem.Str.ofString "number" then some (.ref na) else if z = PySem.Str.ofString "first" then some (.ref fa) else m₀ z))
    (N : News h₀ env.locals s.heap (o1 :: o2 :: o3 :: o4 :: o5 :: R))
    (turn : ∀ (k : Int) (t : Tok) (m₁ : PySem.Str → Option Value) (h : Heap) (tk : Nat) (own R' : List (Addr × Obj)), 0 ≤ k → k < (n : Int) → TbOff own (o1 :: o2 :: o3 :: o4 :: o5 :: R) → (∀ q ∈ R, q ∈ R') → (∀ q ∈ own, q ∈ R') →
      Fr h₀ env.locals h (fun z => if z = y then some (.int k t) else if z = PySem.Str.ofString "made" then some (.ref ma) else if z = PySem.Str.ofString "to" then some (.ref ta) else if z = PySem.Str.ofString "number" then some (.ref na) else if z = PySem.Str.ofString "first" then some (.ref fa) else m₁ z) →
      News h₀ env.locals h (o1 :: o2 :: o3 :: o4 :: o5 :: R') →
      wpAny (model prog w) A (execs body env) (TbPost h₀ env.locals (J3 [(nMade, .ref ma), (nTo, .ref ta), (nNumber, .ref na), (nFirst, .ref fa)] (o1 :: o2 :: o3 :: o4 :: o5 :: R)) own { s with heap := h, toks := tk } Q) E { s with heap := h, toks := tk })
    (done : ∀ (m₁ : PySem.Str → Option Value) (h : Heap) (tk : Nat), Fr h₀ env.locals h m₁ → News h₀ env.locals h (o1 :: o2 :: o3 :: o4 :: o5 :: R) → Q .next { s with heap := h, toks := tk }) :
    wpAny (model prog w) A (pyIter (.ref r)) (fun it s₂ => LoopAtV prog w A h₀ env y body Q E it s₂) E s := by
  have hsz : Builtin.Range.rangeSize 0 (n : Int) 1 = (n : Int) := by rw [rangeSize_pos (by decide) (by omega)]; omega
  refine tbr_invG (fun _ => J3 [(nMade, .ref ma), (nTo, .ref ta), (nNumber, .ref na), (nFirst, .ref fa)] (o1 :: o2 :: o3 :: o4 :: o5 :: R)) hh hr (small_one (by decide) (by decide) (by omega) (by omega)) hsz F N ⟨rfl, List.forall_mem_cons.mpr ⟨rfl, List.forall_mem_cons.mpr ⟨rfl, List.forall_mem_cons.mpr ⟨rfl, List.forall_mem_cons.mpr ⟨rfl, List.forall_mem_nil _⟩⟩⟩⟩⟩ ?_ ?_
  · rintro i k t m₁ nx h tk own hk hoff ⟨rfl, hm⟩ F1 N1
    have F2 := fr_names1 hm F1
    obtain ⟨k0, k1⟩ := range_in hk
    exact turn k t m₁ h tk own (R ++ own) k0 k1 hoff (fun q hq => List.mem_append_left _ hq) (fun q hq => List.mem_append_right _ hq) F2 N1
  · rintro m₁ nx h tk ⟨rfl, hm⟩ F1 N1
    exact done m₁ h tk F1 N1
theorem fin3 {L : Addr} {own R R' news' : List (Addr × Obj)} {o1 o2 o3 o4 o5 : Addr × Obj} {ma ta na fa : Addr} {s₁ : Shared} {h' : Heap} {tk : Nat} {m' : PySem.Str → Option Value} (F' : Fr h₀ L h' m') (N' : News h₀ L h' news') (hoff : TbOff own (o1 :: o2 :: o3 :: o4 :: o5 :: R)) (s1 : ∀ q ∈ R, q ∈ R') (s2 : ∀ q ∈ own, q ∈ R')
    (q1 : m' nMade = some (.ref ma)) (q2 : m' nTo = some (.ref ta)) (q3 : m' nNumber = some (.ref na)) (q4 : m' nFirst = some (.ref fa))
    (sub : ∀ q ∈ o1 :: o2 :: o3 :: o4 :: o5 :: R', q ∈ news') : TbEnd h₀ L (J3 [(nMade, .ref ma), (nTo, .ref ta), (nNumber, .ref na), (nFirst, .ref fa)] (o1 :: o2 :: o3 :: o4 :: o5 :: R)) own s₁ { s₁ with heap := h', toks := tk } := by
  have hsub : ∀ q ∈ o1 :: o2 :: o3 :: o4 :: o5 :: R, q ∈ o1 :: o2 :: o3 :: o4 :: o5 :: R' := by
    intro q hq
    simp only [List.mem_cons] at hq ⊢
    rcases hq with h | h | h | h | h | h
    · exact .inl h
    · exact .inr (.inl h)
    · exact .inr (.inr (.inl h))
    · exact .inr (.inr (.inr (.inl h)))
    · exact .inr (.inr (.inr (.inr (.inl h))))
    · exact .inr (.inr (.inr (.inr (.inr (s1 q h)))))
  exact ⟨h', tk, m', news', _, rfl, F', N', fun p hp => sub p (hsub p hp), fun p hp => sub p (.tail _ (.tail _ (.tail _ (.tail _ (.tail _ (s2 p hp)))))), hoff, rfl, names4 q1 q2 q3 q4⟩
end
section
variable {prog : Program} {w : World} {A : Around} {E : Value → Shared → Prop} {s : Shared} {h₀ : Heap} {L : Addr} {m : PySem.Str → Option Value} {news news' : List (Addr × Obj)} {value slice : PySem.Expr} {l : Addr} {c : Nat} {u : Tok} {i : Int} {Q : Value → Shared → Prop} {ds : List Def}
theorem item_firstK {d : Def} (N : News h₀ L s.heap news) (hl : (l, listOf (psOf ds).toArray c) ∈ news) (h16 : ds.length ≤ 16) (h0 : 0 ≤ i) (h1 : i < ds.length) (hd : ds[i.toNat]? = some d) (h : Q (.ref d.p) s)
    (hs : subscripted slice false (.ref l) (.int i u) = operate [.ref l, .int i u] (getItem (.ref l) (.int i u)) := by with_unfolding_all rfl) :
    wpAny (model prog w) A (subscriptTail value slice (.ref l) (.int i u)) Q E s :=
  item_vK N hl h0 (by omega) (by simp [psOf, hd]) h hs
theorem item_madeK' {d : Def} (N : News h₀ L s.heap news) (hl : (l, listOf (xsOf ds).toArray c) ∈ news) (h16 : ds.length ≤ 16) (h0 : 0 ≤ i) (h1 : i < ds.length) (hd : ds[i.toNat]? = some d) (h : Q (.ref d.x) s)
    (hs : subscripted slice false (.ref l) (.int i u) = operate [.ref l, .int i u] (getItem (.ref l) (.int i u)) := by with_unfolding_all rfl) :
    wpAny (model prog w) A (subscriptTail value slice (.ref l) (.int i u)) Q E s :=
  item_vK N hl h0 (by omega) (by simp [xsOf, hd]) h hs
end
theorem strOk_of (s : String) : PyData.strOk (PySem.Str.ofString s) = true := by
  unfold PyData.strOk
  rw [Array.all_eq_true']
  intro k hk
  have hk' : k ∈ (PySem.Str.ofString s).cps.toList := by simpa using hk
  rw [signs_ofString] at hk'
  obtain ⟨c, _, rfl⟩ := List.mem_map.mp hk'
  have := c.valid
  simp only [decide_eq_true_eq]
  have h2 : c.toNat = c.val.toNat := rfl
  rcases this with h | h
  · have : c.val.toNat < 0xd800 := h
    omega
  · have : c.val.toNat < 0x110000 := h.2
    omega
theorem strOk_app {a b : PySem.Str} (ha : PyData.strOk a = true) (hb : PyData.strOk b = true) : PyData.strOk (a ++ b) = true := by
  unfold PyData.strOk at *
  have e : (a ++ b).cps = a.cps ++ b.cps := rfl
  rw [e, Array.all_append, ha, hb]; rfl
theorem rest_ok (to number : List Int) (i : Nat) : PyData.strOk (rest to number i) = true := by
  induction i using Nat.strongRecOn with
  | ind i ih =>
    by_cases h : 0 ≤ to.getD i (-1) ∧ (to.getD i (-1)).toNat < i
    · rw [rest, dif_pos h]; exact strOk_app (strOk_of _) (ih _ h.2)
    · rw [rest, dif_neg h]; exact strOk_of _
section
variable {prog : Program} {w : World} {A : Around} {E : Value → Shared → Prop} {s : Shared} {h₀ : Heap} {L : Addr} {news : List (Addr × Obj)} {a b : Addr} {x : PySem.Str} {t u : Tok} {c c' : Nat} {Q : Value → Shared → Prop}
theorem ne_strK (N : News h₀ L s.heap news) (ha : (a, listOf [.str x t].toArray c) ∈ news) (hb : (b, listOf #[.str x u] c') ∈ news) (hok : PyData.strOk x = true) (hu : A.units + 64 < cLine)
    (h : Q (.bool false) s) : wpAny (model prog w) A (compareOp .NotEq (.ref a) (.ref b)) Q E s := by
  have r1 : Reads s.heap (.ref a) (.list [.str x]) [a] := Reads.list (N _ ha).1 rfl rfl (ReadsAll.cons (as := []) (.str x t) .nil)
  have r2 : Reads s.heap (.ref b) (.list [.str x]) [b] := Reads.list (N _ hb).1 rfl rfl (ReadsAll.cons (as := []) (.str x u) .nil)
  have hs := shaped_strs [x] (fun y hy => by rw [List.mem_singleton.mp hy]; exact hok)
  refine ne_dataH_same r1 r2 hs hs hu ?_ ?_
  · simp [noMix, noMixAll]
  · simpa [PySem.Spec.same, PySem.Spec.sameAll] using h
end
end Mine
end

section
open PySem PySem.W PySem.Calls PyProof.Rows
open Mine
local macro_rules | `(tactic| walk_at "call ref") => `(tactic| (k_here; (with_reducible show wpAny _ _ (call (Value.ref 84) [Value.ref _]) _ _ _); k_dflt (refine' mk_refK ?k1 ?k2 ?k3 ?k4 ?k5 ?k6 ?_; (case k1 => k_asm); (case k2 => k_asm); (case k3 => k_asm); (case k4 => k_asm); (case k5 => k_asm); (case k6 => exact Nat.le_of_ble_eq_true rfl); k_whole; intro x' dx' tu' h' t1' t2' n' tk' F' N' l1 l2 l3; (try k_lt l1); (try k_lt2 l2); (try k_lt2 l3); (try k_sweep))))
local macro_rules | `(tactic| walk_at "call ref") => `(tactic| (k_here; (with_reducible show wpAny _ _ (call (Value.ref 84) [Value.int _ _]) _ _ _); k_dflt (refine' mk_intK ?k1 ?k2 ?k3 ?k4 ?k5 ?k6 ?_; (case k1 => k_asm); (case k2 => k_asm); (case k3 => k_asm); (case k4 => k_asm); (case k5 => k_asm); (case k6 => exact Nat.le_of_ble_eq_true rfl); k_whole; intro x' dx' tu' h' t1' t2' n' tk' F' N' l1 l2 l3; (try k_lt l1); (try k_lt2 l2); (try k_lt2 l3); (try k_sweep))))
local macro_rules | `(tactic| walk_at "exec For Name Subscript cons nil") => `(tactic| (k_here; (rename Fr _ _ _ _ => lF'); k_dflt (refine' For_invVF lF' ?k1 ?k2 ?_ ?k3 ?k4; (case k1 => exact rfl); (case k2 => exact rfl); (case k3 => exact fun _ => rfl); (case k4 => passes_own); k_whole)))
local macro_rules | `(tactic| walk_at "pyIter ref") => `(tactic| (k_here; (with_reducible show wpAny _ _ (pyIter (Value.ref _)) (fun it s₂ => LoopAtV _ _ _ _ _ _ _ _ _ it s₂) _ _); refine Halt.out ?_))
local macro_rules | `(tactic| walk_at "Fin02") => `(tactic| (k_here; refine Halt.out ?_))
local macro_rules | `(tactic| walk_at "call builtin:len") => `(tactic| (k_here; refine Halt.out ?_))
local macro_rules | `(tactic| k_all) => `(tactic| assumption)
local macro_rules | `(tactic| walk_at "ite") => `(tactic| (k_here; with_reducible (first | refine ite_dt (by assumption) ?_ | refine ite_df (by assumption) ?_ | refine ite_bt (by assumption) ?_ | refine ite_bf (by assumption) ?_)))
local macro_rules | `(tactic| walk_at "subscriptTail Name Name ref int") => `(tactic| (k_here; k_dflt (first
  | (refine' item_setK ?k1 ?k2 ?k3 ?k4 ?k5 ?_ ?k6; (case k1 => k_asm); (case k2 => k_mem); (case k3 => assumption); (case k4 => assumption); (case k5 => assumption); (case k6 => with_unfolding_all rfl); k_whole)
  | (refine' item_madeK ?k1 ?k2 ?k3 ?k4 ?k5 ?_ ?k6; (case k1 => k_asm); (case k2 => k_mem); (case k3 => assumption); (case k4 => assumption); (case k5 => assumption); (case k6 => with_unfolding_all rfl); k_whole; intro d' hd')
  | refine Halt.out ?_)))
local macro_rules | `(tactic| walk_at "setItem ref int") => `(tactic| (k_here; k_dflt (first | (refine' set_intK ?k1 ?k2 ?k3 ?k4 ?k5 ?k6 ?k7 ?_; (case k1 => k_asm); (case k2 => k_asm); (case k3 => k_upd); (case k4 => with_reducible assumption); (case k5 => assumption); (case k6 => assumption); (case k7 => assumption); k_whole; intro h' F' N' I'; (try k_sweep)) | refine Halt.out ?_)))
set_option hygiene false in
local macro_rules | `(tactic| walk_at "setAttr ref") => `(tactic| (k_here; k_dflt (first | (refine' set_famK AP9 ?hi ?k1 ?k2 ?k3 ?_; (case hi => assumption); (case k1 => k_asm); (case k2 => k_asm); (case k3 => k_asm); k_whole; intro h' F' N'; (try k_sweep)) | refine Halt.out ?_)))
local macro_rules | `(tactic| walk_at "subscriptTail Name Subscript ref int") => `(tactic| (k_here; k_dflt (first
  | (refine' item_madeK ?k1 ?k2 ?k3 ?k4 ?k5 ?_ ?k6; (case k1 => k_asm); (case k2 => k_mem); (case k3 => assumption); (case k4 => assumption); (case k5 => assumption); (case k6 => with_unfolding_all rfl); k_whole; intro d'' hd'')
  | refine Halt.out ?_)))
local macro_rules | `(tactic| walk_at "subscriptTail Name UnaryOp ref int") => `(tactic| (k_here; refine Halt.out ?_))
local macro_rules | `(tactic| walk_at "call type:str") => `(tactic| (k_here; refine Halt.out ?_))
local macro_rules | `(tactic| walk_at "call ref") => `(tactic| (k_here; (with_reducible show wpAny _ _ (call (Value.ref 93) _ _) _ _ _); refine Halt.out ?_))
local macro_rules | `(tactic| walk_at "ite") => `(tactic| (k_here; with_reducible (refine ite_sn ?_)))
local macro_rules | `(tactic| walk_at "TbEnd") => `(tactic| (k_here; refine Halt.out ?_))
local macro_rules | `(tactic| walk_at "call type:str") => `(tactic| (k_here; refine Halt.out ?_))
local macro_rules | `(tactic| walk_at "call ref") => `(tactic| (k_here; (with_reducible show wpAny _ _ (call (Value.ref 93) _ _) _ _ _); refine Halt.out ?_))
local macro_rules | `(tactic| walk_at "ite") => `(tactic| (k_here; with_reducible (first | refine ite_sn ?_ | refine ite_dt (by assumption) ?_ | refine ite_df (by assumption) ?_ | refine ite_bt (by assumption) ?_ | refine ite_bf (by assumption) ?_)))
local macro_rules | `(tactic| walk_at "TbEnd") => `(tactic| (k_here; refine Halt.out ?_))
local macro_rules | `(tactic| walk_at "subscriptTail Name Name ref int") => `(tactic| (k_here; k_dflt (first
  | (refine' item_madeK' ?k1 ?k2 ?k3 ?k4 ?k5 ?k7 ?_ ?k6; (case k1 => k_asm); (case k2 => k_mem); (case k3 => assumption); (case k4 => assumption); (case k5 => assumption); (case k7 => assumption); (case k6 => with_unfolding_all rfl); k_whole)
  | (refine' item_firstK ?k1 ?k2 ?k3 ?k4 ?k5 ?k7 ?_ ?k6; (case k1 => k_asm); (case k2 => k_mem); (case k3 => assumption); (case k4 => assumption); (case k5 => assumption); (case k7 => assumption); (case k6 => with_unfolding_all rfl); k_whole))))
local macro_rules | `(tactic| k_mem) => `(tactic| first | exact List.Mem.head _ | assumption | (refine List.Mem.tail _ ?_; k_mem))
local macro_rules | `(tactic| k_inst) => `(tactic| exact inst_exc (by k_asm) (by k_mem) (by k_mem))
local macro_rules | `(tactic| walk_at "getAttr ref") => `(tactic| (k_here; k_dflt (first
  | (refine' get_excK ?k1 ?k2 ?k3 ?k4 ?k5 ?k6 ?k7 ?k8 ?k9 ?k10 ?k11 ?_; (case k1 => k_asm); (case k2 => k_asm); (case k3 => k_inst); (case k4 => k_is); (case k5 => k_is); (case k6 => k_is); (case k7 => k_is); (case k8 => k_is); (case k9 => k_is); (case k10 => k_get); (case k11 => k_handed); k_whole)
  | (refine' get_argsK ?k1 ?k2 ?k3 ?k4 ?k5 ?k6 ?k7 ?k8 ?k9 ?_; (case k1 => k_asm); (case k2 => k_asm); (case k3 => k_asm); (case k4 => k_mem); (case k5 => k_mem); (case k6 => k_is); (case k7 => k_is); (case k8 => k_is); (case k9 => first | k_is | rfl | kernel_rfl); k_whole)
  | refine Halt.out ?_)))
local macro_rules | `(tactic| walk_at "eval ListComp") => `(tactic| (k_here; refine Halt.out ?_))
local macro_rules | `(tactic| walk_at "TupSrc") => `(tactic| (k_here; refine Halt.out ?_))
local macro_rules | `(tactic| walk_at "compareOp NotEq ref ref") => `(tactic| (k_here; refine Halt.out ?_))

set_option maxHeartbeats 8000000 in
theorem PySem.Challenge.cw_dm0089_02_holds : PySem.Challenge.rw_dm0089_02.Holds := by
  refine hd ?_
  w_strict (k_go0; (all_goals try k_fold); k_steps)
  refine Halt.go ?_
  (rename Fr _ _ _ _ => lF'); (rename News _ _ _ _ => lN'); (rename IntsAre _ (List.take 63 _) => lI')
  refine' loop02s ?k1 ?kF ?kN ?kI ?q1 ?q2 ?q3 ?q4 ?M1 ?M2 ?M3 ?M4 ?M5 ?M6 ?M7 ?M8 ?M9 ?g1 ?g2 ?g3 ?g4 ?g5 ?g6 ?g7 ?g8 ?trn ?dn
  case kF => exact lF'
  case kN => exact lN'
  case kI => exact lI'
  case k1 => exact rfl
  case q1 => exact rfl
  case q2 => exact rfl
  case q3 => exact rfl
  case q4 => exact rfl
  case M1 => k_mem
  case M6 => k_mem
  case M2 => k_mem
  case M3 => k_mem
  case M4 => k_mem
  case M5 => k_mem
  case M7 => k_mem
  case M8 => k_mem
  case M9 => k_mem
  case g1 => (refine ltN ?_; omega)
  case g2 => (refine ltN ?_; omega)
  case g3 => (refine ltN ?_; omega)
  case g4 => (refine ltN ?_; omega)
  case g5 => (refine ltN ?_; omega)
  case g6 => (refine ltN ?_; omega)
  case g7 => (refine ltN ?_; omega)
  case g8 => (refine ltN ?_; omega)
  case dn =>
    clear lF' lN'
    intro ma8 ta8 na8 fa8 ds8 to8 nu8 vt8 vn8 e1 e2 e3 e4 m8 h8 tk8 RR8 sub8 It8 In8 R8 F8 N8
    have p8 := R8.pos
    have f8 := R8.few
    w_strict k_steps
    refine Halt.go ?_
    refine' len_madeK ?k1 ?k2 ?k3 ?_
    case k1 => k_asm
    case k2 => k_mem
    case k3 => assumption
    w_strict k_steps
    refine Halt.go ?_
    rename Fr _ _ _ _ => F7
    rename News _ _ _ _ => N7
    rename IsRange _ _ _ _ _ _ _ _ => ir7
    refine' loop02r ?k1 ir7 f8 F7 N7 ?_ ?dn
    case k1 => exact rfl
    case dn =>
      clear F7 N7
      intro m7 h7 tk7 F7 N7
      w_strict k_steps
    clear F7 N7
    intro i7 t7 m7 h7 tk7 own7 RR7 i0 i1 off7 s17 s27 F7 N7
    obtain ⟨d7, hd7⟩ : ∃ d, ds8[i7.toNat]? = some d := ⟨_, List.getElem?_eq_getElem (by omega)⟩
    have o1 := s17 _ (sub8 _ (fam_x hd7))
    have o2 := s17 _ (sub8 _ (fam_dx hd7))
    have o3 := s17 _ (sub8 _ (fam_tu hd7))
    have o4 := s17 _ (sub8 _ (fam_p hd7))
    have sub7 := fun q hq => s17 q (sub8 q hq)
    rcases R8.fst _ d7 hd7 with ⟨hpj, tl7, hl7⟩ | ⟨hpj0, hpj1, e7, he7, hl7⟩
    · rw [hl7] at o2 o3
      rw [hpj] at o4
      have pv7 := R8.pvs _ d7 hd7
      have pl7 := num_len pv7.1 pv7.2
      w_strict k_steps
      refine Halt.go ?_
      refine' str_chain R8 hd7 ?k1 ?k2 ?k3 ?k4 ?k5 ?k6 ?k7 ?k8 ?_
      case k1 => k_asm
      case k2 => k_asm
      case k3 => k_asm
      case k4 => k_asm
      case k5 => k_asm
      case k6 => exact Nat.le_of_ble_eq_true rfl
      case k7 => exact Nat.le_of_ble_eq_true rfl
      case k8 => exact fun q hq => .tail _ (.tail _ (.tail _ (.tail _ (.tail _ (sub7 q hq)))))
      intro h' t' j' F' N' hlen8
      k_sweep
      w_strict k_steps
      refine Halt.go ?_
      refine' told_call R8 ?k1 ?k2 ?k3 ?k4 ?k5 ?k6 ?k7 ?k8 ?k9 It8 In8 i0 i1 ?_
      case k1 => k_asm
      case k2 => k_asm
      case k3 => k_asm
      case k4 => k_asm
      case k5 => k_asm
      case k6 => exact Nat.le_of_ble_eq_true rfl
      case k7 => exact Nat.le_of_ble_eq_true rfl
      case k8 => k_mem
      case k9 => k_mem
      intro h' t' j' F' N'
      k_sweep
      w_strict k_steps
      refine Halt.go (PySem.P.str_of_int (num_log pv7.1 pv7.2) ?_)
      w_strict k_steps
      refine Halt.go (PySem.P.str_of_int (num_log pv7.1 pv7.2) ?_)
      w_strict k_steps
      refine Halt.go ?_
      refine ListComp_T1 (F₀ := by k_asm) (by rfl) (by decide) (by rfl) (by decide) (by rfl) ?_
      w_strict k_steps
      refine Halt.go ?_
      refine' TupSrc.intro ?hh ?hF ?hN ?hm ?_
      case hh => exact rfl
      case hF => k_asm
      case hN => k_asm
      case hm => k_mem
      intro g5 I5 oI5 C5 oC5 D5 m5 h5 tk5 E5 hC5 hx5 F' N' off5
      k_sweep
      w_strict k_steps
      refine Halt.go (PySem.P.str_of_int (num_log pv7.1 pv7.2) ?_)
      refine ⟨_, _, rfl, by k_asm, by k_asm, ?_⟩
      intro D4 h4 tk4 F' N' off4
      k_sweep
      w_strict k_steps
      refine Halt.go ?_
      refine' ne_strK ?hN ?ha ?hb ?hok ?hu ?_
      case hN => k_asm
      case ha => k_mem
      case hb => k_mem
      case hok => exact strOk_of _
      case hu => exact Nat.le_of_ble_eq_true rfl
      w_strict k_steps
      refine Halt.go ?_
      rename Fr _ _ _ _ => FZ
      rename News _ _ _ _ => NZ
      refine fin3 FZ NZ off7 s17 s27 rfl rfl rfl rfl ?_
      intro q hq
      exact .tail _ (.tail _ hq)
    · rw [hl7] at o2 o3
      have hpj2 : d7.pj < (ds8.length : Int) := by omega
      have hpj3 : ¬ d7.pj < 0 := by omega
      have hpl := R8.short d7.pj.toNat
      w_strict k_steps
      refine Halt.go ?_
      refine' str_chain R8 hd7 ?k1 ?k2 ?k3 ?k4 ?k5 ?k6 ?k7 ?k8 ?_
      case k1 => k_asm
      case k2 => k_asm
      case k3 => k_asm
      case k4 => k_asm
      case k5 => k_asm
      case k6 => exact Nat.le_of_ble_eq_true rfl
      case k7 => exact Nat.le_of_ble_eq_true rfl
      case k8 => exact fun q hq => .tail _ (.tail _ (.tail _ (.tail _ (.tail _ (sub7 q hq)))))
      intro h' t' j' F' N' hlen8
      k_sweep
      w_strict k_steps
      refine Halt.go ?_
      refine' told_call R8 ?k1 ?k2 ?k3 ?k4 ?k5 ?k6 ?k7 ?k8 ?k9 It8 In8 i0 i1 ?_
      case k1 => k_asm
      case k2 => k_asm
      case k3 => k_asm
      case k4 => k_asm
      case k5 => k_asm
      case k6 => exact Nat.le_of_ble_eq_true rfl
      case k7 => exact Nat.le_of_ble_eq_true rfl
      case k8 => k_mem
      case k9 => k_mem
      intro h' t' j' F' N'
      k_sweep
      w_strict k_steps
      refine Halt.go ?_
      refine' told_call R8 ?k1 ?k2 ?k3 ?k4 ?k5 ?k6 ?k7 ?k8 ?k9 It8 In8 hpj0 hpj2 ?_
      case k1 => k_asm
      case k2 => k_asm
      case k3 => k_asm
      case k4 => k_asm
      case k5 => k_asm
      case k6 => exact Nat.le_of_ble_eq_true rfl
      case k7 => exact Nat.le_of_ble_eq_true rfl
      case k8 => k_mem
      case k9 => k_mem
      intro h' t' j' F' N'
      k_sweep
      w_strict k_steps
      refine Halt.go ?_
      refine' str_chain R8 he7 ?k1 ?k2 ?k3 ?k4 ?k5 ?k6 ?k7 ?k8 ?_
      case k1 => k_asm
      case k2 => k_asm
      case k3 => k_asm
      case k4 => k_asm
      case k5 => k_asm
      case k6 => exact Nat.le_of_ble_eq_true rfl
      case k7 => exact Nat.le_of_ble_eq_true rfl
      case k8 => exact fun q hq => .tail _ (.tail _ (.tail _ (.tail _ (.tail _ (sub7 q hq)))))
      intro h' t' j' F' N' hlen7
      k_sweep
      w_strict k_steps
      refine Halt.go ?_
      refine ListComp_T1 (F₀ := by k_asm) (by rfl) (by decide) (by rfl) (by decide) (by rfl) ?_
      w_strict k_steps
      refine Halt.go ?_
      refine' TupSrc.intro ?hh ?hF ?hN ?hm ?_
      case hh => exact rfl
      case hF => k_asm
      case hN => k_asm
      case hm => k_mem
      intro g5 I5 oI5 C5 oC5 D5 m5 h5 tk5 E5 hC5 hx5 F' N' off5
      k_sweep
      w_strict k_steps
      refine Halt.go ?_
      refine' str_chain R8 he7 ?k1 ?k2 ?k3 ?k4 ?k5 ?k6 ?k7 ?k8 ?_
      case k1 => k_asm
      case k2 => k_asm
      case k3 => k_asm
      case k4 => k_asm
      case k5 => k_asm
      case k6 => exact Nat.le_of_ble_eq_true rfl
      case k7 => exact Nat.le_of_ble_eq_true rfl
      case k8 => exact fun q hq => .tail _ (.tail _ (.tail _ (.tail _ (.tail _ (.tail _ (.tail _ (.tail _ (sub7 q hq))))))))
      intro h' t' j' F' N' hlen7
      k_sweep
      refine ⟨_, _, rfl, by k_asm, by k_asm, ?_⟩
      intro D4 h4 tk4 F' N' off4
      k_sweep
      w_strict k_steps
      refine Halt.go ?_
      refine' ne_strK ?hN ?ha ?hb ?hok ?hu ?_
      case hN => k_asm
      case ha => k_mem
      case hb => k_mem
      case hok => exact strOk_app (strOk_of _) (rest_ok _ _ _)
      case hu => exact Nat.le_of_ble_eq_true rfl
      w_strict k_steps
      refine Halt.go ?_
      rename Fr _ _ _ _ => FZ
      rename News _ _ _ _ => NZ
      refine fin3 FZ NZ off7 s17 s27 rfl rfl rfl rfl ?_
      intro q hq
      exact .tail _ (.tail _ hq)
  case trn =>
    clear lF' lN'
    intro n9 t9 ma9 ta9 na9 fa9 ds9 to9 nu9 vt9 vn9 e1 e2 e3 e4 m9 h9 tk9 own9 RR9 AP9 It9 In9 R9 F9 N9
    have n1 := AP9.n1
    have n2 := AP9.n2
    have n3 := AP9.n3
    have n4 := AP9.n4
    have d1 := AP9.d1
    have d2 := AP9.d2
    have d3 := AP9.d3
    have d4 := AP9.d4
    have p9 := R9.pos
    have f9 := R9.few
    have lt9 := R9.lt
    have ln9 := R9.ln
    dsimp only at d1 d2 d3 d4
    w_strict k_steps
    refine Halt.go ?_
    refine' len_madeK ?k1 ?k2 ?k3 ?_
    case k1 => k_asm
    case k2 => k_mem
    case k3 => assumption
    w_strict walk1
    have pi9 : (0 : Int) < (ds9.length : Int) := by omega
    have hi0 := fmodn0 (y := n9.fdiv 4) pi9
    have hi1 := fmodn1 (y := n9.fdiv 4) pi9
    have hi2 : (n9.fdiv 4).fmod (ds9.length : Int) < (to9.length : Int) := by omega
    have hi3 : (n9.fdiv 4).fmod (ds9.length : Int) < (nu9.length : Int) := by omega
    have hz1 : to9.length ≤ 1000 := by omega
    have hz2 : nu9.length ≤ 1000 := by omega
    have iv1 := It9.length
    have iv2 := In9.length
    have hi4 : (n9.fdiv 4).fmod (ds9.length : Int) < (vt9.length : Int) := by omega
    have hi5 : (n9.fdiv 4).fmod (ds9.length : Int) < (vn9.length : Int) := by omega
    have hz3 : vt9.length ≤ 1000 := by omega
    have hz4 : vn9.length ≤ 1000 := by omega
    refine cut_tb ?_ ?_
    · by_cases k1 : n9.fmod 4 = 0
      · by_cases k3 : (ds9.length : Int) < 16
        · skip
          have g0 := fmodn0 (y := n9.fdiv 4) (n := 1000) (by decide)
          have g1 := fmodn1 (y := n9.fdiv 4) (n := 1000) (by decide)
          w_strict k_steps
          refine Halt.go ?_
          rename Fr _ _ _ _ => FZ
          rename News _ _ _ _ => NZ
          rename _ ∧ _ ∧ _ ∧ _ ∧ _ ∧ AllLt _ RR9 => lz
          refine' fin_new ⟨_, _, _, _, _, _, _, _, _, _, _, _, _⟩ AP9 It9 In9 R9 FZ NZ rfl rfl rfl rfl ?O1 ?O2 ?O3 ?O4 ?M1 ?M2 ?M3 ?M4 ?M5 ?MR ?lt ?ltR ?l2 ?l3 ?l4 ?h16 ?hnp ?hfst ?hb ?hv
          case M1 => k_mem
          case O3 => k_mem
          case O1 => k_mem
          case O2 => k_mem
          case M4 => k_mem
          case O4 => k_mem
          case M2 => k_mem
          case M3 => k_mem
          case M5 => k_mem
          case MR => (intro q hq; repeat' (first | exact hq | refine List.Mem.tail _ ?_))
          case lt => exact ⟨lz.1, lz.2.1, lz.2.2.1, lz.2.2.2.1, lz.2.2.2.2.1⟩
          case ltR => exact tb_ltOf lz.2.2.2.2.2
          case l2 => assumption
          case l3 => assumption
          case l4 => (refine ltN ?_; dsimp only; omega)
          case h16 => omega
          case hnp => exact .inl ⟨rfl, _, rfl⟩
          case hfst => exact .inl ⟨rfl, _, rfl⟩
          case hb => constructor <;> omega
          case hv => (dsimp only; constructor <;> omega)
        · have k2 : ¬ n9.fmod 4 = 1 := by omega
          have k4 : (n9.fmod 4).fmod 2 = 0 := by rw [k1]; rfl
          have g0 := fmodn0 (y := (n9.fdiv 4).fdiv (ds9.length : Int)) (n := 1000) (by decide)
          have g1 := fmodn1 (y := (n9.fdiv 4).fdiv (ds9.length : Int)) (n := 1000) (by decide)
          w_strict k_steps
          refine Halt.go ?_
          rename Fr _ _ _ _ => FZ
          rename News _ _ _ _ => NZ
          rename ds9[_]? = some _ => hd8
          rename IntsAre _ (to9.set _ _) => It8
          rename IntsAre _ (nu9.set _ _) => In8
          refine' fin_set AP9 It8 In8 R9 hd8 FZ NZ rfl rfl rfl rfl ?M1 ?M2 ?M3 ?M4 ?M5 ?MR ?hn1 ?hn2 ?h ?hb
          case M1 => k_mem
          case M2 => k_mem
          case M3 => k_mem
          case M4 => k_mem
          case M5 => k_mem
          case MR => (intro q hq; repeat' (first | exact hq | refine List.Mem.tail _ ?_))
          case hn1 => exact List.length_set ..
          case hn2 => exact fun k hk => getD_set_ne hk
          case h => exact .inl ⟨rfl, _, by rw [getD_set_self (by omega)]⟩
          case hb => (rw [getD_set_self (by omega)]; constructor <;> omega)
      · by_cases k2 : n9.fmod 4 = 1
        · by_cases k3 : (ds9.length : Int) < 16
          · skip
            w_strict k_steps
            refine Halt.go ?_
            rename Fr _ _ _ _ => FZ
            rename News _ _ _ _ => NZ
            rename ds9[_]? = some _ => hd8
            rename _ ∧ _ ∧ _ ∧ _ ∧ _ ∧ AllLt _ RR9 => lz
            refine' fin_new ⟨_, _, _, _, _, _, _, _, _, _, _, _, _⟩ AP9 It9 In9 R9 FZ NZ rfl rfl rfl rfl ?O1 ?O2 ?O3 ?O4 ?M1 ?M2 ?M3 ?M4 ?M5 ?MR ?lt ?ltR ?l2 ?l3 ?l4 ?h16 ?hnp ?hfst ?hb ?hv
            case M1 => k_mem
            case O3 => k_mem
            case O1 => k_mem
            case O2 => k_mem
            case M4 => k_mem
            case O4 => k_mem
            case M2 => k_mem
            case M3 => k_mem
            case M5 => k_mem
            case MR => (intro q hq; repeat' (first | exact hq | refine List.Mem.tail _ ?_))
            case lt => exact ⟨lz.1, lz.2.1, lz.2.2.1, lz.2.2.2.1, lz.2.2.2.2.1⟩
            case ltR => exact tb_ltOf lz.2.2.2.2.2
            case l2 => assumption
            case l3 => assumption
            case l4 => (refine ltN ?_; dsimp only; omega)
            case h16 => omega
            case hnp => exact .inr ⟨hi0, by omega, _, hd8, rfl⟩
            case hfst => exact .inr ⟨hi0, (by show ((n9.fdiv 4).fmod (ds9.length : Int)).toNat < ds9.length; omega), _, hd8, rfl⟩
            case hb => constructor <;> decide
            case hv => (dsimp only; constructor <;> decide)
          · have k4 : ¬ (n9.fmod 4).fmod 2 = 0 := by rw [k2]; decide
            by_cases k5 : 0 < (n9.fdiv 4).fmod (ds9.length : Int)
            · have hj0 := fmodn0 (y := (n9.fdiv 4).fdiv (ds9.length : Int)) k5
              have hj1 := fmodn1 (y := (n9.fdiv 4).fdiv (ds9.length : Int)) k5
              have hj2 : ((n9.fdiv 4).fdiv (ds9.length : Int)).fmod ((n9.fdiv 4).fmod (ds9.length : Int)) < (ds9.length : Int) := by omega
              w_strict k_steps
              refine Halt.go ?_
              rename Fr _ _ _ _ => FZ
              rename News _ _ _ _ => NZ
              rename ds9[((n9.fdiv 4).fmod (ds9.length : Int)).toNat]? = some _ => hd8
              rename ds9[Int.toNat (Int.fmod (Int.fdiv _ (ds9.length : Int)) _)]? = some _ => hd7
              rename IntsAre _ (to9.set _ _) => It8
              refine' fin_set AP9 It8 In9 R9 hd8 FZ NZ rfl rfl rfl rfl ?M1 ?M2 ?M3 ?M4 ?M5 ?MR rfl (fun _ _ => rfl) ?h (R9.small _)
              case M1 => k_mem
              case M2 => k_mem
              case M3 => k_mem
              case M4 => k_mem
              case M5 => k_mem
              case MR => (intro q hq; repeat' (first | exact hq | refine List.Mem.tail _ ?_))
              case h => exact .inr ⟨hj0, by omega, _, hd7, rfl⟩
            · w_strict k_steps
              refine Halt.go ⟨rfl, ?_⟩
              rename Fr _ _ _ _ => FZ
              rename News _ _ _ _ => NZ
              refine' fin_same AP9 It9 In9 R9 FZ NZ rfl rfl rfl rfl ?M1 ?M2 ?M3 ?M4 ?M5 ?MR
              case M1 => k_mem
              case M2 => k_mem
              case M3 => k_mem
              case M4 => k_mem
              case M5 => k_mem
              case MR => (intro q hq; repeat' (first | exact hq | refine List.Mem.tail _ ?_))
        · by_cases k4 : (n9.fmod 4).fmod 2 = 0
          · skip
            have g0 := fmodn0 (y := (n9.fdiv 4).fdiv (ds9.length : Int)) (n := 1000) (by decide)
            have g1 := fmodn1 (y := (n9.fdiv 4).fdiv (ds9.length : Int)) (n := 1000) (by decide)
            w_strict k_steps
            refine Halt.go ?_
            rename Fr _ _ _ _ => FZ
            rename News _ _ _ _ => NZ
            rename ds9[_]? = some _ => hd8
            rename IntsAre _ (to9.set _ _) => It8
            rename IntsAre _ (nu9.set _ _) => In8
            refine' fin_set AP9 It8 In8 R9 hd8 FZ NZ rfl rfl rfl rfl ?M1 ?M2 ?M3 ?M4 ?M5 ?MR ?hn1 ?hn2 ?h ?hb
            case M1 => k_mem
            case M2 => k_mem
            case M3 => k_mem
            case M4 => k_mem
            case M5 => k_mem
            case MR => (intro q hq; repeat' (first | exact hq | refine List.Mem.tail _ ?_))
            case hn1 => exact List.length_set ..
            case hn2 => exact fun k hk => getD_set_ne hk
            case h => exact .inl ⟨rfl, _, by rw [getD_set_self (by omega)]⟩
            case hb => (rw [getD_set_self (by omega)]; constructor <;> omega)
          · skip
            by_cases k5 : 0 < (n9.fdiv 4).fmod (ds9.length : Int)
            · have hj0 := fmodn0 (y := (n9.fdiv 4).fdiv (ds9.length : Int)) k5
              have hj1 := fmodn1 (y := (n9.fdiv 4).fdiv (ds9.length : Int)) k5
              have hj2 : ((n9.fdiv 4).fdiv (ds9.length : Int)).fmod ((n9.fdiv 4).fmod (ds9.length : Int)) < (ds9.length : Int) := by omega
              w_strict k_steps
              refine Halt.go ?_
              rename Fr _ _ _ _ => FZ
              rename News _ _ _ _ => NZ
              rename ds9[((n9.fdiv 4).fmod (ds9.length : Int)).toNat]? = some _ => hd8
              rename ds9[Int.toNat (Int.fmod (Int.fdiv _ (ds9.length : Int)) _)]? = some _ => hd7
              rename IntsAre _ (to9.set _ _) => It8
              refine' fin_set AP9 It8 In9 R9 hd8 FZ NZ rfl rfl rfl rfl ?M1 ?M2 ?M3 ?M4 ?M5 ?MR rfl (fun _ _ => rfl) ?h (R9.small _)
              case M1 => k_mem
              case M2 => k_mem
              case M3 => k_mem
              case M4 => k_mem
              case M5 => k_mem
              case MR => (intro q hq; repeat' (first | exact hq | refine List.Mem.tail _ ?_))
              case h => exact .inr ⟨hj0, by omega, _, hd7, rfl⟩
            · w_strict k_steps
              refine Halt.go ⟨rfl, ?_⟩
              rename Fr _ _ _ _ => FZ
              rename News _ _ _ _ => NZ
              refine' fin_same AP9 It9 In9 R9 FZ NZ rfl rfl rfl rfl ?M1 ?M2 ?M3 ?M4 ?M5 ?MR
              case M1 => k_mem
              case M2 => k_mem
              case M3 => k_mem
              case M4 => k_mem
              case M5 => k_mem
              case MR => (intro q hq; repeat' (first | exact hq | refine List.Mem.tail _ ?_))
    · skip
      clear F9 N9 It9 In9 R9 AP9 n1 n2 n3 n4 d1 d2 d3 d4 p9 f9 lt9 ln9 pi9 hi0 hi1 hi2 hi3 hz1 hz2 iv1 iv2 hi4 hi5 hz3 hz4
      intro s8 hE8
      obtain ⟨h8, tk8, m8, ma8, ta8, na8, fa8, ds8, to8, nu8, vt8, vn8, e1, e2, e3, e4, RR8, es8, AP8, It8, In8, R8, F8, N8⟩ := tb_open hE8
      subst es8
      clear hE8
      have p8 := R8.pos
      have f8 := R8.few
      have q8 : (0 : Int) ≤ (ds8.length : Int) - 1 := by omega
      have q7 : (ds8.length : Int) - 1 < (ds8.length : Int) := by omega
      have q6 : ((ds8.length : Int) - 1).toNat = ds8.length - 1 := by omega
      w_strict k_steps
      refine Halt.go ?_
      refine' item_lastK ?k1 ?k2 ?k3 ?k4 ?_ ?k6
      case k1 => k_asm
      case k2 => k_mem
      case k3 => assumption
      case k4 => assumption
      case k6 => with_unfolding_all rfl
      intro d8 hd8
      w_strict k_steps
      refine Halt.go ?_
      refine' str_chain R8 hd8 ?k1 ?k2 ?k3 ?k4 ?k5 ?k6 ?k7 ?k8 ?_
      case k1 => k_asm
      case k2 => k_asm
      case k3 => k_asm
      case k4 => k_asm
      case k5 => k_asm
      case k6 => exact Nat.le_of_ble_eq_true rfl
      case k7 => exact Nat.le_of_ble_eq_true rfl
      case k8 => exact AP8.sub
      intro h' t' j' F' N' hlen8
      k_sweep
      w_strict k_steps
      refine Halt.go ?_
      refine' len_madeK ?k1 ?k2 ?k3 ?_
      case k1 => k_asm
      case k2 => k_mem
      case k3 => assumption
      w_strict k_steps
      refine Halt.go ?_
      refine' told_call R8 ?k1 ?k2 ?k3 ?k4 ?k5 ?k6 ?k7 ?k8 ?k9 It8 In8 q8 q7 ?_
      case k1 => k_asm
      case k2 => k_asm
      case k3 => k_asm
      case k4 => k_asm
      case k5 => k_asm
      case k6 => exact Nat.le_of_ble_eq_true rfl
      case k7 => exact Nat.le_of_ble_eq_true rfl
      case k8 => k_mem
      case k9 => k_mem
      rw [q6]
      intro h' t' j' F' N'
      k_sweep
      w_strict k_steps
      refine Halt.go ?_
      rename Fr _ _ _ _ => FZ
      rename News _ _ _ _ => NZ
      refine' fin_same AP8 It8 In8 R8 FZ NZ rfl rfl rfl rfl ?M1 ?M2 ?M3 ?M4 ?M5 ?MR
      case M1 => k_mem
      case M2 => k_mem
      case M3 => k_mem
      case M4 => k_mem
      case M5 => k_mem
      case MR => (intro q hq; repeat' (first | exact hq | refine List.Mem.tail _ ?_))
end
