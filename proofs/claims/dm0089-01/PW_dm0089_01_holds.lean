import PyProof.Rows.All
import Wide.All
import OpenK.AllK
import Wide.FinOn
import PySem.Challenge.RW_dm0089_01
set_option Elab.async false
set_option maxRecDepth 100000

section
open PySem PySem.W PyProof.Rows
namespace Mine
local macro_rules | `(tactic| k_head) => `(tactic| x_head)
set_option maxRecDepth 100000 in
set_option maxHeartbeats 8000000 in
open_top hd for PySem.Challenge.rw_dm0089_01
end Mine
end

section
open PySem PySem.W PySem.Calls PyProof.Rows Builtin
namespace Mine

abbrev tupOf (vs : List Value) : Obj := { cls := .type "tuple", data := .seq vs.toArray }
/-- a defect's object at birth: no dict yet -/
abbrev excOf0 (C tu : Addr) : Obj := { cls := .ref C, data := .fields #[.ref tu, .none, .none, .none, .bool false, .none] }
/-- a defect's object: class, dict, args -/
abbrev excOf (C dx tu : Addr) : Obj := { cls := .ref C, dict := some dx, data := .fields #[.ref tu, .none, .none, .none, .bool false, .none] }

structure MakesX (M : Model) (h : Heap) (C : Addr) : Prop where
  obj : ∃ oc od cd sl, h.get? C = some ⟨oc, od, .cls cd, sl⟩ ∧ cd.hasDel = false ∧ cd.mro.isEmpty = false
  isT : Looks M h (isType (.ref C)) true
  made : Looks M h (Bind.madeBy (.ref C)) (some "ValueError.__new__")
  base : Looks M h (Bind.staticBase (.ref C)) (.ref C)
  self : Looks M h (isSubtype (.ref C) (.ref C)) true
  val : Looks M h (isSubtype (.ref C) (.type "ValueError")) true
  nA : Looks M h (isSubtype (.ref C) (.type "AttributeError")) false
  nN : Looks M h (isSubtype (.ref C) (.type "NameError")) false
  call : Looks M h (specialOf (.ref C) "__call__") (some (.builtin "type.__call__"))
  typ : Looks M h (isInstance (.ref C) (.type "type")) true

section
variable {prog : Program} {w : World} {A : Around} {C : Addr} {R : Result → Shared → Prop} {h : Heap} {g : Array GenState} {d : Drawn} {t : Nat} {os : OsState}

theorem check_any_args (r : Value) (rest : List Value) (kw : List (Str × Value)) : Bind.checkArgs "ValueError.__new__" ⟨.any, "ValueError", "ValueError", .cls, [⟨"args", .varPos, false⟩, ⟨"kwargs", .varKw, false⟩]⟩ ⟨r :: rest, kw⟩ = pure () := by
  kernel_rfl
set_option maxHeartbeats 4000000 in
theorem new_X {rest : List Value} {kw : List (Str × Value)} (Y : MakesX (model prog w) h C)
    (hq : R (.ok (.ret (.ref (h.objs.size + 1)))) ⟨(h.push (tupOf rest)).push (excOf0 C h.objs.size), g, d, t, os⟩) (hrest : rest.length ≤ sizeLine) :
    codeAny (model prog w) A (.call (.builtin "ValueError.__new__") ⟨.ref C :: rest, kw⟩) R ⟨h, g, d, t, os⟩ := by
  obtain ⟨⟨oc, od, cd, sl, hC, e2, e4⟩, isT, made, base, self, val, nA, nN, call, typ⟩ := Y
  have F := PySem.F.excBase_ValueError
  refine codeAny_call_builtin_code (Code.quiet_builtin _ F.quiet) ?_
  simp only [checkBuiltinCall, F.newKind, F.newSplit, F.newRow]
  rw [check_any_args]
  repeat (first | simp only [bne_self_eq_false, Bool.false_eq_true, if_false] | lk)
  refine codeAny_builtinAt F.entry ?_
  unfold Builtin.«BaseException.__new__»
  refine PySem.wpAt_bind ?_
  show PySem.wpAt _ _ _ (stack >>= _) _ _ _
  refine PySem.wpAt_bind (PySem.wpAt_stack fun p below => PySem.wpAt_of_wpAny ?_)
  have hends := F.ends
  wp_walk
  refine PySem.wpAt_of_wpAny ?_
  rw [F.owner]
  have here : Looks (model prog w) h (Bind.madeHere "BaseException.__new__" (.ref C)) () := base.andThen (made.andThen (Looks.of_pure (by simp only [Option.map_some, F.canon, bne_self_eq_false, Bool.false_eq_true, if_false])))
  repeat (first | simp only [Bool.not_true, Bool.false_eq_true, if_false] | lk)
  rw [if_neg (by rw [List.size_toArray]; omega)]
  refine wpAny_bind (wpAny_alloc (wpAny_pure (wpAny_bind ?_)))
  show wpAny _ _ (newObjAsIs _ _ _) _ _ _
  unfold newObjAsIs classHasDel
  refine wpAny_bind (wpAny_alloc (wpAny_bind (wpAny_bind (wpAny_load (Heap.get?_push_of_some _ (Heap.get?_push_of_some _ hC)) (wpAny_pure ?_)))))
  rw [e2]
  refine wpAny_pure (wpAny_pure ?_)
  show R _ _
  rw [Heap.size_push]
  exact hq

set_option maxHeartbeats 4000000 in
theorem make_X {rest : List Value} {kw : List (Str × Value)} {init : Value} (Y : MakesX (model prog w) h C) (hi : Looks (model prog w) h (typeLookup (.ref C) "__init__") (some init))
    (hb : ∀ self, Looks (model prog w) h (bindSpecial init self) (init, [self])) (hrest : rest.length ≤ sizeLine)
    (hq : codeAny (model prog w) (A.under (.builtin "type.__call__" ⟨.ref C :: rest, kw⟩)) (.call init ⟨.ref (h.objs.size + 1) :: rest, kw⟩) (InitBack (h.objs.size + 1) R) ⟨(h.push (tupOf rest)).push (excOf0 C h.objs.size), g, d, t, os⟩) :
    codeAny (model prog w) A (.call (.ref C) ⟨rest, kw⟩) R ⟨h, g, d, t, os⟩ := by
  have Y' := Y
  obtain ⟨⟨oc, od, cd, sl, hC, e2, e4⟩, isT, made, base, self, val, nA, nN, call, typ⟩ := Y
  refine codeAny_of_tree ?_
  show wpAny _ _ (callAny (.ref C) _) _ _ _
  refine nd_load hC ?_
  show wpAny _ _ (callAny.viaDunder (.ref C) _) _ _ _
  unfold callAny.viaDunder
  refine wpAny_bind (call.at ?_)
  dsimp only
  rw [tc_bind]
  refine wpAny_bind (wpAny_pure (wpAny_bind (wpAny_pure ?_)))
  refine wpAny_pure (a := Fin.again (.call (.builtin "type.__call__") ⟨.ref C :: rest, kw⟩)) (And.intro rfl ?_)
  refine codeAny_call_builtin_at (Code.quiet_builtin _ (by decide +kernel)) entry_typeCall (check_slot tc_kind tc_split typ (tc_args _ _ _) ?_)
  unfold Builtin.«type.__call__»
  have hm : Looks (model prog w) h (mroOf (.ref C)) cd.mro := ((Looks.ld (part := none) hC).andThen .now).andThen .now
  repeat (first | simp only [e4, Bool.false_eq_true, if_false] | with_reducible refine wpAny_call ?_ | lk)
  refine new_X Y' ?_ hrest
  have k : ∀ b o, h.get? b = some o → ((h.push (tupOf rest)).push (excOf0 C h.objs.size)).get? b = some o := fun b o e => Heap.get?_push_of_some _ (Heap.get?_push_of_some _ e)
  have hx : ((h.push (tupOf rest)).push (excOf0 C h.objs.size)).get? (h.objs.size + 1) = some (excOf0 C h.objs.size) := by heap_get
  have t1 : Looks (model prog w) ((h.push (tupOf rest)).push (excOf0 C h.objs.size)) (typeOf (.ref (h.objs.size + 1))) (.ref C) := (Looks.ld hx).andThen .now
  have s1 := self.keeps k
  have i1 := hi.keeps k
  have b1 := (hb (.ref (h.objs.size + 1))).keeps k
  unfold isInstance callSpecial? specialOf
  repeat (first | with_reducible refine wpAny_call ?_ | lk)
  refine codeAny_mono hq fun r s' z => ?_
  rcases r with e | (v | _ | _ | _) <;> first | exact z | exact z.elim | skip
  obtain ⟨rfl, z⟩ := z
  exact wpAny_pure (wpAny_pure z)
end
end Mine
end

section
open PySem PySem.W PySem.Calls PyProof.Rows Builtin Builtin.ObjectAttr
namespace Mine

theorem bga_slot : Slot "BaseException" "__getattribute__" "BaseException.__getattribute__" := .of (owner := "BaseException") (n := "__getattribute__") (by rw [typeLookup_type, builtinLookup_eq_fast]; kernel_rfl) (by decide +kernel) (by decide +kernel) (by decide +kernel)
  (by first | exact .inl (by decide +kernel) | exact .inr (by decide +kernel)) (by rw [isSubtype_type]; kernel_rfl)
theorem bga_entry : entryFor table "BaseException.__getattribute__" = some Builtin.«object.__getattribute__» := entryFor_alias (id' := "object.__getattribute__") (by rw [fastTable_eq_tree]; kernel_rfl) (by first | rfl | decide +kernel) (by decide +kernel) (by rw [fastTable_eq_tree]; kernel_rfl)
theorem bga_kind : builtinKind "BaseException.__getattribute__" = some .slot := by decide +kernel
theorem bga_split : splitId "BaseException.__getattribute__" = some ("BaseException", "__getattribute__") := by decide +kernel
theorem bga_args (o a : Value) : argsOk "BaseException.__getattribute__" ⟨[o, a], []⟩ := by unfold argsOk; kernel_rfl

section
variable {prog : Program} {w : World} {A : Around} {E : Value → Shared → Prop} {s : Shared} {K : Frag} {x C : Addr} {ox : Obj} {od : Option Obj} {name : Str} {expr : Bool} {Q : Value → Shared → Prop}

theorem get_excO (X : K.In s.heap) (I : InstAt s.heap x ox C od) (hga : findIn K (.ref C) "__getattribute__" = some (some (.builtin "BaseException.__getattribute__")))
    (hgn : findIn K (.ref C) "__getattr__" = some none) (sub : mroIn K C (.type "BaseException") = some true)
    (h : wpAny (model prog w) A.in1 (Builtin.«object.__getattribute__» ⟨[.ref x, .str name s.toks], []⟩)
      (fun fin s' => match fin with | .done (.ret v) => wpAny (model prog w) A (handedOut v) Q E s' | _ => False) (fun _ _ => False) { s with toks := s.toks + 1 }) :
    wpAny (model prog w) A (getAttr (.ref x) name expr) Q E s := by
  obtain ⟨hh, g, d, t, os⟩ := s
  have L0 := I.type (M := model prog w)
  have L1 := looks_findIn (M := model prog w) X hga
  have L2 := looks_findIn (M := model prog w) X hgn
  have L3 : Looks (model prog w) hh (isInstance (.ref x) (.type "BaseException")) true := L0.andThen (looks_mroIn X sub)
  unfold getAttr getAttrBy
  refine wpAny_bind (wpAny_mkText (wpAny_holding (wpAny_bind (L0.at (wpAny_bind (L1.at ?_))))))
  show wpAny _ _ (getAttrByItsOwn (.ref x) (.str name t) (.ref C) (.builtin "BaseException.__getattribute__") true expr) _ _ _
  unfold getAttrByItsOwn
  have hb : hookBefore (.ref C) = typeLookup (.ref C) "__getattr__" := rfl
  rw [hb]
  refine wpAny_bind (L2.at ?_)
  refine wpAny_bind (wpAny_attempt (wpAny_holding ?_))
  have e : callGetattribute (.ref x) (.str name t) (.builtin "BaseException.__getattribute__") expr = boundAndCalled (.builtin "BaseException.__getattribute__") (.ref x) (.str name t) := by
    unfold callGetattribute; cases expr <;> rfl
  rw [e]
  unfold boundAndCalled
  refine wpAny_bind (wpAny_of_eq (bga_slot.bind _) ?_)
  dsimp only [List.cons_append, List.nil_append]
  refine wpAny_call (codeAny_call_builtin bga_slot.plain bga_entry (@check_slot (model prog w) _ _ _ "BaseException.__getattribute__" "BaseException" "__getattribute__" (.ref x) [.str name t] [] _ bga_kind bga_split L3 (bga_args _ _) ?_))
  refine wpAny_mono h (fun fin s' z => ?_) fun _ _ z => z.elim
  rcases fin with (_ | _ | _ | v) | _ <;> first | exact z.elim | skip
  exact z

theorem get_excV {v : Value} (X : K.In s.heap) (I : InstAt s.heap x ox C od) (hga : findIn K (.ref C) "__getattribute__" = some (some (.builtin "BaseException.__getattribute__")))
    (hgn : findIn K (.ref C) "__getattr__" = some none) (sub : mroIn K C (.type "BaseException") = some true) (hf : findObj K C od name = some (.value v)) (hh : handedIn v = true)
    (h : Q v { s with toks := s.toks + 1 }) : wpAny (model prog w) A (getAttr (.ref x) name expr) Q E s := by
  refine get_excO X I hga hgn sub ?_
  obtain ⟨hh', g, d, t, os⟩ := s
  have L0 := I.type (M := model prog w)
  have L1 := looks_find (M := model prog w) X I hf
  refine wpAny_bind (wpAny_pure (wpAny_bind (wpAny_pure (wpAny_bind (L0.at (wpAny_bind (L1.at ?_)))))))
  refine wpAny_pure ?_
  show wpAny _ _ (handedOut v) _ _ _
  rw [handedOut_of hh]; exact wpAny_pure h
end

/-- own classes, then ValueError's line -/
def overVal : List Value → Bool
  | .ref _ :: r => overVal r
  | l => l == [.type "ValueError", .type "Exception", .type "BaseException", .type "object"]
theorem overVal_pass (self : Value) : ∀ {l : List Value}, overVal l = true → refuseLoop self "__setattr__" l = pure ()
  | .ref c :: r, e => by rw [refuseLoop_ref]; exact overVal_pass self (by simpa [overVal] using e)
  | [], e => by simp [overVal] at e
  | .type n :: r, e => by
    have : (Value.type n :: r) = [.type "ValueError", .type "Exception", .type "BaseException", .type "object"] := by simpa [overVal] using e
    rw [this]; exact PySem.F.store_ValueError.passes self
  | .none :: r, e => by simp [overVal] at e
  | .ellipsis :: r, e => by simp [overVal] at e
  | .notImplemented :: r, e => by simp [overVal] at e
  | .bool _ :: r, e => by simp [overVal] at e
  | .int _ _ :: r, e => by simp [overVal] at e
  | .float _ _ :: r, e => by simp [overVal] at e
  | .str _ _ :: r, e => by simp [overVal] at e
  | .bytes _ _ :: r, e => by simp [overVal] at e
  | .builtin _ :: r, e => by simp [overVal] at e
theorem overVal_has : ∀ {l : List Value}, overVal l = true → l.contains (.type "object") = true
  | .ref c :: r, e => by rw [List.contains_cons, overVal_has (l := r) (by simpa [overVal] using e), Bool.or_true]
  | [], e => by simp [overVal] at e
  | .type n :: r, e => by
    have : (Value.type n :: r) = [.type "ValueError", .type "Exception", .type "BaseException", .type "object"] := by simpa [overVal] using e
    rw [this]; decide
  | .none :: r, e => by simp [overVal] at e
  | .ellipsis :: r, e => by simp [overVal] at e
  | .notImplemented :: r, e => by simp [overVal] at e
  | .bool _ :: r, e => by simp [overVal] at e
  | .int _ _ :: r, e => by simp [overVal] at e
  | .float _ _ :: r, e => by simp [overVal] at e
  | .str _ _ :: r, e => by simp [overVal] at e
  | .bytes _ _ :: r, e => by simp [overVal] at e
  | .builtin _ :: r, e => by simp [overVal] at e

section
variable {prog : Program} {w : World} {A : Around} {K : Frag} {C x : Addr} {s : Shared} {R : Result → Shared → Prop}
theorem osa_openX {ox : Obj} {od : Option Obj} {name : Str} {tk : Tok} {v : Value} {r : Option Value} {cd : ClassData} (X : K.In s.heap) (I : InstAt s.heap x ox C od) (hc : clsIn K C = some cd) (ho : overVal cd.mro = true) (ht : takerIn K C name = some r)
    (h : ∀ b, wpAny (model prog w) A.in1 (match r with | some a => setByDescriptor a (.ref x) v | none => storeInOwnDict (.ref x) (.ref C) (.str name tk) name v b)
      (fun fin s' => match fin with | .done f => R (.ok f) s' | .again c' => c'.quiet = true ∧ codeAny (model prog w) A c' R s') (fun e s' => R (.error e) s') s) :
    codeAny (model prog w) A (.call (.builtin "object.__setattr__") ⟨[.ref x, .str name tk, v], []⟩) R s := by
  have SF := PySem.F.store_object
  have ne : cd.mro.isEmpty = false := by cases q : cd.mro with | nil => rw [q] at ho; cases ho | cons _ _ => rfl
  have sub : Looks (model prog w) s.heap (isInstance (.ref x) (.type "object")) true := I.type.andThen (looks_mroIn X (by unfold mroIn; rw [hc, Option.bind_some, if_neg (by rw [ne]; decide), overVal_has ho]))
  refine codeAny_call_builtin SF.slot.plain SF.entry (@check_slot (model prog w) _ _ s "object.__setattr__" "object" "__setattr__" (.ref x) [.str name tk, v] [] _ SF.kind SF.split sub (SF.args (.ref x) (.str name tk) v) ?_)
  obtain ⟨attr, ha, hr⟩ := Option.bind_eq_some_iff.mp ht
  have hm : Looks (model prog w) s.heap (mroOf (.ref C)) cd.mro := (looks_clsIn X hc).andThen .now
  have L3 : Looks (model prog w) s.heap (storeTaker? attr) r := by
    cases attr with
    | none => cases hr; exact .now
    | some a =>
      obtain ⟨b, hb, rfl⟩ := Option.map_eq_some_iff.mp hr
      refine (looks_takesIn X hb).andThen ?_
      cases b <;> exact .now
  rw [osa_eq, refuse_eq]
  refine wpAny_bind (wpAny_bind (I.type.here (wpAny_bind (hm.here ?_))))
  rw [overVal_pass _ ho]
  refine wpAny_pure (wpAny_bind (I.type.here (wpAny_bind ((looks_findIn X ha).here (wpAny_bind (L3.here ?_))))))
  exact h _
end
end Mine
end

section
open PySem PySem.W PySem.Calls PyProof.Rows Builtin Builtin.ObjectAttr
namespace Mine
section
variable {prog : Program} {w : World} {A : Around} {K : Frag} {C x : Addr} {s : Shared} {R : Result → Shared → Prop}

theorem storeInDict_ok {dx : Addr} {es es' : List DictEntry} {n n' : Nat} {name : Str} {tk : Tok} {v : Value} {E : Value → Shared → Prop} {Q : Fin → Shared → Prop}
    (D : s.heap.get? dx = some (dictOf es n)) (hl : (getL name es).isSome = true)
    (e : (putL name (PyData.keyHash w.params name) (.str name s.toks) v es, putN name es n) = (es', n')) (hz : es'.length ≤ 1000)
    (h : ∀ h', h'.get? dx = some (dictOf es' n') → Heap.SameBut dx s.heap h' → Q (.done (.ret .none)) { s with heap := h', toks := s.toks + 1 }) :
    wpAny (model prog w) A (storeInDict dx (.str name tk) name v) Q E s := by
  obtain ⟨e1, e2⟩ := Prod.mk.inj e
  have ge : (s.heap.update dx (Obj.putName name (PyData.keyHash w.params name) (.str name s.toks) v)).get? dx = some (dictOf es' n') := by
    have z := putName_dict name (PyData.keyHash w.params name) (.str name s.toks) v es n
    rw [e1, e2] at z
    rw [Heap.get?_update_self _ D (by rw [z]; rfl), z]
  unfold storeInDict
  refine wpAny_bind (wpAny_pure (wpAny_bind ?_))
  unfold nsSet
  refine wpAny_bind (wpAny_bind (wpAny_askSetting (wpAny_pure (wpAny_bind (wpAny_mkText (wpAny_bind (wpAny_loadPart D ?_)))))))
  dsimp only
  have c : (!es.toArray.any (·.key.isStr name) && es.toArray.any (·.refKey)) = false := by
    rw [← Array.any_toList, ← Array.any_toList]
    unfold getL at hl
    split at hl
    · rename_i en he
      rw [List.any_eq_true.mpr ⟨en, List.mem_of_find?_eq_some he, List.find?_some he⟩]; rfl
    · split at hl
      · cases hl
      · rename_i z; rw [Bool.not_eq_true] at z; rw [z, Bool.and_false]
  rw [aRefKeyMayBeTheName_at, c]
  refine wpAny_updatePart D ?_
  refine wpAny_bind (wpAny_lookBehind ge (pastItsLine_dict (by rw [List.size_toArray, sizeLine_eq]; omega)) ?_)
  exact wpAny_pure (h _ ge (Heap.SameBut.update ..))

theorem set_exc1 {dx : Addr} {ox : Obj} {es es' : List DictEntry} {n n' : Nat} {name : Str} {v : Value} {cd : ClassData} {E : Value → Shared → Prop} {Q : Unit → Shared → Prop}
    (X : K.In s.heap) (I : InstAt s.heap x ox C (some (dictOf es n))) (hd : ox.dict = some dx)
    (hs : findIn K (.ref C) "__setattr__" = some (some (.builtin "object.__setattr__"))) (hc : clsIn K C = some cd) (ho : overVal cd.mro = true) (ht : takerIn K C name = some none) (hh : cd.hasDict = true)
    (hl : (getL name es).isSome = true) (e : (putL name (PyData.keyHash w.params name) (.str name (s.toks + 1)) v es, putN name es n) = (es', n')) (hz : es'.length ≤ 1000)
    (h : ∀ h', h'.get? dx = some (dictOf es' n') → Heap.SameBut dx s.heap h' → Q () { s with heap := h', toks := s.toks + 2 }) :
    wpAny (model prog w) A (setAttr (.ref x) name v) Q E s := by
  refine set_plain X I hs (osa_openX (s := { s with toks := s.toks + 1 }) X I hc ho ht fun b => ?_)
  obtain ⟨hx, hcl, hn, D⟩ := I
  obtain ⟨oc, odi, oda, osl⟩ := ox
  dsimp only at hcl hd
  subst hcl hd
  have D : s.heap.get? dx = some (dictOf es n) := D
  unfold storeInOwnDict
  refine wpAny_bind (wpAny_pure (wpAny_bind (wpAny_bind (wpAny_loadPart hx (wpAny_bind ((looks_clsIn (M := model prog w) X hc) _ _ _ _ (fun _ _ e => e) ?_))))))
  rw [hh]
  refine wpAny_pure (a := some dx) ?_
  dsimp only
  refine storeInDict_ok (s := { s with toks := s.toks + 1 }) D hl e hz fun h' g1 g2 => ?_
  exact h h' g1 g2

theorem set_exc0 {ox : Obj} {name : Str} {v : Value} {cd : ClassData} {E : Value → Shared → Prop} {Q : Unit → Shared → Prop}
    (X : K.In s.heap) (I : InstAt s.heap x ox C none)
    (hs : findIn K (.ref C) "__setattr__" = some (some (.builtin "object.__setattr__"))) (hc : clsIn K C = some cd) (ho : overVal cd.mro = true) (ht : takerIn K C name = some none) (hh : cd.hasDict = true)
    (hf : ox.isFreed = false)
    (h : ∀ h', h'.get? x = some { ox with dict := some s.heap.objs.size } → h'.get? s.heap.objs.size = some (dictOf [⟨PyData.keyHash w.params name, .str name (s.toks + 1), v⟩] 1) →
      (∀ b o, b ≠ x → s.heap.get? b = some o → h'.get? b = some o) → Q () { s with heap := h', toks := s.toks + 2 }) :
    wpAny (model prog w) A (setAttr (.ref x) name v) Q E s := by
  refine set_plain X I hs (osa_openX (s := { s with toks := s.toks + 1 }) X I hc ho ht fun b => ?_)
  obtain ⟨hx, hcl, hn, D⟩ := I
  obtain ⟨oc, odi, oda, osl⟩ := ox
  dsimp only at hcl hn D
  subst hcl
  cases odi with
  | some _ => exact D.elim
  | none =>
  have lt := Heap.lt_size hx
  unfold storeInOwnDict
  refine wpAny_bind (wpAny_pure (wpAny_bind (wpAny_bind (wpAny_loadPart hx (wpAny_bind ((looks_clsIn (M := model prog w) X hc) _ _ _ _ (fun _ _ e => e) ?_))))))
  rw [hh]
  have hx1 : (s.heap.push emptyDict).get? x = some ⟨.ref C, none, oda, osl⟩ := Heap.get?_push_of_some _ hx
  have hx2 : ((s.heap.push emptyDict).update x fun o => { o with dict := some s.heap.objs.size }).get? x = some ⟨.ref C, some s.heap.objs.size, oda, osl⟩ := by
    rw [Heap.get?_update_self _ hx1 (by cases oda <;> first | rfl | exact hf)]
  have hd2 : ((s.heap.push emptyDict).update x fun o => { o with dict := some s.heap.objs.size }).get? s.heap.objs.size = some (dictOf [] 0) := by
    rw [Heap.get?_update_other _ _ (Nat.ne_of_lt lt)]
    exact Heap.get?_push_size _ rfl
  have fin : wpAny (model prog w) A.in1 (do
      let d ← alloc { cls := .type "dict", data := .dict #[] }
      update x fun o => { o with dict := some d }
      dictMade (.ref C) x d) (fun a s' => wpAny (model prog w) A.in1 (match a with | some d => storeInDict d (.str name s.toks) name v | none => noDictFor (.ref x) (.ref C) name b)
        (fun fin s' => match fin with | .done f => (match (Except.ok f : Result) with | .ok (.ret _) => Q () s' | .ok _ => False | .error e => E e s') | .again c' => c'.quiet = true ∧ codeAny (model prog w) A c' (fun r s' => match r with | .ok (.ret _) => Q () s' | .ok _ => False | .error e => E e s') s') (fun e s' => E e s') s') (fun e s' => E e s') { s with toks := s.toks + 1 } := by
    refine wpAny_bind (wpAny_alloc (wpAny_bind (wpAny_update (s := { s with toks := s.toks + 1, heap := s.heap.push emptyDict }) hx1 ?_)))
    refine wpAny_pure (a := some s.heap.objs.size) ?_
    dsimp only
    refine storeInDict_ok (s := { s with toks := s.toks + 1, heap := (s.heap.push emptyDict).update x fun o => { o with dict := some s.heap.objs.size } }) hd2 rfl rfl (by simp [putL]) fun h' g1 g2 => ?_
    refine h h' ?_ g1 fun b' o hb e => ?_
    · rw [g2.2 x (Nat.ne_of_lt lt)]; exact hx2
    · rw [g2.2 b' (Nat.ne_of_lt (Heap.lt_size e)), Heap.get?_update_other _ _ (Ne.symm hb)]
      exact Heap.get?_push_of_some _ e
  cases oda <;> first | exact fin | exact Bool.noConfusion hn
end
end Mine
end

section
open PySem PySem.W PySem.Calls PyProof.Rows Builtin Builtin.ObjectAttr
namespace Mine
abbrev mwObj (f self : Value) : Obj := { cls := .type "method-wrapper", data := .fields #[f, self] }
theorem wdg_slot : Slot "wrapper_descriptor" "__get__" "wrapper_descriptor.__get__" := .of (owner := "wrapper_descriptor") (n := "__get__") (by rw [typeLookup_type, builtinLookup_eq_fast]; kernel_rfl) (by decide +kernel) (by decide +kernel) (by decide +kernel)
  (by first | exact .inl (by decide +kernel) | exact .inr (by decide +kernel)) (by rw [isSubtype_type]; kernel_rfl)
theorem wdg_entry : entryFor table "wrapper_descriptor.__get__" = some Builtin.«wrapper_descriptor.__get__» := entryFor_of_tree (by kernel_rfl)
theorem wdg_args (a b c : Value) : argsOk "wrapper_descriptor.__get__" ⟨[a, b, c], []⟩ := by unfold argsOk; kernel_rfl
theorem vi_type : typeOf (.builtin "ValueError.__init__") = pure (.type "wrapper_descriptor") := by kernel_rfl
section
variable {prog : Program} {w : World} {M : Model} {A : Around} {E : Value → Shared → Prop} {h : Heap} {g : Array GenState} {d : Drawn} {t : Nat} {os : OsState} {x C D so : Addr} {K : Frag}
theorem wdg_run {ox : Obj} {od : Option Obj} {Q : Fin → Shared → Prop} (I : InstAt h x ox C od) (hs : Looks (model prog w) h (isSubtype (.ref C) (.type "ValueError")) true)
   (hq : Q (.done (.ret (.ref h.objs.size))) ⟨h.push (mwObj (.builtin "ValueError.__init__") (.ref x)), g, d, t, os⟩) :
   wpAny (model prog w) A (Builtin.«wrapper_descriptor.__get__» ⟨[.builtin "ValueError.__init__", .ref x, .ref C], []⟩) Q E ⟨h, g, d, t, os⟩ := by
  obtain ⟨hx, hc, hn, hd⟩ := I
  unfold Builtin.«wrapper_descriptor.__get__»
  have hs' : Looks (model prog w) h (isSubtype (.ref C) (.type (".".intercalate ("ValueError.__init__".cutAt '.').dropLast))) true := by
    rw [show (".".intercalate ("ValueError.__init__".cutAt '.').dropLast) = "ValueError" from by decide +kernel]; exact hs
  obtain ⟨oc, odd, oda, osl⟩ := ox
  dsimp only at hc
  subst hc
  repeat lk
  exact hq

theorem super_gaB {ox : Obj} {od : Option Obj} {l₀ l : List Value} {name : Str} {tk : Tok} {Q : Fin → Shared → Prop}
    (hso : h.get? so = some { cls := .type "super", dict := none, data := .fields #[.ref D, .ref x, .ref C], slots := #[] }) (hno : Looks (model prog w) h (opaqueClassAbove (.ref C)) none)
    (hC : Looks (model prog w) h (mroOf (.ref C)) l₀) (hl : (l₀.dropWhile (· != .ref D)).drop 1 = l) (X : K.In h)
    (hf : alongIn K name l = some (some (.builtin "ValueError.__init__"))) (I : InstAt h x ox C od) (hs : Looks (model prog w) h (isSubtype (.ref C) (.type "ValueError")) true) (hxC : x ≠ C) (hn : (name == ("__class__" : Str)) = false)
    (hq : Q (.done (.ret (.ref h.objs.size))) ⟨h.push (mwObj (.builtin "ValueError.__init__") (.ref x)), g, d, t, os⟩) :
    wpAny (model prog w) A (Builtin.«super.__getattribute__» ⟨[.ref so, .str name tk], []⟩) Q E ⟨h, g, d, t, os⟩ := by
  have hlk := wdg_slot.lookup
  have hne : (Value.ref x == Value.ref C) = false := by simp [hxC]
  have hTf : (⟨h, g, d, t, os⟩ : Shared).TypeIs (.builtin "ValueError.__init__") "wrapper_descriptor" := by
    first | exact vi_type | exact ⟨_, vi_type⟩
  have hdt : ({ cls := .type "super", dict := none, data := .fields #[.ref D, .ref x, .ref C], slots := #[] } : Obj).data = .fields #[.ref D, .ref x, .ref C] := rfl
  have f0 : (#[.ref D, .ref x, .ref C] : Array Value)[0]? = some (.ref D) := rfl
  have f1 : (#[.ref D, .ref x, .ref C] : Array Value)[1]? = some (.ref x) := rfl
  have f2 : (#[.ref D, .ref x, .ref C] : Array Value)[2]? = some (.ref C) := rfl
  unfold Builtin.«super.__getattribute__»
  repeat (first
    | (with_reducible refine wpAny_field hso hdt f0 ?_) | (with_reducible refine wpAny_field hso hdt f1 ?_) | (with_reducible refine wpAny_field hso hdt f2 ?_)
    | (with_reducible refine ks_wpAny_notOpaque hno ?_)
    | (with_reducible refine Looks.at hC ?_; rw [hl])
    | (refine ks_forIn_along X (fun _ _ => rfl) rfl ?_ hf)
    | (with_reducible refine wpAny_typeOf hTf ?_)
    | (with_reducible refine wpAny_call_entry wdg_slot hTf wdg_entry ?_ (wdg_args _ _ _))
    | (with_reducible refine wdg_run I hs ?_)
    | (with_reducible refine ⟨_, rfl, ?_⟩)
    | (simp only [hn, hne, Bool.or_false, Bool.false_eq_true, if_false])
    | wp_step
    | dsimp only)
  all_goals exact hq

theorem getMethod_superB {ox : Obj} {od : Option Obj} {l₀ l : List Value} {name : Str} {pl : Sem Bool} {Q : Value × List Value → Shared → Prop}
    (hso : h.get? so = some { cls := .type "super", dict := none, data := .fields #[.ref D, .ref x, .ref C], slots := #[] }) (hno : Looks (model prog w) h (opaqueClassAbove (.ref C)) none)
    (hC : Looks (model prog w) h (mroOf (.ref C)) l₀) (hl : (l₀.dropWhile (· != .ref D)).drop 1 = l) (X : K.In h)
    (hf : alongIn K name l = some (some (.builtin "ValueError.__init__"))) (I : InstAt h x ox C od) (hs : Looks (model prog w) h (isSubtype (.ref C) (.type "ValueError")) true) (hxC : x ≠ C) (hn : (name == ("__class__" : Str)) = false)
    (hq : Q (.ref h.objs.size, []) ⟨h.push (mwObj (.builtin "ValueError.__init__") (.ref x)), g, d, t + 1, os⟩) :
    wpAny (model prog w) A (getMethod (.ref so) name pl) Q E ⟨h, g, d, t, os⟩ := by
  have hlk := PySem.F.ks_slot_super_ga.lookup
  have hcan := PySem.F.ks_canon_super_ga
  have hT : ∀ t', (⟨h, g, d, t', os⟩ : Shared).TypeIs (.ref so) "super" := fun _ => ⟨_, hso, rfl⟩
  unfold getMethod
  refine wpAny_bind (wpAny_specialOf (hT _) hlk ?_)
  show wpAny _ _ (if (Manifest.canonical "super.__getattribute__" != "object.__getattribute__") = true then _ else _) _ _ _
  rw [if_pos hcan]
  unfold getAttr getAttrBy
  refine wpAny_bind (wpAny_bind (wpAny_mkText (wpAny_holding (wpAny_bind (wpAny_typeOf (hT _) (wpAny_bind (wpAny_of_eq hlk ?_)))))))
  show wpAny _ _ (getAttrByItsOwn (.ref so) (.str name t) (.type "super") (.builtin "super.__getattribute__") true false) _ _ _
  unfold getAttrByItsOwn hookBefore callGetattribute boundAndCalled
  refine wpAny_bind (wpAny_of_eq (show (if onTheHeap (.type "super") then typeLookup (.type "super") "__getattr__" else pure none) = pure none from rfl) ?_)
  refine wpAny_bind (wpAny_attempt (wpAny_holding ?_))
  show wpAny _ _ (bindSpecial (.builtin "super.__getattribute__") (.ref so) >>= _) _ _ _
  refine wpAny_bind (wpAny_of_eq (PySem.F.ks_slot_super_ga.bind _) ?_)
  refine wpAny_mono (Q := fun v s' => v = .ref h.objs.size ∧ s' = ⟨h.push (mwObj (.builtin "ValueError.__init__") (.ref x)), g, d, t + 1, os⟩) (E := fun _ _ => False)
    (wpAny_call_entry PySem.F.ks_slot_super_ga (hT _) PySem.F.ks_entry_super_ga (super_gaB hso hno hC hl X hf I hs hxC hn ⟨_, rfl, rfl, rfl⟩) (PySem.F.ks_gaArgs_super _ _)) (fun v s' hv => ?_) fun _ _ z => z.elim
  obtain ⟨rfl, rfl⟩ := hv
  exact wpAny_pure (wpAny_pure hq)
end

section
variable {prog : Program} {w : World} {A : Around} {E : Value → Shared → Prop} {s : Shared} {h₀ : Heap} {L : Addr} {m : Str → Option Value} {news news' : List (Addr × Obj)} {K : Frag} {x C D so q : Addr} {ox : Obj} {odx : Option Obj}
theorem methodB {name : Str} {pl : Sem Bool} {Q : Value × List Value → Shared → Prop} (F : Fr h₀ L s.heap m) (X₀ : K.In h₀) (N : News h₀ L s.heap news) (hso : (so, ks_superObj D x C) ∈ news) (I : InstAt s.heap x ox C odx) (ho : nsIn K cStatics "thirdparty.any" = some none)
    (hm : ks_superIn K C D name = some (some (.builtin "ValueError.__init__"))) (hsub : mroIn K C (.type "ValueError") = some true) (hn : (name == ("__class__" : Str)) = false)
    (h : ∀ q h', Fr h₀ L h' m → News h₀ L h' ((q, mwObj (.builtin "ValueError.__init__") (.ref x)) :: news) → (∀ p ∈ news, p.1 < q) → Q (.ref q, []) { s with heap := h', toks := s.toks + 1 }) : wpAny (model prog w) A (getMethod (.ref so) name pl) Q E s := by
  have X : K.In s.heap := X₀.keeps F.keep
  obtain ⟨hh, g, d, t, os⟩ := s
  cases hc : clsIn K C with
  | none => unfold ks_superIn at hm; rw [hc] at hm; cases hm
  | some cd =>
    unfold ks_superIn at hm
    rw [hc] at hm
    refine getMethod_superB (N _ hso).1 (looks_opaque X ho) (l₀ := cd.mro) ?_ rfl X hm I (looks_mroIn X hsub) (ks_ne X I hc) hn ?_
    · exact fun A Q E s k q => wpAny_bind ((looks_clsIn X hc) A _ E s k (wpAny_pure q))
    · obtain ⟨F', N', l'⟩ := ks_newsPush (s := ⟨hh, g, d, t, os⟩) (o := mwObj (.builtin "ValueError.__init__") (.ref x)) F N rfl (Heap.get?_push_at rfl rfl) (fun b o e => Heap.get?_push_of_some _ e)
      exact h _ _ F' N' l'

theorem bexc_init {rest : List Value} {Q : Fin → Shared → Prop} {tu : Addr} {dct : Option Addr} (he : s.heap.get? x = some ⟨.ref C, dct, .fields #[.ref tu, .none, .none, .none, .bool false, .none], #[]⟩) (hr : rest.length ≤ 1000)
    (h : ∀ h', h'.get? x = some ⟨.ref C, dct, .fields #[.ref s.heap.objs.size, .none, .none, .none, .bool false, .none], #[]⟩ → h'.get? s.heap.objs.size = some (tupOf rest) →
      (∀ b o, b ≠ x → s.heap.get? b = some o → h'.get? b = some o) → Q (.done (.ret .none)) { s with heap := h' }) :
    wpAny (model prog w) A (Builtin.«BaseException.__init__» ⟨.ref x :: rest, []⟩) Q E s := by
  unfold Builtin.«BaseException.__init__»
  dsimp only
  rw [if_neg (by simp)]
  unfold newTuple Builtin.BaseException.bexcPut
  have he₁ := Heap.get?_push_of_some (h := s.heap) (tupOf rest) he
  refine wpAny_bind (wpAny_newObj_type (wpAny_bind (wpAny_bind (wpAny_field (i := 0) he₁ rfl rfl (wpAny_bind (wpAny_setField (i := 0) he₁ rfl (by show 0 < 6; decide) ?_))))) (by show rest.toArray.size ≤ sizeLine; rw [List.size_toArray, sizeLine_eq]; omega))
  refine wpAny_letGo (wpAny_pure (h _ ?_ ?_ ?_))
  · rw [Heap.get?_update_self _ he₁ rfl]; rfl
  · rw [Heap.get?_update_other _ _ (Nat.ne_of_lt (Heap.lt_size he))]
    exact Heap.get?_push_size _ rfl
  · intro b o hb e
    rw [Heap.get?_update_other _ _ (Ne.symm hb)]
    exact Heap.get?_push_of_some _ e

theorem vi_bound {rest : List Value} {Q : Unit → Shared → Prop} {oc : Value} {od odx : Option Addr} {cd : ClassData} {sl slx : Array (Option Value)} {dt : Data} {h : Heap} {g : Array GenState} {d : Drawn} {t : Nat} {os : OsState}
    (he : h.get? x = some ⟨.ref C, odx, dt, slx⟩) (hC : h.get? C = some ⟨oc, od, .cls cd, sl⟩) (hq : Q () ⟨h, g, d, t, os⟩) :
    wpAny (model prog w) A (checkBoundCall "ValueError.__init__" ⟨.ref x :: rest, []⟩) Q E ⟨h, g, d, t, os⟩ := by
  have F := PySem.F.excBase_ValueError
  have hshort := F.noStar
  simp only [checkBoundCall, F.initKind, F.initRow]
  repeat lk
  rw [if_neg (by rw [Bool.and_eq_true]; rintro ⟨_, hh⟩; exact absurd hh (by decide))]
  repeat lk
  exact hq

theorem call_mw {rest : List Value} {Q : Value → Shared → Prop} {tu : Addr} {dct : Option Addr} {cd : ClassData} (X : K.In s.heap) (hc : clsIn K C = some cd) (hq : s.heap.get? q = some (mwObj (.builtin "ValueError.__init__") (.ref x)))
    (he : s.heap.get? x = some ⟨.ref C, dct, .fields #[.ref tu, .none, .none, .none, .bool false, .none], #[]⟩) (hr : rest.length ≤ 1000)
    (h : ∀ h', h'.get? x = some ⟨.ref C, dct, .fields #[.ref s.heap.objs.size, .none, .none, .none, .bool false, .none], #[]⟩ → h'.get? s.heap.objs.size = some (tupOf rest) →
      (∀ b o, b ≠ x → s.heap.get? b = some o → h'.get? b = some o) → Q .none { s with heap := h' }) :
    wpAny (model prog w) A (call (.ref q) rest) Q E s := by
  obtain ⟨oc, od, sl, hC⟩ : ∃ oc od sl, s.heap.get? C = some ⟨oc, od, .cls cd, sl⟩ := by
    unfold clsIn at hc
    split at hc
    · rename_i c d cd' sl ho
      cases hc
      exact ⟨_, _, _, X _ _ ho⟩
    · cases hc
  refine wpAny_call (codeAny_of_tree ?_)
  show wpAny _ A.in1 (callAny (.ref q) ⟨rest, []⟩) _ _ _
  unfold callAny
  refine wpAny_bind (wpAny_load hq ?_)
  show wpAny _ _ (checkBoundCall "ValueError.__init__" ⟨.ref x :: rest, []⟩ >>= fun _ => again (.builtin "ValueError.__init__" ⟨.ref x :: rest, []⟩)) _ _ _
  obtain ⟨hh, g, d, t, os⟩ := s
  refine wpAny_bind (vi_bound he hC (wpAny_pure ⟨Code.quiet_builtin _ (by decide +kernel), codeAny_builtin PySem.F.excBase_ValueError.initEntry ?_⟩))
  exact bexc_init (s := ⟨hh, g, d, t, os⟩) he hr h
end
end Mine
end

section
open PySem PySem.W PySem.Calls PyProof.Rows Builtin Builtin.ObjectAttr
namespace Mine
section
variable {prog : Program} {w : World} {A : Around} {E : Value → Shared → Prop} {s : Shared} {h₀ : Heap} {L : Addr} {m : Str → Option Value} {news news' : List (Addr × Obj)} {K : Frag} {x C D so q tu dx : Addr} {o o' ox : Obj} {odx : Option Obj}

theorem upd_ground {h h' : Heap} (F : Fr h₀ L h m) (N : News h₀ L h news) (U : Upd x o o' news news') (gx : h'.get? x = some o') (k : ∀ b o, b ≠ x → h.get? b = some o → h'.get? b = some o) :
    Fr h₀ L h' m ∧ News h₀ L h' news' := by
  obtain ⟨pre, post, rfl, rfl, a, b⟩ := U.split
  have hx := N (x, o) (by simp)
  obtain ⟨oL, es, ep, hL, r⟩ := F.ns
  refine ⟨⟨⟨oL, es, ep, k _ _ (Ne.symm hx.2.1) hL, r⟩, fun b o e => k b o ?_ (F.keep b o e), F.above⟩, fun p hp => ?_⟩
  · rintro rfl
    rw [hx.2.2] at e
    cases e
  · rcases List.mem_append.mp hp with hp | hp
    · have z := N p (List.mem_append.mpr (.inl hp))
      exact ⟨k _ _ (a p hp) z.1, z.2⟩
    · rcases List.mem_cons.mp hp with rfl | hp
      · exact ⟨gx, hx.2⟩
      · have z := N p (List.mem_append.mpr (.inr (.tail _ hp)))
        exact ⟨k _ _ (b p hp) z.1, z.2⟩

theorem more_ground {h h' : Heap} (F : Fr h₀ L h m) (N : News h₀ L h news) (F' : Fr h₀ L h' m) (N' : News h₀ L h' news') (hq : q = h.objs.size) (ho : h'.get? q = some o) :
    News h₀ L h' ((q, o) :: news') ∧ ∀ p ∈ news, p.1 < q := by
  subst hq
  obtain ⟨oL, es, ep, hL, r⟩ := F.ns
  refine ⟨fun p hp => ?_, fun p hp => Heap.lt_size (N p hp).1⟩
  rcases List.mem_cons.mp hp with rfl | hp
  · refine ⟨ho, fun q => ?_, ?_⟩
    · exact absurd (Heap.lt_size hL) (by rw [← q]; exact Nat.lt_irrefl _)
    · cases z : h₀.get? h.objs.size with
      | none => rfl
      | some o => exact absurd (Heap.lt_size (F.keep _ _ z)) (Nat.lt_irrefl _)
  · exact N' p hp

theorem call_excK {Q : Value → Shared → Prop} {pos : List Value} {kw : List (Str × Value)} {fI : Addr} (F : Fr h₀ L s.heap m) (X₀ : K.In h₀) (N : News h₀ L s.heap news) (hm : ∀ h, K.In h → MakesX (model prog w) h C)
    (hi : findIn K (.ref C) "__init__" = some (some (.ref fI))) (hf : isFn K (.ref fI) = true) (hp : pos.length ≤ 1000)
    (h : ∀ x tu h', Fr h₀ L h' m → News h₀ L h' ((x, excOf0 C tu) :: (tu, tupOf pos) :: news) → (∀ p ∈ news, p.1 < tu) → tu < x →
      codeAny (model prog w) (A.under (.builtin "type.__call__" ⟨.ref C :: pos, kw⟩)) (.call (.ref fI) ⟨.ref x :: pos, kw⟩) (InitBack x fun r s' => match r with | .ok (.ret v) => Q v s' | .ok _ => False | .error e => E e s') { s with heap := h' }) :
    wpAny (model prog w) A (call (.ref C) pos kw) Q E s := by
  have X : K.In s.heap := X₀.keeps F.keep
  obtain ⟨hh, g, d, t, os⟩ := s
  refine wpAny_call (make_X (hm _ X) (looks_findIn X hi) (fun self => bind_fn X self (beq_iff_eq.mp hf)) (by rw [sizeLine_eq]; omega) (h _ hh.objs.size _ ((F.push _).push _) ?_ (fun p hp => Heap.lt_size (N p hp).1) (Nat.lt_succ_self _)))
  have := (N.push F (tupOf pos)).push (F.push _) (excOf0 C hh.objs.size)
  rwa [Heap.size_push] at this

theorem set_exc0K {name : Str} {v : Value} {cd : ClassData} {Q : Unit → Shared → Prop} (F : Fr h₀ L s.heap m) (X₀ : K.In h₀) (N : News h₀ L s.heap news) (I : InstAt s.heap x (excOf0 C tu) C none)
    (hs : findIn K (.ref C) "__setattr__" = some (some (.builtin "object.__setattr__"))) (hc : clsIn K C = some cd) (ho : overVal cd.mro = true) (ht : takerIn K C name = some none) (hh : cd.hasDict = true)
    (U : Upd x (excOf0 C tu) (excOf C s.heap.objs.size tu) news news')
    (h : ∀ h', Fr h₀ L h' m → News h₀ L h' ((s.heap.objs.size, dictOf [⟨PyData.keyHash w.params name, .str name (s.toks + 1), v⟩] 1) :: news') → (∀ p ∈ news, p.1 < s.heap.objs.size) → Q () { s with heap := h', toks := s.toks + 2 }) :
    wpAny (model prog w) A (setAttr (.ref x) name v) Q E s := by
  refine set_exc0 (X₀.keeps F.keep) I hs hc ho ht hh rfl fun h' g1 g2 k => ?_
  obtain ⟨F', N'⟩ := upd_ground F N U g1 k
  obtain ⟨N2, l⟩ := more_ground F N F' N' rfl g2
  exact h h' F' N2 l

theorem set_exc1K {name : Str} {v : Value} {cd : ClassData} {Q : Unit → Shared → Prop} {es es' : List DictEntry} {n n' : Nat} (F : Fr h₀ L s.heap m) (X₀ : K.In h₀) (N : News h₀ L s.heap news) (I : InstAt s.heap x (excOf C dx tu) C (some (dictOf es n)))
    (hs : findIn K (.ref C) "__setattr__" = some (some (.builtin "object.__setattr__"))) (hc : clsIn K C = some cd) (ho : overVal cd.mro = true) (ht : takerIn K C name = some none) (hh : cd.hasDict = true)
    (hl : (getL name es).isSome = true) (e : (putL name (PyData.keyHash w.params name) (.str name (s.toks + 1)) v es, putN name es n) = (es', n')) (U : Upd dx (dictOf es n) (dictOf es' n') news news') (hz : es'.length ≤ 1000)
    (h : ∀ h', Fr h₀ L h' m → News h₀ L h' news' → Q () { s with heap := h', toks := s.toks + 2 }) :
    wpAny (model prog w) A (setAttr (.ref x) name v) Q E s := by
  refine set_exc1 (X₀.keeps F.keep) I rfl hs hc ho ht hh hl e hz fun h' g1 k => ?_
  obtain ⟨F', N'⟩ := upd_ground F N U g1 (fun b o hb e => (k.2 b hb).trans e)
  exact h h' F' N'

theorem call_mwK {rest : List Value} {Q : Value → Shared → Prop} {cd : ClassData} (F : Fr h₀ L s.heap m) (X₀ : K.In h₀) (N : News h₀ L s.heap news) (hc : clsIn K C = some cd) (hq : (q, mwObj (.builtin "ValueError.__init__") (.ref x)) ∈ news)
    (U : Upd x (excOf0 C tu) (excOf0 C s.heap.objs.size) news news') (hr : rest.length ≤ 1000)
    (h : ∀ h', Fr h₀ L h' m → News h₀ L h' ((s.heap.objs.size, tupOf rest) :: news') → (∀ p ∈ news, p.1 < s.heap.objs.size) → Q .none { s with heap := h' }) :
    wpAny (model prog w) A (call (.ref q) rest) Q E s := by
  have hx : s.heap.get? x = some (excOf0 C tu) := by
    obtain ⟨pre, post, rfl, rfl, a, b⟩ := U.split
    exact (N (x, excOf0 C tu) (by simp)).1
  refine call_mw (X₀.keeps F.keep) hc (N _ hq).1 hx hr fun h' g1 g2 k => ?_
  obtain ⟨F', N'⟩ := upd_ground F N U g1 k
  obtain ⟨N2, l⟩ := more_ground F N F' N' rfl g2
  exact h h' F' N2 l

theorem inst_exc {h : Heap} {od : Obj} (N : News h₀ L h news) (h1 : (x, excOf C dx tu) ∈ news) (h2 : (dx, od) ∈ news) : InstAt h x (excOf C dx tu) C (some od) := ⟨(N _ h1).1, rfl, rfl, (N _ h2).1⟩
theorem inst_exc0 {h : Heap} (N : News h₀ L h news) (h1 : (x, excOf0 C tu) ∈ news) : InstAt h x (excOf0 C tu) C none := ⟨(N _ h1).1, rfl, rfl, trivial⟩

theorem get_excK {expr : Bool} {Q : Value → Shared → Prop} {v : Value} {attr : Option Value} {es : List DictEntry} {n : Nat} (F : Fr h₀ L s.heap m) (X₀ : K.In h₀) (I : InstAt s.heap x ox C (some (dictOf es n)))
    (hga : findIn K (.ref C) "__getattribute__" = some (some (.builtin "BaseException.__getattribute__")))
    (hgn : findIn K (.ref C) "__getattr__" = some none) (sub : mroIn K C (.type "BaseException") = some true) (hh : hasDictIn K C = true) (ha : findIn K (.ref C) name = some attr) (hn : noGet K attr = true)
    (hl : getL name es = some (some v)) (hv : handedIn v = true) (h : Q v { s with toks := s.toks + 1 }) :
    wpAny (model prog w) A (getAttr (.ref x) name expr) Q E s :=
  get_excV (X₀.keeps F.keep) I hga hgn sub (findObj_own hh ha hn hl) hv h
end
end Mine
end

section
open PySem PySem.W PySem.Calls PyProof.Rows Builtin Builtin.ObjectAttr
namespace Mine
section
variable {prog : Program} {w : World} {A : Around} {E : Value → Shared → Prop} {h : Heap} {g : Array GenState} {d : Drawn} {t : Nat} {os : OsState} {D dd : Addr}
theorem dict_isInst : isSubtype (.type "dict") (.type "dict") = pure true := by rw [isSubtype_type]; kernel_rfl
theorem dict_iterLook : typeLookup (.type "dict") "__iter__" = pure (some (.builtin "dict.__iter__")) := by rw [typeLookup_type, builtinLookup_eq_fast]; kernel_rfl
theorem merge0 {Q : Unit → Shared → Prop} {n n' : Nat} (hD : h.get? D = some (dictOf [] n)) (hdd : h.get? dd = some (dictOf [] n')) (hm : (D == sysModules) = false) (hq : Q () ⟨h, g, d, t, os⟩) :
    wpAny (model prog w) A (mergeMapping dd (.ref D) true) Q E ⟨h, g, d, t, os⟩ := by
  have s1 : Looks (model prog w) h (isSubtype (.type "dict") (.type "dict")) true := Looks.of_pure dict_isInst
  have s2 : Looks (model prog w) h (typeLookup (.type "dict") "__iter__") (some (.builtin "dict.__iter__")) := Looks.of_pure dict_iterLook
  unfold mergeMapping isInstance specialOf
  repeat (first | lk | (rw [hm]; simp only [Bool.false_eq_true, if_false]))
  exact hq
end

section
variable {prog : Program} {w : World} {A : Around} {E : Value → Shared → Prop} {s : Shared} {h₀ : Heap} {L : Addr} {m : Str → Option Value} {news news' : List (Addr × Obj)} {K : Frag} {C D : Addr}

theorem keeps_ground {h h' : Heap} (F : Fr h₀ L h m) (N : News h₀ L h news) (k : ∀ b o, h.get? b = some o → h'.get? b = some o) : Fr h₀ L h' m ∧ News h₀ L h' news := by
  obtain ⟨oL, es, ep, hL, r⟩ := F.ns
  exact ⟨⟨⟨oL, es, ep, k _ _ hL, r⟩, fun b o e => k b o (F.keep b o e), F.above⟩, fun p hp => ⟨k _ _ (N p hp).1, (N p hp).2⟩⟩

theorem list_iterLook : typeLookup (.type "list") "__iter__" = pure (some (.builtin "list.__iter__")) := by rw [typeLookup_type, builtinLookup_eq_fast]; kernel_rfl
theorem tuple_iterLook : typeLookup (.type "tuple") "__iter__" = pure (some (.builtin "tuple.__iter__")) := by rw [typeLookup_type, builtinLookup_eq_fast]; kernel_rfl
theorem evalArgs_star0 {f : Value} {x y : Sem Value} {T : String} {vs : List Value} {n nn : Nat} {Q : Args → Shared → Prop} (hT : T = "list" ∨ T = "tuple")
    (F : Fr h₀ L s.heap m) (N : News h₀ L s.heap news) (hC : (C, (⟨.type T, none, .seq vs.toArray n, #[]⟩ : Obj)) ∈ news) (hD : (D, dictOf [] nn) ∈ news) (hm : (D == sysModules) = false) (hlen : vs.length ≤ 1000)
    (hx : wpAny (model prog w) A x (fun v s₁ => v = .ref C ∧ s₁ = s) E s)
    (hy : ∀ h', Fr h₀ L h' m → ∀ tk, wpAny (model prog w) A y (fun v s₁ => v = .ref D ∧ s₁ = { s with heap := h', toks := tk }) E { s with heap := h', toks := tk })
    (h : ∀ h', Fr h₀ L h' m → News h₀ L h' news → Q ⟨vs, []⟩ { s with heap := h' }) :
    wpAny (model prog w) A (evalArgs f true [(true, x)] [(none, y)]) Q E s := by
  unfold evalArgs
  refine wpAny_bind (wpAny_mono hx (fun v s₁ hv => ?_) fun _ _ z => z)
  obtain ⟨rfl, hs₁⟩ := hv
  subst hs₁
  refine wpAny_bind (wpAny_pure ?_)
  dsimp only
  refine wpAny_holding ?_
  rw [if_neg (by simp)]
  refine wpAny_bind ?_
  unfold mergedKeywords
  refine wpAny_bind (wpAny_alloc (wpAny_bind (wpAny_holding ?_)))
  obtain ⟨F1, N1⟩ := keeps_ground (h' := s₁.heap.push { cls := .type "dict", data := .dict #[] }) F N fun b o e => Heap.get?_push_of_some _ e
  have hdd : (s₁.heap.push { cls := .type "dict", data := .dict #[] }).get? s₁.heap.objs.size = some (dictOf [] 0) := Heap.get?_push_size _ rfl
  repeat lk
  refine wpAny_mono (hy _ F1 s₁.toks) (fun v s₂ hv => ?_) fun _ _ z => z
  obtain ⟨rfl, rfl⟩ := hv
  have hD1 : (s₁.heap.push { cls := .type "dict", data := .dict #[] }).get? D = some (dictOf [] nn) := (N1 _ hD).1
  refine wpAny_bind (wpAny_onRaise (wpAny_holding (wpAny_tryCatch (wpAny_onRaise (merge0 hD1 hdd hm ?_)))))
  have hC1 : (s₁.heap.push { cls := .type "dict", data := .dict #[] }).get? C = some ⟨.type T, none, .seq vs.toArray n, #[]⟩ := (N1 _ hC).1
  obtain ⟨it, hit⟩ : ∃ it, typeLookup (.type T) "__iter__" = pure (some it) := by
    rcases hT with rfl | rfl
    · exact ⟨_, list_iterLook⟩
    · exact ⟨_, tuple_iterLook⟩
  have s2 : Looks (model prog w) (s₁.heap.push { cls := .type "dict", data := .dict #[] }) (typeLookup (.type T) "__iter__") (some it) := Looks.of_pure hit
  have hsz : vs.toArray.size ≤ sizeLine := by rw [List.size_toArray, sizeLine_eq]; omega
  repeat (first | (with_reducible refine wpAny_collect_seq C (o := ⟨.type T, none, .seq vs.toArray n, #[]⟩) hT hC1 rfl rfl (fun h' k => ?_) hsz) | lk)
  have hdd' := k _ _ hdd
  repeat lk
  obtain ⟨F2, N2⟩ := keeps_ground F1 N1 k
  exact h h' F2 N2
end
end Mine
end

section
open PySem PySem.W PySem.Calls PyProof.Rows Builtin Builtin.ObjectAttr
namespace Mine
section
variable {prog : Program} {w : World} {A : Around} {E : Value → Shared → Prop} {s : Shared} {h₀ : Heap} {L : Addr} {m : Str → Option Value} {news news' : List (Addr × Obj)} {K : Frag} {C D q gf : Addr} {self : Value}

theorem callWith_star0 {pos : Pos} {x y : Sem Value} {T : String} {vs : List Value} {n nn : Nat} {Q : Value → Shared → Prop} (hT : T = "list" ∨ T = "tuple")
    (F : Fr h₀ L s.heap m) (X₀ : K.In h₀) (N : News h₀ L s.heap news) (hq : (q, methodObj (.ref gf) self) ∈ news) (hf : fnIn K gf = true)
    (hC : (C, (⟨.type T, none, .seq vs.toArray n, #[]⟩ : Obj)) ∈ news) (hD : (D, dictOf [] nn) ∈ news) (hm : (D == sysModules) = false) (hlen : vs.length ≤ 1000)
    (hx : wpAny (model prog w) A x (fun v s₁ => v = .ref C ∧ s₁ = s) E s)
    (hy : ∀ h', Fr h₀ L h' m → ∀ tk, wpAny (model prog w) A y (fun v s₁ => v = .ref D ∧ s₁ = { s with heap := h', toks := tk }) E { s with heap := h', toks := tk })
    (h : ∀ h', Fr h₀ L h' m → News h₀ L h' news → wpAny (model prog w) A (call (.ref q) vs) Q E { s with heap := h' }) :
    wpAny (model prog w) A (callWith pos (.ref q) [] [(true, x)] [(none, y)]) Q E s := by
  unfold callWith
  refine wpAny_bind (wpAny_holding (evalArgs_star0 hT F N hC hD hm hlen hx hy fun h' F' N' => ?_))
  refine wpAny_bind (wpAny_standAt ?_)
  have X' : K.In h' := X₀.keeps F'.keep
  obtain ⟨k, hk, hl⟩ := keeps_M (M := model prog w) hf h' ⟨(N' _ hq).1, X'⟩
  dsimp only
  refine wpAny_bind (hl _ _ _ _ (fun _ _ e => e) ?_)
  have tail : ∀ {t : Sem Value}, wpAny (model prog w) A t Q E { s with heap := h' } → wpAny (model prog w) A (t >>= fun r => holding [r] point >>= fun _ => pure r) Q E { s with heap := h' } :=
    fun ht => wpAny_bind (wpAny_mono ht (fun r s₂ hr => wpAny_bind (wpAny_holding (wpAny_point (wpAny_pure hr)))) fun _ _ x => x)
  have fin := h h' F' N'
  rcases hk with rfl | rfl | rfl
  · exact tail (by unfold callMarked; exact Calls.wpAny_keep fin)
  · exact tail (wpAny_operate' fin)
  · exact tail (wpAny_operate' fin)
end

section
variable {prog : Program} {w : World} {M : Model} {A : Around} {c : Code} {E : Value → Shared → Prop} {s : Shared} {env : Env}
theorem wpAt_MethodCallStar {o : Expr} {name : Str} {apos pos : Pos} {args : List Expr} {kws : List Keyword} {Q : Value → Shared → Prop}
    (h : PySem.wpAt M A c (attributeBase o name env (eval o env)) (fun ov s₁ => wpAny M A (getAttr ov name true) (fun f s₂ => wpAny M A (callWith pos f [] (backTo pos (starEach args env)) (backToKw pos (keywordEach kws env))) Q E s₂) E s₁) E s)
    (hform : methodCallForm (args.length + kws.length) (backTo pos (starEach args env)) (backToKw pos (keywordEach kws env)) = false := by rfl) :
    PySem.wpAt M A c (eval (.Call (.Attribute o name apos) args kws pos) env) Q E s := by
  rw [arm_eval_Call]
  refine PySem.wpAt_bind (PySem.wpAt_mono h (fun ov s₁ h₁ => PySem.wpAt_of_wpAny (wpAny_bind (wpAny_standAt ?_))) fun _ _ x => x)
  unfold methodCall
  rw [hform]
  refine wpAny_bind (wpAny_holding ?_)
  show wpAny M A (getAttr ov name true >>= fun f => pure (f, [])) _ _ _
  refine wpAny_bind (wpAny_mono h₁ (fun f s₂ h₂ => wpAny_pure ?_) fun _ _ x => x)
  dsimp only
  refine wpAny_bind (m := methodCallPos false o env apos pos) (wpAny_pure ?_)
  exact h₂
end

section
variable {prog : Program} {w : World} {A₀ A : Around} {s : Shared} {base h₀ : Heap} {outer : List Env} {L : Addr} {m mg mb : Str → Option Value} {env : Env} {news : List (Addr × Obj)} {K : Frag} {p : Program} {loose : List Str} {mean : ExcName → Option Value}
  {R : Result → Shared → Prop} {name qual : Str} {params : Arguments} {body : List Stmt} {scope : Scope} {dV kV doc pm cdv ct oc : Value} {an od : Option Addr} {osl : Array (Option Value)} {f cc : Addr} {args : Args} {binds : List (Str × Value)}

theorem frameAt {E : Value → Shared → Prop} (B : Below A₀ base outer h₀) (F : Fr h₀ L s.heap m) (N : News h₀ L s.heap news) (hlim : h₀.NoLimit) (hA : A.frames = some (env :: outer)) (hf : env.frame = some L) (hke : env.scope.kind = .function)
    (hloc : ∀ y ∈ binds, scope.names.lookup y.1 = some .local)
    (h : ∀ g L' h₁, Fr h₀ L g m → Fr g L' h₁ (fun y => binds.reverse.lookup y) → News g L' h₁ news → Below A base (env :: outer) g → h₀.StaysIn g → (∀ p ∈ news, p.1 < L') →
      PySem.wpAt (model prog w) (A.deeper (ksEnv qual scope L' f cdv cc)) (.func body (ksEnv qual scope L' f cdv cc)) (execs body (ksEnv qual scope L' f cdv cc))
        (fun fl s' => LeaveK h₀ L m g R (match fl with | .ret v => v | _ => .none) s')
        (fun e s' => wpAny (model prog w) (A.deeper (ksEnv qual scope L' f cdv cc)) (leaving (ksEnv qual scope L' f cdv cc) e) (fun _ s'' => R (.error e) s'') (fun e' s'' => R (.error e') s'') s')
        { s with heap := h₁, toks := s.toks + binds.length })
    (hcell : ∀ x ∈ scope.names, x.2 ≠ .cell) (hk : scope.kind = .function) :
    wpAny (model prog w) A.in1 (newFunctionEnv scope mainGlobals [("__class__", cc)] binds (qual ++ ".<locals>.") (some f) cdv none builtinsNs) (fun env' s₂ => s₂.heap.NoLimit ∧ codeAny (model prog w) A (.func body env') R s₂) E s := by
  obtain ⟨FG, BG, st, lv⟩ := groundX (R := R) B F N hA hf hke
  refine wpAny_newFunctionEnv hcell hloc (fun h₁ hns hsb => ⟨(hlim.keeps F.keep).fresh _ hsb, ks_codeAny_funcAt ?_⟩) hk
  have hk₁ : ∀ b o, s.heap.get? b = some o → h₁.get? b = some o := fun b o e => hsb.extBut b o (Nat.ne_of_lt (Heap.lt_size e)) (Heap.get?_push_of_some _ e)
  exact ks_wpAt_mono (h _ s.heap.objs.size h₁ FG ⟨hns, fun b o e => hk₁ b o (of_hideAll _ e), Nat.le_of_eq (hideAll_size _ _)⟩
    (fun p hp => ⟨hk₁ _ _ (N p hp).1, Nat.ne_of_lt (Heap.lt_size (N p hp).1), hideAll_none _ (List.mem_map_of_mem hp)⟩) BG st (fun p hp => Heap.lt_size (N p hp).1)) (fun fl s' hl => lv _ _ hl) fun _ _ y => y

theorem code_both0 {vs : List Value} {nm nr : Str} {front : List (Str × Value)} {g₁ : Addr → Sem (List (Str × Value))} {g₂ : Addr → Addr → Sem (List (Str × Value))}
    (B : Below A₀ base outer h₀) (F : Fr h₀ L s.heap m) (X₀ : K.In h₀) (N : News h₀ L s.heap news) (T : Top p loose mean mg mb h₀) (hA : A.frames = some (env :: outer)) (hf : env.frame = some L) (hke : env.scope.kind = .function)
    (ho : K.lookup f = some ⟨oc, od, .func (ksFn name qual params body scope dV kV doc pm an cdv ct cc), osl⟩) (hcd : codeIn K cdv qual = true) (hroom : A.depth < recursionLimit)
    (_hv : args.pos.drop (params.posonlyargs.length + params.args.length) = vs) (_hnr : params.vararg.map (·.arg) = some nr) (_hnm : params.kwarg.map (·.arg) = some nm)
    (_hfr : peek K ⟨prog, w.params⟩ (bindArgs (fnCut (ksFn name qual params body scope dV kV doc pm an cdv ct cc)) (argsCut params args)) = some front)
    (hp : peekA K ⟨prog, w.params⟩ (bindArgs (ksFn name qual params body scope dV kV doc pm an cdv ct cc) args) = some (tupOf vs, g₁))
    (hp₂ : ∀ D, peekA K ⟨prog, w.params⟩ (g₁ D) = some (dictOf [] 0, g₂ D))
    (hk₂ : ∀ C D, g₂ C D = pure (front ++ [(nr, Value.ref C)] ++ [(nm, Value.ref D)]))
    (hloc : ∀ C D, ∀ y ∈ front ++ [(nr, Value.ref C)] ++ [(nm, Value.ref D)], scope.names.lookup y.1 = some .local)
    (h : ∀ C D g L' h₁ tk, (∀ p ∈ news, p.1 < C) → C < D → (D == sysModules) = false → Fr h₀ L g m → Fr g L' h₁ (fun y => (front ++ [(nr, Value.ref C)] ++ [(nm, Value.ref D)]).reverse.lookup y) →
      News g L' h₁ ((D, dictOf [] 0) :: (C, tupOf vs) :: news) → Below A base (env :: outer) g → K.In g → Top p loose mean mg mb g → D < L' →
      PySem.wpAt (model prog w) (A.deeper (ksEnv qual scope L' f cdv cc)) (.func body (ksEnv qual scope L' f cdv cc)) (execs body (ksEnv qual scope L' f cdv cc))
        (fun fl s' => LeaveK h₀ L m g R (match fl with | .ret v => v | _ => .none) s')
        (fun e s' => wpAny (model prog w) (A.deeper (ksEnv qual scope L' f cdv cc)) (leaving (ksEnv qual scope L' f cdv cc) e) (fun _ s'' => R (.error e) s'') (fun e' s'' => R (.error e') s'') s')
        { s with heap := h₁, toks := tk })
    (hco : scope.isCoroutine = false) (hgen : scope.isGenerator = false) (hk : scope.kind = .function)
    (hcell : ∀ x ∈ scope.names, x.2 ≠ .cell) : codeAny (model prog w) A (.call (.ref f) args) R s := by
  refine codeAny_call_function (fd := ksFn name qual params body scope dV kV doc pm an cdv ct cc) (body := body) hroom ((X₀.keeps F.keep) _ _ ho) rfl hco hgen rfl (codeRec_of (X₀.keeps F.keep) hcd) ?_
  refine wp_of_peekA (o := tupOf vs) F N (X₀.keeps F.keep) rfl _ g₁ hp fun h' F' N' l => ?_
  refine wp_of_peekA (s := { s with heap := h' }) (o := dictOf [] 0) F' N' (X₀.keeps F'.keep) rfl _ (g₂ s.heap.objs.size) (hp₂ _) fun h'' F'' N'' l' => ?_
  rw [hk₂]
  refine wpAny_pure ?_
  exact frameAt (s := { s with heap := h'' }) B F'' N'' T.nolimit hA hf hke (hloc _ _)
    (fun g L' h₁ FG FL NG BG st ll => h _ _ g L' h₁ _ l (l' _ (.head _)) (F'.notModules (modules_low T.nolimit)) FG FL NG BG (X₀.keeps st) (T.keeps st) (ll _ (.head _))) hcell hk
end

section
variable {prog : Program} {w : World} {A : Around} {E : Value → Shared → Prop} {h : Heap} {g : Array GenState} {d : Drawn} {t : Nat} {os : OsState}
theorem getAttr_super {so D x C f : Addr} {of : Obj} {l₀ l : List Value} {K : Frag} {name : Str} {expr : Bool} {Q : Value → Shared → Prop}
    (hso : h.get? so = some { cls := .type "super", dict := none, data := .fields #[.ref D, .ref x, .ref C], slots := #[] }) (hno : Looks (model prog w) h (opaqueClassAbove (.ref C)) none)
    (hC : Looks (model prog w) h (mroOf (.ref C)) l₀) (hl : (l₀.dropWhile (· != .ref D)).drop 1 = l) (X : K.In h)
    (hf : alongIn K name l = some (some (.ref f))) (hfo : h.get? f = some of) (hfc : of.cls = .type "function") (hxC : x ≠ C) (hn : (name == ("__class__" : Str)) = false)
    (hq : Q (.ref h.objs.size) ⟨h.push { cls := .type "method", data := .fields #[.ref f, .ref x] }, g, d, t + 1, os⟩) :
    wpAny (model prog w) A (getAttr (.ref so) name expr) Q E ⟨h, g, d, t, os⟩ := by
  have hlk := PySem.F.ks_slot_super_ga.lookup
  have hT : ∀ t', (⟨h, g, d, t', os⟩ : Shared).TypeIs (.ref so) "super" := fun _ => ⟨_, hso, rfl⟩
  unfold getAttr getAttrBy
  refine wpAny_bind (wpAny_mkText (wpAny_holding (wpAny_bind (wpAny_typeOf (hT _) (wpAny_bind (wpAny_of_eq hlk ?_))))))
  show wpAny _ _ (getAttrByItsOwn (.ref so) (.str name t) (.type "super") (.builtin "super.__getattribute__") true expr) _ _ _
  unfold getAttrByItsOwn hookBefore
  refine wpAny_bind (wpAny_of_eq (show (if onTheHeap (.type "super") then typeLookup (.type "super") "__getattr__" else pure none) = pure none from rfl) ?_)
  refine wpAny_bind (wpAny_attempt (wpAny_holding ?_))
  have e : callGetattribute (.ref so) (.str name t) (.builtin "super.__getattribute__") expr = boundAndCalled (.builtin "super.__getattribute__") (.ref so) (.str name t) := by
    unfold callGetattribute; cases expr <;> rfl
  rw [e]
  unfold boundAndCalled
  refine wpAny_bind (wpAny_of_eq (PySem.F.ks_slot_super_ga.bind _) ?_)
  refine wpAny_mono (Q := fun v s' => v = .ref h.objs.size ∧ s' = ⟨h.push { cls := .type "method", data := .fields #[.ref f, .ref x] }, g, d, t + 1, os⟩) (E := fun _ _ => False)
    (wpAny_call_entry PySem.F.ks_slot_super_ga (hT _) PySem.F.ks_entry_super_ga (ks_wpAny_super_ga hso hno hC hl X hf hfo hfc hxC hn ⟨_, rfl, rfl, rfl⟩) (PySem.F.ks_gaArgs_super _ _)) (fun v s' hv => ?_) fun _ _ z => z.elim
  obtain ⟨rfl, rfl⟩ := hv
  exact wpAny_pure hq
end
section
variable {prog : Program} {w : World} {A : Around} {E : Value → Shared → Prop} {s : Shared} {h₀ : Heap} {L : Addr} {m : Str → Option Value} {news : List (Addr × Obj)} {K : Frag} {x C D f2 so : Addr} {ox : Obj} {odx : Option Obj}
theorem getAttr_superK {name : Str} {expr : Bool} {Q : Value → Shared → Prop} (F : Fr h₀ L s.heap m) (X₀ : K.In h₀) (N : News h₀ L s.heap news) (hso : (so, ks_superObj D x C) ∈ news) (I : InstAt s.heap x ox C odx) (ho : nsIn K cStatics "thirdparty.any" = some none)
    (hm : ks_superIn K C D name = some (some (.ref f2))) (ht : typeIn K (.ref f2) = some (.type "function")) (hn : (name == ("__class__" : Str)) = false)
    (h : ∀ q h', Fr h₀ L h' m → News h₀ L h' ((q, methodObj (.ref f2) (.ref x)) :: news) → (∀ p ∈ news, p.1 < q) → Q (.ref q) { s with heap := h', toks := s.toks + 1 }) : wpAny (model prog w) A (getAttr (.ref so) name expr) Q E s := by
  have X : K.In s.heap := X₀.keeps F.keep
  obtain ⟨hh, g, d, t, os⟩ := s
  cases hc : clsIn K C with
  | none => unfold ks_superIn at hm; rw [hc] at hm; cases hm
  | some cd =>
    unfold ks_superIn at hm
    rw [hc] at hm
    obtain ⟨of, hof, hofc⟩ : ∃ of, hh.get? f2 = some of ∧ of.cls = .type "function" := by
      have ht' : (K.lookup f2).map (·.cls) = some (.type "function") := ht
      cases z : K.lookup f2 with
      | none => rw [z] at ht'; cases ht'
      | some of => rw [z] at ht'; exact ⟨of, X _ _ z, Option.some.inj ht'⟩
    refine getAttr_super (N _ hso).1 (looks_opaque X ho) (l₀ := cd.mro) ?_ rfl X hm hof hofc (ks_ne X I hc) hn ?_
    · exact fun A Q E s k q => wpAny_bind ((looks_clsIn X hc) A _ E s k (wpAny_pure q))
    · obtain ⟨F', N', l'⟩ := ks_newsPush (s := ⟨hh, g, d, t, os⟩) (o := methodObj (.ref f2) (.ref x)) F N rfl (Heap.get?_push_at rfl rfl) (fun b o e => Heap.get?_push_of_some _ e)
      exact h _ _ F' N' l'
end
end Mine
end

section
open PySem PySem.W PySem.Calls PyProof.Rows Builtin Builtin.ObjectAttr
namespace Mine
section
variable {M : Model} {A : Around} {E : Value → Shared → Prop} {s : Shared} {h₀ : Heap} {L : Addr} {m : Str → Option Value} {news news' : List (Addr × Obj)} {K : Frag} {q : Addr} {f self : Value} {env : Env} {pos : Pos} {first : List Value} {Q : Value → Shared → Prop}
def MwP (q : Addr) (f self : Value) (h : Heap) : Prop := h.get? q = some (mwObj f self)
theorem keeps_mw (h : Heap) (X : MwP q f self h) : ∃ k, (k = Keeper.frame ∨ k = Keeper.machine ∨ k = Keeper.boundFrame) ∧ Looks M h (keeperOf (.ref q)) k := by
  refine ⟨.machine, .inr (.inl rfl), (Looks.ld (part := none) X).andThen ?_⟩
  exact .now
theorem callWith_mw {e : Expr} {rest : List Expr} (_N : News h₀ L s.heap news) (_q : (q, mwObj f self) ∈ news) (h : wpAny M A (spliced (backTo pos (starEach (e :: rest) env))) (fun vs s₁ => MwP q f self s₁.heap ∧ wpAny M A (call (.ref q) (first ++ vs)) Q E s₁) E s)
    (he : starEach (e :: rest) env = (false, eval e env) :: starEach rest env := by rfl) (hplain : (backTo pos (starEach rest env)).any (·.1) = false := by rfl) :
    wpAny M A (callWith pos (.ref q) first (backTo pos (starEach (e :: rest) env)) []) Q E s := by
  rw [he] at h ⊢
  exact callWith_of (by show ((false || (backTo pos (starEach rest env)).any (·.1)) || false) = false; rw [hplain]; rfl) keeps_mw (evalArgs_plain h)
theorem mwP {h : Heap} (N : News h₀ L h news) (hq : (q, mwObj f self) ∈ news) : MwP q f self h := (N _ hq).1
end
end Mine
end

section
open PySem PySem.W PySem.Calls PyProof.Rows Builtin Builtin.Str
namespace Mine
abbrev words : PySem.Str := PySem.Str.ofString "the following ASCII non-printables found in header: "
abbrev wordsF : PySem.Str := PySem.Str.ofString "the following ASCII non-printables found in header: {}"
abbrev wordsL : PySem.Str := PySem.Str.mk #[116, 104, 101, 32, 102, 111, 108, 108, 111, 119, 105, 110, 103, 32, 65, 83, 67, 73, 73, 32, 110, 111, 110, 45, 112, 114, 105, 110, 116, 97, 98, 108, 101, 115, 32, 102, 111, 117, 110, 100, 32, 105, 110, 32, 104, 101, 97, 100, 101, 114, 58, 32]
abbrev wordsFL : PySem.Str := PySem.Str.mk #[116, 104, 101, 32, 102, 111, 108, 108, 111, 119, 105, 110, 103, 32, 65, 83, 67, 73, 73, 32, 110, 111, 110, 45, 112, 114, 105, 110, 116, 97, 98, 108, 101, 115, 32, 102, 111, 117, 110, 100, 32, 105, 110, 32, 104, 101, 97, 100, 101, 114, 58, 32, 123, 125]
theorem words_lit : words = wordsL := by decide +kernel
theorem wordsF_lit : wordsF = wordsFL := by decide +kernel
section
variable {prog : Program} {w : World} {A : Around} {E : Value → Shared → Prop} {s : Shared}
theorem fmt_words {v : Value} {t : Tok} {Q : Value → Shared → Prop}
    (hv : wpAny (model prog w) A.in1 (formatOf v PySem.Str.empty) (fun r s₁ => ∃ T u, r = .str T u ∧ T.length ≤ 100000 ∧ ∀ t' k, Q (.str (words ++ T) t') { s₁ with toks := k }) E s) :
    wpAny (model prog w) A (call (.builtin "str.format") [.str wordsF t, v]) Q E s := by
  rw [wordsF_lit]
  refine wpAny_call_entry PySem.F.slot_str_format_m (typeIs_str s wordsFL t) PySem.F.entry_str_format_m ?_ (KFm.args_2 _ _)
  unfold Builtin.«str.format»
  refine wpAny_bind (wpAny_of_eq (a := (_, _, _)) rfl ?_)
  refine wpAny_bind ?_
  unfold Builtin.Str.buildString
  refine wpAny_bind ?_
  rw [KPc.range_list]
  refine KFm.start ?_
  intro w0 g0
  refine KPc.turn ?_
  kpc_if
  kpc_check
  refine wpAny_bind (KFm.field_auto (by kfm_num) (by rfl) ?_)
  refine wpAny_bind (wpAny_holding (wpAny_of_eq (a := _) rfl ?_))
  kpc_if
  refine wpAny_bind (wpAny_pure ?_)
  refine wpAny_bind (wpAny_holding (wpAny_mono hv (fun r s₁ hr => ?_) fun _ _ z => z))
  obtain ⟨T, u, rfl, hl, hQ⟩ := hr
  refine wpAny_bind (wpAny_of_eq (a := some _) rfl ?_)
  refine wpAny_pure ?_
  refine KFm.after_field (T' := wordsL ++ T) (by kpc_g) (by kpc_text) (by kpc_obj) hl (by kpc_obj) (by first | kfm_cat2 | (rw [KPc.empty_app]; rfl)) (by kfm_rest) ?_
  intro w1 g1
  refine KPc.turn ?_
  kpc_if
  refine wpAny_pure ?_
  refine wpAny_pure ?_
  refine KPc.finish_ok (by kpc_g) (by decide +kernel) (by first | kpc_text | exact rfl) ?_
  intro t' k
  rw [← words_lit]
  exact ⟨_, rfl, hQ _ _⟩
end
end Mine
end

section
open PySem PySem.W PySem.Calls PyProof.Rows Builtin Builtin.Str
namespace Mine
section
variable {prog : Program} {w : World} {A : Around} {E : Value → Shared → Prop} {s : Shared} {h₀ : Heap} {a : Addr} {d : PyData} {as : List Addr}
theorem formatOf_reads {Q : Value → Shared → Prop} (r : Reads h₀ (.ref a) d as) (hs : d.showable = true) (hsm : d.hasDict = true → sysModules ∉ as) (hg : A.guards = some []) (hu : A.units + (d.depth + 2) < cLine) (hk0 : ∀ b o, h₀.get? b = some o → s.heap.get? b = some o)
    (hQ : ∀ h' u tk, (∀ b o, s.heap.get? b = some o → h'.get? b = some o) → Q (.str d.shown u) { s with heap := h', toks := tk })
    (hsz : d.shown.length ≤ sizeLine) : wpAny (model prog w) A (formatOf (.ref a) PySem.Str.empty) Q E s := by
  obtain ⟨T, idr, S⟩ := showsBy_of_reads (prog := prog) (w := w) r hs hsm hsz
  unfold PySem.Builtin.Str.formatOf
  refine wpAny_ite (KPc.ite_no Bool.false_ne_true ?_)
  refine wpAny_bind (wpAny_mkStr ?_ (by decide))
  have hT' : ({ s with toks := s.toks + 1 } : Shared).TypeIs (.ref a) T := S.typeIs { s with toks := s.toks + 1 } hk0
  refine wpAny_bind (m := callSpecial? (.ref a) (PySem.Str.ofString "__format__") [.str PySem.Str.empty s.toks]) (wpAny_callSpecial?_slot (name := PySem.Str.ofString "__format__") hT' S.slotFmt
    (call_object_format_slot (fun _ _ => nofun) (by omega) hT' S.slotFmt S.slotStr S.slotRepr (S.call A.in1.in1 E { s with toks := s.toks + 1 } _ hg (by show A.units + 1 + 1 + d.depth < cLine; omega) hk0 fun h' u tk hk => ?_)))
  refine ⟨_, _, rfl, ?_⟩
  refine wpAny_bind (wpAny_of_eq (a := some d.shown) rfl ?_)
  refine wpAny_ite (KPc.ite_no Bool.false_ne_true ?_)
  exact wpAny_pure (hQ h' u tk hk)
end

theorem readsStrs {h : Heap} {us : List Value} {xs : List PySem.Str} (S : StrsAre us xs) : ReadsAll h us (xs.map PyData.str) [] := by
  induction S with
  | nil => exact .nil
  | cons x t _ ih => exact .cons (.str x t) ih

theorem showable_strs : ∀ xs : List PySem.Str, PyData.showableAll (xs.map PyData.str) = true
  | [] => rfl
  | x :: r => by simp [PyData.showableAll, PyData.showable, showable_strs r]
theorem hasDict_strs : ∀ xs : List PySem.Str, PyData.hasDictAll (xs.map PyData.str) = false
  | [] => rfl
  | x :: r => by simp [PyData.hasDictAll, PyData.hasDict, hasDict_strs r]
theorem depth_strs : ∀ xs : List PySem.Str, PyData.depthAll (xs.map PyData.str) ≤ 1
  | [] => by simp [PyData.depthAll]
  | x :: r => by have := depth_strs r; simp only [List.map_cons, PyData.depthAll, PyData.depth]; omega

section
variable {prog : Program} {w : World} {A : Around} {E : Value → Shared → Prop} {s : Shared} {h₀ : Heap} {L : Addr} {m : Str → Option Value} {news : List (Addr × Obj)} {l : Addr} {us : List Value} {xs : List PySem.Str} {c : Nat} {t : Tok} {Q : Value → Shared → Prop}
theorem fmt_listK (F : Fr h₀ L s.heap m) (N : News h₀ L s.heap news) (hl : (l, listOf us.toArray c) ∈ news) (S : StrsAre us xs) (hg : A.guards = some []) (hu : A.units + 10 < cLine) (hsz : (PyData.list (xs.map PyData.str)).shown.length ≤ 100000)
    (h : ∀ h' t' k, Fr h₀ L h' m → News h₀ L h' news → Q (.str (words ++ (PyData.list (xs.map PyData.str)).shown) t') { s with heap := h', toks := k }) :
    wpAny (model prog w) A (call (.builtin "str.format") [.str wordsF t, .ref l]) Q E s := by
  have r : Reads s.heap (.ref l) (.list (xs.map PyData.str)) (l :: []) := Reads.list (N _ hl).1 rfl rfl (readsStrs S)
  have hd : (PyData.list (xs.map PyData.str)).depth ≤ 3 := by have := depth_strs xs; simp only [PyData.depth]; omega
  refine fmt_words (formatOf_reads r (by simpa [PyData.showable] using showable_strs xs) (fun hh => by simp [PyData.hasDict, hasDict_strs] at hh) hg (by show A.units + 1 + _ < cLine; omega) (fun _ _ e => e) (fun h' u tk hk => ?_) (by rw [sizeLine_eq]; omega))
  obtain ⟨F', N'⟩ := keeps_ground F N hk
  exact ⟨_, _, rfl, hsz, fun t' k => h h' t' k F' N'⟩
theorem fmt_tupK (F : Fr h₀ L s.heap m) (N : News h₀ L s.heap news) (hl : (l, (⟨.type "tuple", none, .seq us.toArray c, #[]⟩ : Obj)) ∈ news) (S : StrsAre us xs) (hg : A.guards = some []) (hu : A.units + 10 < cLine) (hsz : (PyData.tuple (xs.map PyData.str)).shown.length ≤ 100000)
    (h : ∀ h' t' k, Fr h₀ L h' m → News h₀ L h' news → Q (.str (words ++ (PyData.tuple (xs.map PyData.str)).shown) t') { s with heap := h', toks := k }) :
    wpAny (model prog w) A (call (.builtin "str.format") [.str wordsF t, .ref l]) Q E s := by
  obtain ⟨as, r⟩ : ∃ as, Reads s.heap (.ref l) (.tuple (xs.map PyData.str)) as := ⟨_, Reads.tuple (N _ hl).1 rfl rfl (readsStrs S)⟩
  have hd : (PyData.tuple (xs.map PyData.str)).depth ≤ 3 := by have := depth_strs xs; simp only [PyData.depth]; omega
  refine fmt_words (formatOf_reads r (by simpa [PyData.showable] using showable_strs xs) (fun hh => by simp [PyData.hasDict, hasDict_strs] at hh) hg (by show A.units + 1 + _ < cLine; omega) (fun _ _ e => e) (fun h' u tk hk => ?_) (by rw [sizeLine_eq]; omega))
  obtain ⟨F', N'⟩ := keeps_ground F N hk
  exact ⟨_, _, rfl, hsz, fun t' k => h h' t' k F' N'⟩
theorem fmt_strK {x : PySem.Str} {u : Tok} (hsz : x.length ≤ 100000) (h : ∀ t' k, Q (.str (words ++ x) t') { s with toks := k }) :
    wpAny (model prog w) A (call (.builtin "str.format") [.str wordsF t, .str x u]) Q E s :=
  fmt_words (wpAny_of_eq (KFm.formatOf_str _ _) ⟨_, _, rfl, hsz, fun t' k => h t' k⟩)
end
end Mine
end

section
open PySem PySem.W PySem.Calls PyProof.Rows PyProof.V PySem.Spec PySem.SeqAt
namespace Mine
theorem canLay_strs : ∀ xs : List PySem.Str, (∀ x ∈ xs, PyData.strOk x = true) → PyData.canLayAll0 (xs.map PyData.str) = true
  | [], _ => by simp [PyData.canLayAll0]
  | n :: r, h => by
    have h1 := h n (.head _)
    have h2 := canLay_strs r fun x hx => h x (.tail _ hx)
    simp [PyData.canLayAll0, PyData.canLay0, h1, h2]
theorem shaped_strs (xs : List PySem.Str) (ho : ∀ x ∈ xs, PyData.strOk x = true) : shaped (.list (xs.map PyData.str)) = true := by
  have h1 := depth_strs xs
  have h2 : PyData.depth (.list (xs.map PyData.str)) ≤ 64 := by simp only [PyData.depth]; omega
  show (PyData.canLay0 (.list (xs.map PyData.str)) && decide (PyData.depth (.list (xs.map PyData.str)) ≤ 64)) = true
  rw [Bool.and_eq_true]
  exact ⟨by simp only [PyData.canLay0]; exact canLay_strs xs ho, decide_eq_true h2⟩
section
variable {prog : Program} {w : World} {A : Around} {E : Value → Shared → Prop} {s : Shared} {h₀ : Heap} {L : Addr} {m : Str → Option Value} {news : List (Addr × Obj)} {l b : Addr} {us : List Value} {xs : List PySem.Str} {c c' : Nat} {Q : Value → Shared → Prop}
theorem ne_nilK (N : News h₀ L s.heap news) (hl : (l, listOf us.toArray c) ∈ news) (hb : (b, listOf #[] c') ∈ news) (S : StrsAre us xs) (ho : ∀ x ∈ xs, PyData.strOk x = true) (hu : A.units + 64 < cLine)
    (h : Q (.bool (!decide (xs = []))) s) : wpAny (model prog w) A (compareOp .NotEq (.ref l) (.ref b)) Q E s := by
  have r1 : Reads s.heap (.ref l) (.list (xs.map PyData.str)) [l] := Reads.list (N _ hl).1 rfl rfl (readsStrs S)
  have r2 : Reads s.heap (.ref b) (.list []) [b] := Reads.list (N _ hb).1 rfl rfl .nil
  refine ne_dataH_same r1 r2 (shaped_strs xs ho) (shaped_strs [] fun _ hx => nomatch hx) hu ?_ ?_
  · cases xs <;> simp [noMix, noMixAll]
  · cases xs with
    | nil => simpa [PySem.Spec.same, PySem.Spec.sameAll] using h
    | cons x r => simpa [PySem.Spec.same, PySem.Spec.sameAll] using h
theorem tupleK (F : Fr h₀ L s.heap m) (N : News h₀ L s.heap news) (hl : (l, listOf us.toArray c) ∈ news) (hlen : us.length ≤ 1000)
    (h : ∀ q h', Fr h₀ L h' m → News h₀ L h' ((q, (⟨.type "tuple", none, .seq us.toArray 0, #[]⟩ : Obj)) :: news) → (∀ p ∈ news, p.1 < q) → Q (.ref q) { s with heap := h' }) :
    wpAny (model prog w) A (call (.type "tuple") [.ref l]) Q E s := by
  refine call_tuple_list (items := us.toArray) ⟨_, (N _ hl).1, rfl, c, rfl⟩ (fun h' k => ?_) (by rw [List.size_toArray, sizeLine_eq]; omega)
  obtain ⟨F1, N1⟩ := keeps_ground F N k
  refine h _ _ (F1.push _) ?_ fun p hp => Heap.lt_size (N1 p hp).1
  exact N1.push F1 _
end
end Mine
end

section
open PySem PySem.W PySem.Calls PyProof.Rows
namespace Mine
abbrev prg : Program := PySem.Challenge.rw_dm0089_01.row.prog
theorem makes84 (w : World) (h : Heap) (X : (hd.heap_39 w.params).In h) : MakesX (model prg w) h 84 where
  obj := ⟨_, _, _, _, X 84 _ rfl, rfl, rfl⟩
  isT := Looks.of_peek X (by kernel_rfl)
  made := Looks.of_peek X (by kernel_rfl)
  base := Looks.of_peek X (by kernel_rfl)
  self := Looks.of_peek X (by kernel_rfl)
  val := Looks.of_peek X (by kernel_rfl)
  nA := Looks.of_peek X (by kernel_rfl)
  nN := Looks.of_peek X (by kernel_rfl)
  call := Looks.of_peek X (by kernel_rfl)
  typ := Looks.of_peek X (by kernel_rfl)
abbrev sLine : PySem.Str := PySem.Str.ofString "line"
abbrev sNp : PySem.Str := PySem.Str.ofString "non_printables"
abbrev defDict (P : Params) (t1 t2 : Tok) (v np : Value) : List DictEntry := [⟨PyData.keyHash P sLine, .str sLine t1, v⟩, ⟨PyData.keyHash P sNp, .str sNp t2, np⟩]

local macro_rules | `(tactic| k_inst) => `(tactic| first | (refine' inst_exc ?N ?h1 ?h2; (case N => k_asm); (case h1 => k_mem); (case h2 => k_mem)) | (refine' inst_exc0 ?N ?h1; (case N => k_asm); (case h1 => k_mem)))
local macro_rules | `(tactic| walk_at "call ref") => `(tactic| (k_here; k_dflt (refine' call_meth ?k1 ?k2 ?_; (case k1 => k_asm); (case k2 => k_mem); (refine' code_both0 ?k1 ?k2 ?k3 ?k4 ?k5 ?kA ?kF ?kK ?k6 ?k7 ?k8 ?kV ?kQ ?kM ?kR ?kP ?kS ?kT ?kB ?_ ?c2 ?c3 ?c4 ?c5; (case kA => exact rfl); (case kF => exact rfl); (case kK => exact rfl); (case k1 => k_asm); (case k2 => k_asm); (case k3 => k_asm); (case k4 => k_asm); (case k5 => k_asm); (case k6 => k_is); (case k7 => k_is); (case k8 => k_room); (case kV => kp_lit); (case kQ => exact rfl); (case kM => exact rfl); (case kR => exact rfl); (case kP => exact rfl); (case kS => exact fun _ => rfl); (case kT => exact fun _ _ => rfl); (case kB => exact fun _ _ => locs rfl); (case c5 => decide); (case c2 => exact rfl); (case c3 => exact rfl); (case c4 => exact rfl); k_whole; intro C' D' g' L' h' tk' l1 l2 lo' FG' F' N' B' X' T' l3; (try k_lt l1); (try k_lt2 l2); (try k_lt2 l3); (try dsimp only); (try k_lift B')))))
local macro_rules | `(tactic| walk_at "wpAt") => `(tactic| (ks_step "eval Call"; refine' wpAt_MethodCallStar ?_ ?hform; (case hform => first | exact rfl | with_unfolding_all exact rfl)))
local macro_rules | `(tactic| walk_at "getAttr ref") => `(tactic| (k_here; ks_any; k_dflt (refine' getAttr_superK ?k1 ?k2 ?k3 ?k4 ?k5 ?k6 ?k7 ?k8 ?k9 ?_; (case k1 => k_asm); (case k2 => k_asm); (case k3 => k_asm); (case k4 => k_mem); (case k5 => k_inst); (case k6 => k_is); (case k7 => ks_is); (case k8 => k_is); (case k9 => decide); intro q' h' F' N' l1; (try k_lt l1))))
local macro_rules | `(tactic| walk_at "callWith ref") => `(tactic| (k_here; ks_any; k_dflt (refine' callWith_star0 (T := "tuple") (.inr rfl) ?k1 ?k2 ?k3 ?k4 ?k5 ?k6 ?k7 ?k8 ?k9 ?hx ?hy ?_; (case k1 => k_asm); (case k2 => k_asm); (case k3 => k_asm); (case hx => (refine wpAny_bind (wpAny_Name (wpAny_loadName_local rfl rfl (Fr.ns (by k_asm)) rfl (wpAny_bind (wpAny_standAt (wpAny_pure ⟨rfl, rfl⟩)))) (by decide)))); (case hy => (intro hh' FF' tk'; refine wpAny_bind (wpAny_Name (wpAny_loadName_local rfl rfl FF'.ns rfl (wpAny_bind (wpAny_standAt (wpAny_pure ⟨rfl, rfl⟩)))) (by decide)))); (case k4 => k_mem); (case k5 => k_is); (case k6 => k_mem); (case k7 => k_mem); (case k8 => k_asm); (case k9 => exact Nat.le_of_ble_eq_true rfl); k_whole; intro h' F' N'; (try k_sweep))))
local macro_rules | `(tactic| walk_at "call ref") => `(tactic| (k_here; ks_any; k_dflt (refine' call_meth ?k1 ?k2 ?_; (case k1 => k_asm); (case k2 => k_mem); (refine' ks_code_super ?k1 ?k2 ?k3 ?k4 ?k5 ?kA ?kF ?kK ?k6 ?k7 ?k8 ?k9 ?kB ?_ ?c1 ?c2 ?c3 ?c4; (case kA => exact rfl); (case kF => exact rfl); (case kK => exact rfl); (case k1 => k_asm); (case k2 => k_asm); (case k3 => k_asm); (case k4 => k_asm); (case k5 => k_asm); (case k6 => k_is); (case k7 => k_is); (case k8 => k_room); (case k9 => exact binds_K (by k_in) rfl (by k_is) rfl rfl rfl); (case kB => exact locs rfl); (case c1 => decide); (case c2 => exact rfl); (case c3 => exact rfl); (case c4 => exact rfl); intro g' L' h' FG' F' N' B' X' T' l1; (try k_lt l1); (try dsimp only); (try k_lift B')))))
local macro_rules | `(tactic| walk_at "wpAt") => `(tactic| (ks_step "exec Expr"; refine ks_wpAt_Expr_any ?_ ?hi ?hs; (case hi => first | rfl | exact rfl | with_unfolding_all rfl | kernel_rfl); (case hs => first | rfl | exact rfl | with_unfolding_all rfl | kernel_rfl)))
local macro_rules | `(tactic| walk_at "wpAt") => `(tactic| (ks_step "eval Call"; refine' ks_wpAt_MethodCall ?_ ?he; (case he => first | exact rfl | with_unfolding_all exact rfl)))
local macro_rules | `(tactic| walk_at "getMethod ref") => `(tactic| (k_here; ks_any; k_dflt (refine' methodB ?k1 ?k2 ?k3 ?k4 ?k5 ?k6 ?k7 ?k8 ?k9 ?_; (case k1 => k_asm); (case k2 => k_asm); (case k3 => k_asm); (case k4 => k_mem); (case k5 => k_inst); (case k6 => k_is); (case k7 => ks_is); (case k8 => k_is); (case k9 => decide); intro q' h' F' N' l1; (try k_lt l1))))
local macro_rules | `(tactic| walk_at "callWith ref") => `(tactic| (k_here; ks_any; k_dflt (refine' callWith_mw ?k1 ?k2 ?_; (case k1 => k_asm); (case k2 => k_mem); k_whole)))
local macro_rules | `(tactic| walk_at "MwP ref") => `(tactic| (k_here; k_dflt (refine' mwP ?N ?q; (case N => k_asm); (case q => k_mem))))
local macro_rules | `(tactic| walk_at "MwP") => `(tactic| (k_here; k_dflt (refine' mwP ?N ?q; (case N => k_asm); (case q => k_mem))))
local macro_rules | `(tactic| walk_at "call ref") => `(tactic| (k_here; ks_any; k_dflt (refine' call_mwK ?k1 ?k2 ?k3 ?k4 ?k5 ?k6 ?k7 ?_; (case k1 => k_asm); (case k2 => k_asm); (case k3 => k_asm); (case k5 => k_mem); (case k6 => k_upd); (case k4 => k_is); (case k7 => exact Nat.le_of_ble_eq_true rfl); k_whole; intro h' F' N' l1; (try k_lt l1); (try k_sweep))))
local macro_rules | `(tactic| walk_at "setAttr ref") => `(tactic| (k_here; ks_any; k_dflt (refine' set_exc0K ?k1 ?k2 ?k3 ?k4 ?k5 ?k6 ?k7 ?k8 ?k9 ?k10 ?_; (case k1 => k_asm); (case k2 => k_asm); (case k3 => k_asm); (case k4 => k_inst); (case k5 => k_is); (case k6 => k_is); (case k7 => rfl); (case k8 => k_is); (case k9 => rfl); (case k10 => k_upd); k_whole; intro h' F' N' l1; (try k_lt l1); (try k_sweep))))
local macro_rules | `(tactic| walk_at "setAttr ref") => `(tactic| (k_here; ks_any; k_dflt (refine' set_exc1K ?k1 ?k2 ?k3 ?k4 ?k5 ?k6 ?k7 ?k8 ?k9 ?k10 ?k11 ?k12 ?k13 ?_; (case k1 => k_asm); (case k2 => k_asm); (case k3 => k_asm); (case k4 => k_inst); (case k5 => k_is); (case k6 => k_is); (case k7 => rfl); (case k8 => k_is); (case k9 => rfl); (case k10 => k_get); (case k11 => k_put); (case k12 => k_upd); (case k13 => exact Nat.le_of_ble_eq_true rfl); k_whole; intro h' F' N'; (try k_sweep))))
local macro_rules | `(tactic| walk_at "getAttr ref") => `(tactic| (k_here; ks_any; k_dflt (refine' get_excK ?k1 ?k2 ?k3 ?k4 ?k5 ?k6 ?k7 ?k8 ?k9 ?k10 ?k11 ?_; (case k1 => k_asm); (case k2 => k_asm); (case k3 => k_inst); (case k4 => k_is); (case k5 => k_is); (case k6 => k_is); (case k7 => k_is); (case k8 => k_is); (case k9 => k_is); (case k10 => k_get); (case k11 => k_handed); k_whole)))
local macro_rules | `(tactic| walk_at "call builtin:str.format") => `(tactic| (k_here; (with_reducible show wpAny _ _ (call (Value.builtin "str.format") [Value.str _ _, Value.ref _]) _ _ _); k_dflt (refine' fmt_listK ?k1 ?k2 ?k3 ?k4 ?k5 ?k6 ?k7 ?_; (case k1 => k_asm); (case k2 => k_asm); (case k3 => k_mem); (case k4 => first | assumption | exact StrsAre.nil); (case k5 => rfl); (case k6 => k_units); (case k7 => first | assumption | omega | decide); k_whole; intro h' t' k' F' N'; (try k_sweep))))

set_option hygiene false in
local macro_rules | `(tactic| k_all) => `(tactic| (intro p9 hp9; have z9 := ltN (lt1 p9 hp9); refine neN ?_; (try dsimp only); omega))
local macro_rules | `(tactic| k_room) => `(tactic| ((try simp only [depth_under_make, depth_under_kw, depth_in1, depth_deeper, depth_caller]); (try simp only [recursionLimit]); omega))
/-- a law's frame around -/
abbrev envL (nm : PySem.Str) (nms : List (PySem.Str × NameKind)) (L fa : Addr) (cd : Value) : Env := envOf nm { kind := ScopeKind.function, names := nms, isGenerator := false, isCoroutine := false } L fa cd
abbrev AL (hd0 : Option Value) (dp : Nat) (e : Env) (outer : List Env) (gd : Option (List Code)) (u : Nat) : Around := ⟨hd0, dp, some (e :: outer), gd, u⟩
section
variable {w : World} {A₀ : Around} {E : Value → Shared → Prop} {s : Shared} {h₀ base : Heap} {L fa : Addr} {m mg mb : Str → Option Value} {news : List (Addr × Obj)} {p : Program} {loose : List Str} {mean : ExcName → Option Value} {outer : List Env} {a : Addr} {Q : Value → Shared → Prop}
  {hd0 : Option Value} {dp u : Nat} {gd : Option (List Code)} {nm : PySem.Str} {nms : List (PySem.Str × NameKind)} {cd : Value}
set_option maxHeartbeats 2000000 in
theorem mk_refK (B : Below A₀ base outer h₀) (F : Fr h₀ L s.heap m) (X₀ : (hd.heap_39 w.params).In h₀) (N : News h₀ L s.heap news) (T : Top p loose mean mg mb h₀) (hroom : dp < 900)
    (h : ∀ x dx tu h' t1 t2 n tk, Fr h₀ L h' m → News h₀ L h' ((dx, dictOf (defDict w.params t1 t2 (.ref a) (.ref a)) n) :: (tu, tupOf [.ref a]) :: (x, excOf 84 dx tu) :: news) → (∀ p ∈ news, p.1 < x) → x < tu → tu < dx → Q (.ref x) { s with heap := h', toks := tk }) :
    wpAny (model prg w) (AL hd0 dp (envOf nm { kind := ScopeKind.function, names := nms, isGenerator := false, isCoroutine := false } L fa cd) outer gd u) (call (.ref 84) [.ref a]) Q E s := by
  have : PySem.Challenge.rw_dm0089_01 = PySem.Challenge.rw_dm0089_01 ∧ hd.heap_39 = hd.heap_39 := by (k_fill; exact ⟨rfl, rfl⟩)
  clear this
  refine call_excK F X₀ N (makes84 _) (by k_is) (by k_is) (Nat.le_of_ble_eq_true rfl) ?_
  intro x tu h1 F1 N1 lt1 lt2
  clear F N
  k_lt2 lt2
  ks_enter
  k_steps
  rename News h₀ L _ _ => NN
  refine' h x ?dx ?tu _ ?t1 ?t2 ?n _ ?F (kst_newsOf NN (List.forall_mem_cons.mpr ⟨?m1, List.forall_mem_cons.mpr ⟨?m2, List.forall_mem_cons.mpr ⟨?m3, ?m4⟩⟩⟩)) ?l1 ?l2 ?l3
  case m3 => k_mem
  case m1 => k_mem
  case m2 => k_mem
  case m4 => (intro p9 hp9; repeat' (first | exact hp9 | refine List.Mem.tail _ ?_))
  case F => assumption
  case l1 => exact fun p9 hp9 => Nat.lt_trans (lt1 p9 hp9) lt2
  case l2 => (refine ltN ?_; (try dsimp only at *); omega)
  case l3 => (refine ltN ?_; (try dsimp only at *); omega)
set_option maxHeartbeats 2000000 in
theorem mk_strK (B : Below A₀ base outer h₀) (F : Fr h₀ L s.heap m) (X₀ : (hd.heap_39 w.params).In h₀) (N : News h₀ L s.heap news) {y : PySem.Str} {ty : Tok} (T : Top p loose mean mg mb h₀) (hroom : dp < 900)
    (h : ∀ x dx tu h' t1 t2 n tk, Fr h₀ L h' m → News h₀ L h' ((dx, dictOf (defDict w.params t1 t2 (.str y ty) (.str y ty)) n) :: (tu, tupOf [.str y ty]) :: (x, excOf 84 dx tu) :: news) → (∀ p ∈ news, p.1 < x) → x < tu → tu < dx → Q (.ref x) { s with heap := h', toks := tk }) :
    wpAny (model prg w) (AL hd0 dp (envOf nm { kind := ScopeKind.function, names := nms, isGenerator := false, isCoroutine := false } L fa cd) outer gd u) (call (.ref 84) [.str y ty]) Q E s := by
  have : PySem.Challenge.rw_dm0089_01 = PySem.Challenge.rw_dm0089_01 ∧ hd.heap_39 = hd.heap_39 := by (k_fill; exact ⟨rfl, rfl⟩)
  clear this
  refine call_excK F X₀ N (makes84 _) (by k_is) (by k_is) (Nat.le_of_ble_eq_true rfl) ?_
  intro x tu h1 F1 N1 lt1 lt2
  clear F N
  k_lt2 lt2
  ks_enter
  k_steps
  rename News h₀ L _ _ => NN
  refine' h x ?dx ?tu _ ?t1 ?t2 ?n _ ?F (kst_newsOf NN (List.forall_mem_cons.mpr ⟨?m1, List.forall_mem_cons.mpr ⟨?m2, List.forall_mem_cons.mpr ⟨?m3, ?m4⟩⟩⟩)) ?l1 ?l2 ?l3
  case m3 => k_mem
  case m1 => k_mem
  case m2 => k_mem
  case m4 => (intro p9 hp9; repeat' (first | exact hp9 | refine List.Mem.tail _ ?_))
  case F => assumption
  case l1 => exact fun p9 hp9 => Nat.lt_trans (lt1 p9 hp9) lt2
  case l2 => (refine ltN ?_; (try dsimp only at *); omega)
  case l3 => (refine ltN ?_; (try dsimp only at *); omega)
end
end Mine
end

section
open PySem PySem.W PySem.Calls PyProof.Rows
namespace Mine
local macro_rules | `(tactic| walk_at "call ref") => `(tactic| (k_here; k_dflt (refine' call_meth ?k1 ?k2 ?_; (case k1 => k_asm); (case k2 => k_mem); (refine' code_both0 ?k1 ?k2 ?k3 ?k4 ?k5 ?kA ?kF ?kK ?k6 ?k7 ?k8 ?kV ?kQ ?kM ?kR ?kP ?kS ?kT ?kB ?_ ?c2 ?c3 ?c4 ?c5; (case kA => exact rfl); (case kF => exact rfl); (case kK => exact rfl); (case k1 => k_asm); (case k2 => k_asm); (case k3 => k_asm); (case k4 => k_asm); (case k5 => k_asm); (case k6 => k_is); (case k7 => k_is); (case k8 => k_room); (case kV => kp_lit); (case kQ => exact rfl); (case kM => exact rfl); (case kR => exact rfl); (case kP => exact rfl); (case kS => exact fun _ => rfl); (case kT => exact fun _ _ => rfl); (case kB => exact fun _ _ => locs rfl); (case c5 => decide); (case c2 => exact rfl); (case c3 => exact rfl); (case c4 => exact rfl); k_whole; intro C' D' g' L' h' tk' l1 l2 lo' FG' F' N' B' X' T' l3; (try k_lt l1); (try k_lt2 l2); (try k_lt2 l3); (try dsimp only); (try k_lift B')))))
local macro_rules | `(tactic| walk_at "wpAt") => `(tactic| (ks_step "eval Call"; refine' wpAt_MethodCallStar ?_ ?hform; (case hform => first | exact rfl | with_unfolding_all exact rfl)))
local macro_rules | `(tactic| walk_at "getAttr ref") => `(tactic| (k_here; ks_any; k_dflt (refine' getAttr_superK ?k1 ?k2 ?k3 ?k4 ?k5 ?k6 ?k7 ?k8 ?k9 ?_; (case k1 => k_asm); (case k2 => k_asm); (case k3 => k_asm); (case k4 => k_mem); (case k5 => k_inst); (case k6 => k_is); (case k7 => ks_is); (case k8 => k_is); (case k9 => decide); intro q' h' F' N' l1; (try k_lt l1))))
local macro_rules | `(tactic| walk_at "callWith ref") => `(tactic| (k_here; ks_any; k_dflt (refine' callWith_star0 (T := "tuple") (.inr rfl) ?k1 ?k2 ?k3 ?k4 ?k5 ?k6 ?k7 ?k8 ?k9 ?hx ?hy ?_; (case k1 => k_asm); (case k2 => k_asm); (case k3 => k_asm); (case hx => (refine wpAny_bind (wpAny_Name (wpAny_loadName_local rfl rfl (Fr.ns (by k_asm)) rfl (wpAny_bind (wpAny_standAt (wpAny_pure ⟨rfl, rfl⟩)))) (by decide)))); (case hy => (intro hh' FF' tk'; refine wpAny_bind (wpAny_Name (wpAny_loadName_local rfl rfl FF'.ns rfl (wpAny_bind (wpAny_standAt (wpAny_pure ⟨rfl, rfl⟩)))) (by decide)))); (case k4 => k_mem); (case k5 => k_is); (case k6 => k_mem); (case k7 => k_mem); (case k8 => k_asm); (case k9 => exact Nat.le_of_ble_eq_true rfl); k_whole; intro h' F' N'; (try k_sweep))))
local macro_rules | `(tactic| walk_at "call ref") => `(tactic| (k_here; ks_any; k_dflt (refine' call_meth ?k1 ?k2 ?_; (case k1 => k_asm); (case k2 => k_mem); (refine' ks_code_super ?k1 ?k2 ?k3 ?k4 ?k5 ?kA ?kF ?kK ?k6 ?k7 ?k8 ?k9 ?kB ?_ ?c1 ?c2 ?c3 ?c4; (case kA => exact rfl); (case kF => exact rfl); (case kK => exact rfl); (case k1 => k_asm); (case k2 => k_asm); (case k3 => k_asm); (case k4 => k_asm); (case k5 => k_asm); (case k6 => k_is); (case k7 => k_is); (case k8 => k_room); (case k9 => exact binds_K (by k_in) rfl (by k_is) rfl rfl rfl); (case kB => exact locs rfl); (case c1 => decide); (case c2 => exact rfl); (case c3 => exact rfl); (case c4 => exact rfl); intro g' L' h' FG' F' N' B' X' T' l1; (try k_lt l1); (try dsimp only); (try k_lift B')))))
local macro_rules | `(tactic| walk_at "wpAt") => `(tactic| (ks_step "exec Expr"; refine ks_wpAt_Expr_any ?_ ?hi ?hs; (case hi => first | rfl | exact rfl | with_unfolding_all rfl | kernel_rfl); (case hs => first | rfl | exact rfl | with_unfolding_all rfl | kernel_rfl)))
local macro_rules | `(tactic| walk_at "wpAt") => `(tactic| (ks_step "eval Call"; refine' ks_wpAt_MethodCall ?_ ?he; (case he => first | exact rfl | with_unfolding_all exact rfl)))
local macro_rules | `(tactic| walk_at "getMethod ref") => `(tactic| (k_here; ks_any; k_dflt (refine' methodB ?k1 ?k2 ?k3 ?k4 ?k5 ?k6 ?k7 ?k8 ?k9 ?_; (case k1 => k_asm); (case k2 => k_asm); (case k3 => k_asm); (case k4 => k_mem); (case k5 => k_inst); (case k6 => k_is); (case k7 => ks_is); (case k8 => k_is); (case k9 => decide); intro q' h' F' N' l1; (try k_lt l1))))
local macro_rules | `(tactic| walk_at "callWith ref") => `(tactic| (k_here; ks_any; k_dflt (refine' callWith_mw ?k1 ?k2 ?_; (case k1 => k_asm); (case k2 => k_mem); k_whole)))
local macro_rules | `(tactic| walk_at "MwP ref") => `(tactic| (k_here; k_dflt (refine' mwP ?N ?q; (case N => k_asm); (case q => k_mem))))
local macro_rules | `(tactic| walk_at "MwP") => `(tactic| (k_here; k_dflt (refine' mwP ?N ?q; (case N => k_asm); (case q => k_mem))))
local macro_rules | `(tactic| walk_at "call ref") => `(tactic| (k_here; ks_any; k_dflt (refine' call_mwK ?k1 ?k2 ?k3 ?k4 ?k5 ?k6 ?k7 ?_; (case k1 => k_asm); (case k2 => k_asm); (case k3 => k_asm); (case k5 => k_mem); (case k6 => k_upd); (case k4 => k_is); (case k7 => exact Nat.le_of_ble_eq_true rfl); k_whole; intro h' F' N' l1; (try k_lt l1); (try k_sweep))))
local macro_rules | `(tactic| walk_at "setAttr ref") => `(tactic| (k_here; ks_any; k_dflt (refine' set_exc0K ?k1 ?k2 ?k3 ?k4 ?k5 ?k6 ?k7 ?k8 ?k9 ?k10 ?_; (case k1 => k_asm); (case k2 => k_asm); (case k3 => k_asm); (case k4 => k_inst); (case k5 => k_is); (case k6 => k_is); (case k7 => rfl); (case k8 => k_is); (case k9 => rfl); (case k10 => k_upd); k_whole; intro h' F' N' l1; (try k_lt l1); (try k_sweep))))
local macro_rules | `(tactic| walk_at "setAttr ref") => `(tactic| (k_here; ks_any; k_dflt (refine' set_exc1K ?k1 ?k2 ?k3 ?k4 ?k5 ?k6 ?k7 ?k8 ?k9 ?k10 ?k11 ?k12 ?k13 ?_; (case k1 => k_asm); (case k2 => k_asm); (case k3 => k_asm); (case k4 => k_inst); (case k5 => k_is); (case k6 => k_is); (case k7 => rfl); (case k8 => k_is); (case k9 => rfl); (case k10 => k_get); (case k11 => k_put); (case k12 => k_upd); (case k13 => exact Nat.le_of_ble_eq_true rfl); k_whole; intro h' F' N'; (try k_sweep))))
local macro_rules | `(tactic| walk_at "getAttr ref") => `(tactic| (k_here; ks_any; k_dflt (refine' get_excK ?k1 ?k2 ?k3 ?k4 ?k5 ?k6 ?k7 ?k8 ?k9 ?k10 ?k11 ?_; (case k1 => k_asm); (case k2 => k_asm); (case k3 => k_inst); (case k4 => k_is); (case k5 => k_is); (case k6 => k_is); (case k7 => k_is); (case k8 => k_is); (case k9 => k_is); (case k10 => k_get); (case k11 => k_handed); k_whole)))


local macro_rules | `(tactic| k_mem) => `(tactic| assumption)
local macro_rules | `(tactic| k_inst) => `(tactic| exact inst_exc (by k_asm) (by assumption) (by assumption))
local macro_rules | `(tactic| k_room) => `(tactic| ((try simp only [depth_under_make, depth_under_kw, depth_in1, depth_deeper, depth_caller]); (try simp only [recursionLimit]); omega))
local macro_rules | `(tactic| k_units) => `(tactic| ((try simp only [units_deeper, units_in1, Around.in1_units]); rw [cLine_is]; (try dsimp only); omega))
section
variable {w : World} {A₀ : Around} {E : Value → Shared → Prop} {s : Shared} {h₀ base : Heap} {L fa : Addr} {m mg mb : Str → Option Value} {news : List (Addr × Obj)} {p : Program} {loose : List Str} {mean : ExcName → Option Value} {outer : List Env} {l x dx tu : Addr} {Q : Value → Shared → Prop}
  {hd0 : Option Value} {dp u : Nat} {nm : PySem.Str} {nms : List (PySem.Str × NameKind)} {cd v : Value} {t1 t2 : Tok} {n c : Nat} {us : List Value} {xs : List PySem.Str}
set_option maxHeartbeats 2000000 in
theorem str_listK (B : Below A₀ base outer h₀) (F : Fr h₀ L s.heap m) (X₀ : (hd.heap_39 w.params).In h₀) (N : News h₀ L s.heap news) (T : Top p loose mean mg mb h₀) (hroom : dp < 900) (hu : u < 1000)
    (hx : (x, excOf 84 dx tu) ∈ news) (hdx : (dx, dictOf (defDict w.params t1 t2 v (.ref l)) n) ∈ news) (hl : (l, listOf us.toArray c) ∈ news) (S : StrsAre us xs) (hsz : (PyData.list (xs.map PyData.str)).shown.length ≤ 100000)
    (h : ∀ h' t' k, Fr h₀ L h' m → News h₀ L h' news → Q (.str (words ++ (PyData.list (xs.map PyData.str)).shown) t') { s with heap := h', toks := k }) :
    wpAny (model prg w) (AL hd0 dp (envOf nm { kind := ScopeKind.function, names := nms, isGenerator := false, isCoroutine := false } L fa cd) outer (some []) u) (call (.type "str") [.ref x]) Q E s := by
  have : PySem.Challenge.rw_dm0089_01 = PySem.Challenge.rw_dm0089_01 ∧ hd.heap_39 = hd.heap_39 := by (k_fill; exact ⟨rfl, rfl⟩)
  clear this
  have I := inst_exc N hx hdx
  refine kso_call (f := 81) (by k_units) (X₀.keeps F.keep) I (by k_is) (by k_is) ?_
  clear I
  k_steps
  refine fmt_listK (by k_asm) (by k_asm) hl S rfl (by k_units) hsz ?_
  intro h9 t9 k9 F9 N9
  k_steps
  refine h _ _ _ ?_ ?_ <;> assumption
set_option maxHeartbeats 2000000 in
theorem str_tupK (B : Below A₀ base outer h₀) (F : Fr h₀ L s.heap m) (X₀ : (hd.heap_39 w.params).In h₀) (N : News h₀ L s.heap news) (T : Top p loose mean mg mb h₀) (hroom : dp < 900) (hu : u < 1000)
    (hx : (x, excOf 84 dx tu) ∈ news) (hdx : (dx, dictOf (defDict w.params t1 t2 v (.ref l)) n) ∈ news) (hl : (l, (⟨.type "tuple", none, .seq us.toArray c, #[]⟩ : Obj)) ∈ news) (S : StrsAre us xs) (hsz : (PyData.tuple (xs.map PyData.str)).shown.length ≤ 100000)
    (h : ∀ h' t' k, Fr h₀ L h' m → News h₀ L h' news → Q (.str (words ++ (PyData.tuple (xs.map PyData.str)).shown) t') { s with heap := h', toks := k }) :
    wpAny (model prg w) (AL hd0 dp (envOf nm { kind := ScopeKind.function, names := nms, isGenerator := false, isCoroutine := false } L fa cd) outer (some []) u) (call (.type "str") [.ref x]) Q E s := by
  have : PySem.Challenge.rw_dm0089_01 = PySem.Challenge.rw_dm0089_01 ∧ hd.heap_39 = hd.heap_39 := by (k_fill; exact ⟨rfl, rfl⟩)
  clear this
  have I := inst_exc N hx hdx
  refine kso_call (f := 81) (by k_units) (X₀.keeps F.keep) I (by k_is) (by k_is) ?_
  clear I
  k_steps
  refine fmt_tupK (by k_asm) (by k_asm) hl S rfl (by k_units) hsz ?_
  intro h9 t9 k9 F9 N9
  k_steps
  refine h _ _ _ ?_ ?_ <;> assumption
set_option maxHeartbeats 2000000 in
theorem str_strK (B : Below A₀ base outer h₀) (F : Fr h₀ L s.heap m) (X₀ : (hd.heap_39 w.params).In h₀) (N : News h₀ L s.heap news) (T : Top p loose mean mg mb h₀) (hroom : dp < 900) (hu : u < 1000)
    (hx : (x, excOf 84 dx tu) ∈ news) {y : PySem.Str} {ty : Tok} (hdx : (dx, dictOf (defDict w.params t1 t2 v (.str y ty)) n) ∈ news) (hsz : y.length ≤ 100000)
    (h : ∀ h' t' k, Fr h₀ L h' m → News h₀ L h' news → Q (.str (words ++ y) t') { s with heap := h', toks := k }) :
    wpAny (model prg w) (AL hd0 dp (envOf nm { kind := ScopeKind.function, names := nms, isGenerator := false, isCoroutine := false } L fa cd) outer (some []) u) (call (.type "str") [.ref x]) Q E s := by
  have : PySem.Challenge.rw_dm0089_01 = PySem.Challenge.rw_dm0089_01 ∧ hd.heap_39 = hd.heap_39 := by (k_fill; exact ⟨rfl, rfl⟩)
  clear this
  have I := inst_exc N hx hdx
  refine kso_call (f := 81) (by k_units) (X₀.keeps F.keep) I (by k_is) (by k_is) ?_
  clear I
  k_steps
  first
    | (refine h _ _ _ ?_ ?_ <;> assumption)
    | (refine fmt_strK hsz ?_; intro t9 k9; k_steps; refine h _ _ _ ?_ ?_ <;> assumption)
end
end Mine
end

section
open PySem PySem.W PySem.Calls PyProof.Rows
namespace Mine
def fig (i : Int) : PySem.Str := PySem.Str.mk #[#[48, 49, 50, 51, 52, 53, 54, 55, 56, 57, 97, 98, 99, 100, 101, 102].getD i.toNat 0]
def sgn (c : Int) : PySem.Str := if c = 9 then PySem.Str.ofString "'\\t'" else if c = 10 then PySem.Str.ofString "'\\n'" else if c = 13 then PySem.Str.ofString "'\\r'" else if c = 32 then PySem.Str.ofString "' '" else
  PySem.Str.ofString "'\\x" ++ fig (c / 16) ++ fig (c % 16) ++ PySem.Str.ofString "'"
abbrev chrS (c : Int) : PySem.Str := PySem.Str.mk #[c.toNat]
/-- what has been shown of the found signs -/
def J (found : List PySem.Str) : PySem.Str := PySem.Str.join ", " (PyData.shownAll (found.map PyData.str))
structure Tx (shown : PySem.Str) (found : List PySem.Str) : Prop where
  text : shown = J found
  ok : ∀ x ∈ found, PyData.strOk x = true
theorem sgn_all : ∀ n : Fin 128, (n.val < 33 ∨ n.val = 127) → sgn (n.val : Int) = reprText (PySem.Str.mk #[n.val]) := by decide +kernel
theorem sgn_len : ∀ n : Fin 128, (sgn (n.val : Int)).length ≤ 6 := by decide +kernel
theorem sgn_is {c : Int} (h0 : 0 ≤ c) (h1 : c < 33 ∨ c = 127) : sgn c = reprText (chrS c) := by
  obtain ⟨n, rfl⟩ := Int.eq_ofNat_of_zero_le h0
  have hn : n < 128 := by omega
  have := sgn_all ⟨n, hn⟩ (by dsimp only; omega)
  exact this
theorem sgn_short {c : Int} (h0 : 0 ≤ c) (h1 : c < 128) : (sgn c).length ≤ 6 := by
  obtain ⟨n, rfl⟩ := Int.eq_ofNat_of_zero_le h0
  have hn : n < 128 := by omega
  simpa using sgn_len ⟨n, hn⟩
theorem chr_ok {c : Int} (h1 : c < 128) : PyData.strOk (chrS c) = true := by
  simp only [PyData.strOk, chrS]
  simp
  omega
theorem shownAll_append : ∀ (a : List PyData) (b : PyData), PyData.shownAll (a ++ [b]) = PyData.shownAll a ++ [b.shown]
  | [], b => by simp [PyData.shownAll]
  | x :: r, b => by simp [PyData.shownAll, shownAll_append r b]
theorem shownAll_length : ∀ a : List PyData, (PyData.shownAll a).length = a.length
  | [] => rfl
  | x :: r => by simp [PyData.shownAll, shownAll_length r]
theorem join_one_more (sep t : PySem.Str) : ∀ ts : List PySem.Str, ts ≠ [] → PySem.Str.join sep (ts ++ [t]) = PySem.Str.join sep ts ++ sep ++ t
  | [], h => absurd rfl h
  | [x], _ => rfl
  | x :: y :: r, _ => by
    have ih := join_one_more sep t (y :: r) (by simp)
    have e1 : PySem.Str.join sep (x :: y :: r ++ [t]) = x ++ sep ++ PySem.Str.join sep (y :: r ++ [t]) := rfl
    have e2 : PySem.Str.join sep (x :: y :: r) = x ++ sep ++ PySem.Str.join sep (y :: r) := rfl
    rw [e1, e2, ih]
    simp only [Str.append_assoc]
theorem Tx.nil : Tx (PySem.Str.ofString "") [] := ⟨by decide +kernel, fun _ h => nomatch h⟩
theorem ok_more {found : List PySem.Str} {c : Int} (h : ∀ x ∈ found, PyData.strOk x = true) (h1 : c < 128) : ∀ x ∈ found ++ [chrS c], PyData.strOk x = true := by
  intro x hx
  rcases List.mem_append.mp hx with hx | hx
  · exact h x hx
  · rw [List.mem_singleton.mp hx]; exact chr_ok h1
theorem Tx.one {shown : PySem.Str} {found : List PySem.Str} {c : Int} (T : Tx shown found) (hn : found = []) (h0 : 0 ≤ c) (h1 : c < 33 ∨ c = 127) : Tx (shown ++ sgn c) (found ++ [chrS c]) := by
  subst hn
  refine ⟨?_, ok_more T.ok (by omega)⟩
  rw [T.text, sgn_is h0 h1]
  show PySem.Str.empty ++ reprText (chrS c) = reprText (chrS c)
  rw [Str.empty_append]
theorem Tx.more {shown : PySem.Str} {found : List PySem.Str} {c : Int} (T : Tx shown found) (hn : found ≠ []) (h0 : 0 ≤ c) (h1 : c < 33 ∨ c = 127) : Tx ((shown ++ PySem.Str.ofString ", ") ++ sgn c) (found ++ [chrS c]) := by
  refine ⟨?_, ok_more T.ok (by omega)⟩
  have hne : PyData.shownAll (found.map PyData.str) ≠ [] := by
    intro e
    have := congrArg List.length e
    rw [shownAll_length, List.length_map] at this
    exact hn (List.eq_nil_of_length_eq_zero this)
  rw [T.text, sgn_is h0 h1]
  unfold J
  rw [List.map_append, List.map_cons, List.map_nil, shownAll_append, join_one_more _ _ _ hne]
  simp only [PyData.shown]
theorem Tx.list {shown : PySem.Str} {found : List PySem.Str} (T : Tx shown found) : (PyData.list (found.map PyData.str)).shown = PySem.Str.ofString "[" ++ shown ++ PySem.Str.ofString "]" := by
  simp only [PyData.shown, listText_eq_join]
  rw [T.text]; rfl
theorem Tx.tuple {shown : PySem.Str} {found : List PySem.Str} (T : Tx shown found) : (PyData.tuple (found.map PyData.str)).shown = PySem.Str.ofString "(" ++ shown ++ (if found.length = 1 then PySem.Str.ofString ",)" else PySem.Str.ofString ")") := by
  simp only [PyData.shown, tupleText]
  rw [T.text, shownAll_length, List.length_map]
  by_cases h : found.length = 1
  · rw [if_pos h, if_pos (by rw [h]; rfl)]; rfl
  · rw [if_neg h, if_neg (by simpa using h)]; rfl
end Mine
end

section
open PySem PySem.W PySem.Calls PyProof.Rows
namespace Mine
local macro_rules | `(tactic| k_room) => `(tactic| ((try simp only [depth_under_make, depth_under_kw, depth_in1, depth_deeper, depth_caller]); (try simp only [recursionLimit]); omega))
theorem fig_all : ∀ n : Fin 16, Txt.item (PySem.Str.ofString "0123456789abcdef") (n.val : Int) = fig (n.val : Int) := by decide +kernel
theorem fig_is {i : Int} (h0 : 0 ≤ i) (h1 : i < 16) : Txt.item (PySem.Str.ofString "0123456789abcdef") i = fig i := by
  obtain ⟨n, rfl⟩ := Int.eq_ofNat_of_zero_le h0
  exact fig_all ⟨n, by omega⟩
theorem fig_len (i : Int) : (fig i).length = 1 := rfl
theorem fig_sub {prog : Program} {w : World} {A : Around} {E : Value → Shared → Prop} {s : Shared} {value slice : PySem.Expr} {t u : Tok} {i : Int} {Q : Value → Shared → Prop} (h0 : 0 ≤ i) (h1 : i < 16)
    (h : (fig i).length = 1 → Q (.str (fig i) s.toks) { s with toks := s.toks + 1 })
    (hs : subscripted slice false (.str (PySem.Str.ofString "0123456789abcdef") t) (.int i u) = operate [.str (PySem.Str.ofString "0123456789abcdef") t, .int i u] (getItem (.str (PySem.Str.ofString "0123456789abcdef") t) (.int i u)) := by with_unfolding_all rfl)
    (ht : ∀ r, letTemporaryGo value (.str (PySem.Str.ofString "0123456789abcdef") t) r = pure () := by intro _; with_unfolding_all rfl) :
    wpAny (model prog w) A (subscriptTail value slice (.str (PySem.Str.ofString "0123456789abcdef") t) (.int i u)) Q E s := by
  have e : (PySem.Str.ofString "0123456789abcdef").length = 16 := by decide
  refine item_str (fitsSsize_of (N := 9223372036854775808) (by omega) (by omega) (Int.le_refl _)) (by rw [e]; omega) (by rw [e]; omega) (fun _ => ?_) hs ht
  rw [fig_is h0 h1]; exact h (fig_len i)
theorem fd0 {c : Int} (h0 : 0 ≤ c) : 0 ≤ c.fdiv 16 := by rw [fdiv_eq c (by decide)]; omega
theorem fd1 {c : Int} (h1 : c < 128) : c.fdiv 16 < 16 := by rw [fdiv_eq c (by decide)]; omega
theorem fmod_is (c : Int) : c.fmod 16 = c % 16 := Int.fmod_eq_emod_of_nonneg c (by decide)
theorem fo0 (c : Int) : 0 ≤ c.fmod 16 := by rw [fmod_is]; omega
theorem fo1 (c : Int) : c.fmod 16 < 16 := by rw [fmod_is]; omega
theorem sgn_else {c : Int} (h1 : ¬ c = 9) (h2 : ¬ c = 10) (h3 : ¬ c = 13) (h4 : ¬ c = 32) : ((PySem.Str.ofString "'\\x" ++ fig (c.fdiv 16)) ++ fig (c.fmod 16)) ++ PySem.Str.ofString "'" = sgn c := by
  unfold sgn
  rw [if_neg h1, if_neg h2, if_neg h3, if_neg h4, fdiv_eq c (by decide), fmod_is]
theorem sgn9 {c : Int} (h : c = 9) : PySem.Str.ofString "'\\t'" = sgn c := by subst h; decide
theorem sgn10 {c : Int} (h : c = 10) : PySem.Str.ofString "'\\n'" = sgn c := by subst h; decide
theorem sgn13 {c : Int} (h : c = 13) : PySem.Str.ofString "'\\r'" = sgn c := by subst h; decide
theorem sgn32 {c : Int} (h : c = 32) : PySem.Str.ofString "' '" = sgn c := by subst h; decide
section
variable {w : World} {A₀ : Around} {E : Value → Shared → Prop} {s : Shared} {h₀ base : Heap} {L fa : Addr} {m mg mb : Str → Option Value} {news : List (Addr × Obj)} {p : Program} {loose : List Str} {mean : ExcName → Option Value} {outer : List Env} {Q : Value → Shared → Prop}
  {hd0 : Option Value} {dp u : Nat} {gd : Option (List Code)} {nm : PySem.Str} {nms : List (PySem.Str × NameKind)} {cd : Value} {c : Int} {t : Tok}
local macro_rules | `(tactic| walk_at "subscriptTail") => `(tactic| (k_here; (with_reducible show wpAny _ _ (subscriptTail _ _ (Value.str _ _) (Value.int _ _)) _ _ _); k_dflt (first | refine fig_sub (fd0 (by assumption)) (fd1 (by assumption)) ?_ | refine fig_sub (fo0 _) (fo1 _) ?_); intro lfg))
set_option maxHeartbeats 2000000 in
theorem sign_call (B : Below A₀ base outer h₀) (F : Fr h₀ L s.heap m) (X₀ : (hd.heap_39 w.params).In h₀) (N : News h₀ L s.heap news) (T : Top p loose mean mg mb h₀) (hroom : dp < 900) (h0 : 0 ≤ c) (h1 : c < 128)
   (h : ∀ h' t' k, Fr h₀ L h' m → News h₀ L h' news → (sgn c).length ≤ 6 → Q (.str (sgn c) t') { s with heap := h', toks := k }) :
   wpAny (model prg w) (AL hd0 dp (envOf nm { kind := ScopeKind.function, names := nms, isGenerator := false, isCoroutine := false } L fa cd) outer gd u) (call (.ref 93) [.int c t]) Q E s := by
  have : PySem.Challenge.rw_dm0089_01 = PySem.Challenge.rw_dm0089_01 ∧ hd.heap_39 = hd.heap_39 := by (k_fill; exact ⟨rfl, rfl⟩)
  clear this
  have hlen := sgn_short h0 h1
  refine wpAny_call ?_
  k_enter
  k_steps
  all_goals first
    | (rw [sgn9 (by assumption)]; exact h _ _ _ (by assumption) (by assumption) hlen)
    | (rw [sgn10 (by assumption)]; exact h _ _ _ (by assumption) (by assumption) hlen)
    | (rw [sgn13 (by assumption)]; exact h _ _ _ (by assumption) (by assumption) hlen)
    | (rw [sgn32 (by assumption)]; exact h _ _ _ (by assumption) (by assumption) hlen)
    | (rw [fig_is (fo0 c) (fo1 c), sgn_else (by assumption) (by assumption) (by assumption) (by assumption)]; exact h _ _ _ (by assumption) (by assumption) hlen)
end
end Mine
end

section
open PySem PySem.W PySem.Calls PyProof.Rows
open Mine
namespace Mine
theorem cat4 {a b c d : PySem.Str} : a ++ (b ++ c ++ d) = ((a ++ b) ++ c) ++ d := by simp only [Str.append_assoc]
section
variable {w : World} {A₀ : Around} {E : Value → Shared → Prop} {s : Shared} {h₀ base : Heap} {L fa : Addr} {m mg mb : Str → Option Value} {news : List (Addr × Obj)} {p : Program} {loose : List Str} {mean : ExcName → Option Value} {outer : List Env} {l x dx tu : Addr} {Q : Value → Shared → Prop}
  {hd0 : Option Value} {dp u : Nat} {nm : PySem.Str} {nms : List (PySem.Str × NameKind)} {cd v : Value} {t1 t2 : Tok} {n c : Nat} {us : List Value} {xs : List PySem.Str}
theorem str_txK {sh : PySem.Str} (B : Below A₀ base outer h₀) (F : Fr h₀ L s.heap m) (X₀ : (hd.heap_39 w.params).In h₀) (N : News h₀ L s.heap news) (T : Top p loose mean mg mb h₀) (hroom : dp < 900) (hu : u < 1000)
    (hx : (x, excOf 84 dx tu) ∈ news) (hdx : (dx, dictOf (defDict w.params t1 t2 v (.ref l)) n) ∈ news) (hl : (l, listOf us.toArray c) ∈ news) (S : StrsAre us xs) (Tt : Tx sh xs) (hsz : sh.length ≤ 1000)
    (h : ∀ h' t' k, Fr h₀ L h' m → News h₀ L h' news → Q (.str (((words ++ PySem.Str.ofString "[") ++ sh) ++ PySem.Str.ofString "]") t') { s with heap := h', toks := k }) :
    wpAny (model prg w) (AL hd0 dp (envOf nm { kind := ScopeKind.function, names := nms, isGenerator := false, isCoroutine := false } L fa cd) outer (some []) u) (call (.type "str") [.ref x]) Q E s := by
  refine str_listK B F X₀ N T hroom hu hx hdx hl S ?_ ?_
  · rw [Tt.list, Str.length_append, Str.length_append]
    have e1 : (PySem.Str.ofString "[").length = 1 := by decide
    have e2 : (PySem.Str.ofString "]").length = 1 := by decide
    omega
  · intro h' t' k F' N'
    rw [Tt.list, cat4]
    exact h h' t' k F' N'
theorem str_txP {sh : PySem.Str} {c9 : Int} {ty : Tok} (B : Below A₀ base outer h₀) (F : Fr h₀ L s.heap m) (X₀ : (hd.heap_39 w.params).In h₀) (N : News h₀ L s.heap news) (T : Top p loose mean mg mb h₀) (hroom : dp < 900) (hu : u < 1000)
    (hx : (x, excOf 84 dx tu) ∈ news) (hdx : (dx, dictOf (defDict w.params t1 t2 v (.ref l)) n) ∈ news) (hl : (l, listOf (us.toArray.push (.str (PySem.Str.mk #[c9.toNat]) ty)) c) ∈ news) (S : StrsAre us xs) (Tt : Tx sh (xs ++ [chrS c9])) (hsz : sh.length ≤ 1000)
    (h : ∀ h' t' k, Fr h₀ L h' m → News h₀ L h' news → Q (.str (((words ++ PySem.Str.ofString "[") ++ sh) ++ PySem.Str.ofString "]") t') { s with heap := h', toks := k }) :
    wpAny (model prg w) (AL hd0 dp (envOf nm { kind := ScopeKind.function, names := nms, isGenerator := false, isCoroutine := false } L fa cd) outer (some []) u) (call (.type "str") [.ref x]) Q E s := by
  rw [List.push_toArray] at hl
  exact str_txK B F X₀ N T hroom hu hx hdx hl (StrsAre.append' S (.cons _ _ .nil)) Tt hsz h
theorem str_tup1 {sh : PySem.Str} (B : Below A₀ base outer h₀) (F : Fr h₀ L s.heap m) (X₀ : (hd.heap_39 w.params).In h₀) (N : News h₀ L s.heap news) (T : Top p loose mean mg mb h₀) (hroom : dp < 900) (hu : u < 1000)
    (hx : (x, excOf 84 dx tu) ∈ news) (hdx : (dx, dictOf (defDict w.params t1 t2 v (.ref l)) n) ∈ news) (hl : (l, (⟨.type "tuple", none, .seq us.toArray c, #[]⟩ : Obj)) ∈ news) (S : StrsAre us xs) (Tt : Tx sh xs) (h1 : xs.length = 1) (hsz : sh.length ≤ 1000)
    (h : ∀ h' t' k, Fr h₀ L h' m → News h₀ L h' news → Q (.str ((((words ++ PySem.Str.ofString "(") ++ sh) ++ PySem.Str.ofString ",") ++ PySem.Str.ofString ")") t') { s with heap := h', toks := k }) :
    wpAny (model prg w) (AL hd0 dp (envOf nm { kind := ScopeKind.function, names := nms, isGenerator := false, isCoroutine := false } L fa cd) outer (some []) u) (call (.type "str") [.ref x]) Q E s := by
  have e0 : PySem.Str.ofString ",)" = PySem.Str.ofString "," ++ PySem.Str.ofString ")" := by decide
  refine str_tupK B F X₀ N T hroom hu hx hdx hl S ?_ ?_
  · rw [Tt.tuple, if_pos h1, Str.length_append, Str.length_append]
    have e1 : (PySem.Str.ofString "(").length = 1 := by decide
    have e2 : (PySem.Str.ofString ",)").length = 2 := by decide
    omega
  · intro h' t' k F' N'
    rw [Tt.tuple, if_pos h1, e0]
    have := h h' t' k F' N'
    simpa only [Str.append_assoc] using this
theorem str_tupN {sh : PySem.Str} (B : Below A₀ base outer h₀) (F : Fr h₀ L s.heap m) (X₀ : (hd.heap_39 w.params).In h₀) (N : News h₀ L s.heap news) (T : Top p loose mean mg mb h₀) (hroom : dp < 900) (hu : u < 1000)
    (hx : (x, excOf 84 dx tu) ∈ news) (hdx : (dx, dictOf (defDict w.params t1 t2 v (.ref l)) n) ∈ news) (hl : (l, (⟨.type "tuple", none, .seq us.toArray c, #[]⟩ : Obj)) ∈ news) (S : StrsAre us xs) (Tt : Tx sh xs) (h1 : xs.length ≠ 1) (hsz : sh.length ≤ 1000)
    (h : ∀ h' t' k, Fr h₀ L h' m → News h₀ L h' news → Q (.str ((((words ++ PySem.Str.ofString "(") ++ sh) ++ PySem.Str.ofString "") ++ PySem.Str.ofString ")") t') { s with heap := h', toks := k }) :
    wpAny (model prg w) (AL hd0 dp (envOf nm { kind := ScopeKind.function, names := nms, isGenerator := false, isCoroutine := false } L fa cd) outer (some []) u) (call (.type "str") [.ref x]) Q E s := by
  refine str_tupK B F X₀ N T hroom hu hx hdx hl S ?_ ?_
  · rw [Tt.tuple, if_neg h1, Str.length_append, Str.length_append]
    have e1 : (PySem.Str.ofString "(").length = 1 := by decide
    have e2 : (PySem.Str.ofString ")").length = 1 := by decide
    omega
  · intro h' t' k F' N'
    rw [Tt.tuple, if_neg h1]
    have := h h' t' k F' N'
    rw [KFm.cat_t] at this
    simpa only [Str.append_assoc] using this
end
theorem put_np (P : Params) (t1 t2 t3 : Tok) (v np np' : Value) (n : Nat) : (putL sNp (PyData.keyHash P sNp) (.str sNp t3) np' (defDict P t1 t2 v np), putN sNp (defDict P t1 t2 v np) n) = (defDict P t1 t2 v np', n) := by rfl
section
variable {w : World} {A : Around} {E : Value → Shared → Prop} {s : Shared} {h₀ : Heap} {L : Addr} {m : Str → Option Value} {news news' : List (Addr × Obj)} {x dx tu : Addr} {v np np' : Value} {t1 t2 : Tok} {n : Nat} {Q : Unit → Shared → Prop} {cd : ClassData}
theorem set_npK (F : Fr h₀ L s.heap m) (X₀ : (hd.heap_39 w.params).In h₀) (N : News h₀ L s.heap news) (hx : (x, excOf 84 dx tu) ∈ news) (hdx : (dx, dictOf (defDict w.params t1 t2 v np) n) ∈ news)
    (hs : findIn (hd.heap_39 w.params) (.ref 84) "__setattr__" = some (some (.builtin "object.__setattr__"))) (hc : clsIn (hd.heap_39 w.params) 84 = some cd) (ho : overVal cd.mro = true) (ht : takerIn (hd.heap_39 w.params) 84 sNp = some none) (hh : cd.hasDict = true)
    (U : Upd dx (dictOf (defDict w.params t1 t2 v np) n) (dictOf (defDict w.params t1 t2 v np') n) news news')
    (h : ∀ h', Fr h₀ L h' m → News h₀ L h' news' → Q () { s with heap := h', toks := s.toks + 2 }) :
    wpAny (model prg w) A (setAttr (.ref x) sNp np') Q E s :=
  set_exc1K F X₀ N (inst_exc N hx hdx) hs hc ho ht hh rfl (put_np _ _ _ _ _ _ _ _) U (Nat.le_of_ble_eq_true rfl) h
end
theorem fm0 (k : Int) : 0 ≤ k.fmod 128 := Int.fmod_nonneg_of_pos k (by decide)
theorem fm1 (k : Int) : k.fmod 128 < 128 := Int.fmod_lt_of_pos k (by decide)
structure Inv (pre : List Int) (shown header : PySem.Str) (found : List PySem.Str) : Prop where
  head : header.length = pre.length
  few : found.length ≤ pre.length
  short : shown.length ≤ 8 * found.length
  text : Tx shown found
theorem inv0 : Inv [] (PySem.Str.ofString "") (PySem.Str.ofString "") [] := ⟨by decide, Nat.le_refl _, by decide, Tx.nil⟩
section
variable {pre : List Int} {shown header : PySem.Str} {found : List PySem.Str} {x c : Int}
theorem head_more (q1 : header.length = pre.length) : (header ++ chrS c).length = (pre ++ [x]).length := by
  rw [Str.length_append, List.length_append, q1]; rfl
theorem inv_same (q1 : header.length = pre.length) (q2 : found.length ≤ pre.length) (q3 : shown.length ≤ 8 * found.length) (q4 : Tx shown found) : Inv (pre ++ [x]) shown (header ++ chrS c) found :=
  ⟨head_more q1, by rw [List.length_append]; omega, q3, q4⟩
theorem inv_one (q1 : header.length = pre.length) (q2 : found.length ≤ pre.length) (q3 : shown.length ≤ 8 * found.length) (q4 : Tx shown found) (hn : found = []) (h0 : 0 ≤ c) (h1 : c < 33 ∨ c = 127) : Inv (pre ++ [x]) (shown ++ sgn c) (header ++ chrS c) (found ++ [chrS c]) := by
  have := sgn_short h0 (by omega)
  refine ⟨head_more q1, by rw [List.length_append, List.length_append]; simp only [List.length_cons, List.length_nil]; omega, ?_, q4.one hn h0 h1⟩
  rw [Str.length_append, List.length_append]; simp only [List.length_cons, List.length_nil]; omega
theorem inv_more (q1 : header.length = pre.length) (q2 : found.length ≤ pre.length) (q3 : shown.length ≤ 8 * found.length) (q4 : Tx shown found) (hn : ¬ found = []) (h0 : 0 ≤ c) (h1 : c < 33 ∨ c = 127) : Inv (pre ++ [x]) ((shown ++ PySem.Str.ofString ", ") ++ sgn c) (header ++ chrS c) (found ++ [chrS c]) := by
  have := sgn_short h0 (by omega)
  have e : (PySem.Str.ofString ", ").length = 2 := by decide
  refine ⟨head_more q1, by rw [List.length_append, List.length_append]; simp only [List.length_cons, List.length_nil]; omega, ?_, q4.more hn h0 h1⟩
  rw [Str.length_append, Str.length_append, List.length_append, e]; simp only [List.length_cons, List.length_nil]; omega
end
end Mine
local macro_rules | `(tactic| walk_at "call ref") => `(tactic| (k_here; (with_reducible show wpAny _ _ (call (Value.ref 93) _ _) _ _ _); k_dflt (refine' sign_call ?k1 ?k2 ?k3 ?k4 ?k5 ?k6 ?k7 ?k8 ?_; (case k1 => k_asm); (case k2 => k_asm); (case k3 => k_asm); (case k4 => k_asm); (case k5 => k_asm); (case k6 => exact Nat.le_of_ble_eq_true rfl); (case k7 => exact fm0 _); (case k8 => exact fm1 _); k_whole; intro h' t' k' F' N' lsg; (try k_sweep))))
local macro_rules | `(tactic| walk_at "call ref") => `(tactic| (k_here; (with_reducible show wpAny _ _ (call (Value.ref 84) [Value.ref _]) _ _ _); k_dflt (refine' mk_refK ?k1 ?k2 ?k3 ?k4 ?k5 ?k6 ?_; (case k1 => k_asm); (case k2 => k_asm); (case k3 => k_asm); (case k4 => k_asm); (case k5 => k_asm); (case k6 => exact Nat.le_of_ble_eq_true rfl); k_whole; intro x' dx' tu' h' t1' t2' n' tk' F' N' l1 l2 l3; (try k_lt l1); (try k_lt2 l2); (try k_lt2 l3); (try k_sweep))))
local macro_rules | `(tactic| walk_at "call ref") => `(tactic| (k_here; (with_reducible show wpAny _ _ (call (Value.ref 84) [Value.str _ _]) _ _ _); k_dflt (refine' mk_strK ?k1 ?k2 ?k3 ?k4 ?k5 ?k6 ?_; (case k1 => k_asm); (case k2 => k_asm); (case k3 => k_asm); (case k4 => k_asm); (case k5 => k_asm); (case k6 => exact Nat.le_of_ble_eq_true rfl); k_whole; intro x' dx' tu' h' t1' t2' n' tk' F' N' l1 l2 l3; (try k_lt l1); (try k_lt2 l2); (try k_lt2 l3); (try k_sweep))))
local macro_rules | `(tactic| walk_at "call type:str") => `(tactic| (k_here; (with_reducible show wpAny _ _ (call (Value.type "str") [Value.ref _]) _ _ _); k_dflt (refine' str_listK (xs := []) ?k1 ?k2 ?k3 ?k4 ?k5 ?k6 ?k7 ?k8 ?k9 ?k10 ?k11 ?k12 ?_; (case k1 => k_asm); (case k2 => k_asm); (case k3 => k_asm); (case k4 => k_asm); (case k5 => k_asm); (case k6 => exact Nat.le_of_ble_eq_true rfl); (case k7 => exact Nat.le_of_ble_eq_true rfl); (case k8 => k_mem); (case k9 => k_mem); (case k10 => k_mem); (case k11 => exact StrsAre.nil); (case k12 => decide); k_whole; intro h' t' k' F' N'; (try k_sweep))))
local macro_rules | `(tactic| walk_at "call type:str") => `(tactic| (k_here; (with_reducible show wpAny _ _ (call (Value.type "str") [Value.ref _]) _ _ _); k_dflt (refine' str_txK ?k1 ?k2 ?k3 ?k4 ?k5 ?k6 ?k7 ?k8 ?k9 ?k10 ?k11 ?kT ?k12 ?_; (case k1 => k_asm); (case k2 => k_asm); (case k3 => k_asm); (case k4 => k_asm); (case k5 => k_asm); (case k6 => exact Nat.le_of_ble_eq_true rfl); (case k7 => exact Nat.le_of_ble_eq_true rfl); (case k8 => k_mem); (case k9 => k_mem); (case k10 => k_mem); (case k11 => with_reducible assumption); (case kT => with_reducible assumption); (case k12 => omega); k_whole; intro h' t' k' F' N'; (try k_sweep))))
local macro_rules | `(tactic| walk_at "compareOp NotEq ref ref") => `(tactic| (k_here; (with_reducible show wpAny _ _ (compareOp CmpOp.NotEq (Value.ref _) (Value.ref _)) _ _ _); k_dflt (refine' ne_nilK ?k1 ?k2 ?k3 ?k4 ?k5 ?k6 ?_; (case k1 => k_asm); (case k2 => k_mem); (case k3 => k_mem); (case k4 => with_reducible assumption); (case k5 => exact Tx.ok (by with_reducible assumption)); (case k6 => exact Nat.le_of_ble_eq_true rfl); k_whole)))
local macro_rules | `(tactic| walk_at "call type:tuple") => `(tactic| (k_here; (with_reducible show wpAny _ _ (call (Value.type "tuple") [Value.ref _]) _ _ _); k_dflt (refine' tupleK ?k1 ?k2 ?k3 ?k4 ?_; (case k1 => k_asm); (case k2 => k_asm); (case k3 => k_mem); (case k4 => omega); k_whole; intro q' h' F' N' l1; (try k_lt l1); (try k_sweep))))
local macro_rules | `(tactic| walk_at "call type:str") => `(tactic| (k_here; (with_reducible show wpAny _ _ (call (Value.type "str") [Value.ref _]) _ _ _); k_dflt (refine' str_txP ?k1 ?k2 ?k3 ?k4 ?k5 ?k6 ?k7 ?k8 ?k9 ?k10 ?k11 ?kT ?k12 ?_; (case k1 => k_asm); (case k2 => k_asm); (case k3 => k_asm); (case k4 => k_asm); (case k5 => k_asm); (case k6 => exact Nat.le_of_ble_eq_true rfl); (case k7 => exact Nat.le_of_ble_eq_true rfl); (case k8 => k_mem); (case k9 => k_mem); (case k10 => k_mem); (case k11 => with_reducible assumption); (case kT => first | exact Tx.one (by with_reducible assumption) (by with_reducible assumption) (fm0 _) (by omega) | exact Tx.more (by with_reducible assumption) (by with_reducible assumption) (fm0 _) (by omega)); (case k12 => first | omega | ((have e9 : (PySem.Str.ofString ", ").length = 2 := by decide); omega)); k_whole; intro h' t' k' F' N'; (try k_sweep))))
local macro_rules | `(tactic| walk_at "call type:str") => `(tactic| (k_here; (with_reducible show wpAny _ _ (call (Value.type "str") [Value.ref _]) _ _ _); k_dflt (first | (refine' str_tup1 ?k1 ?k2 ?k3 ?k4 ?k5 ?k6 ?k7 ?k8 ?k9 ?k10 ?k11 ?kT ?kL ?k12 ?_; (case k1 => k_asm); (case k2 => k_asm); (case k3 => k_asm); (case k4 => k_asm); (case k5 => k_asm); (case k6 => exact Nat.le_of_ble_eq_true rfl); (case k7 => exact Nat.le_of_ble_eq_true rfl); (case k8 => k_mem); (case k9 => k_mem); (case k10 => k_mem); (case k11 => with_reducible assumption); (case kT => with_reducible assumption); (case kL => omega); (case k12 => omega); k_whole; intro h' t' k' F' N'; (try k_sweep)) | (refine' str_tupN ?k1 ?k2 ?k3 ?k4 ?k5 ?k6 ?k7 ?k8 ?k9 ?k10 ?k11 ?kT ?kL ?k12 ?_; (case k1 => k_asm); (case k2 => k_asm); (case k3 => k_asm); (case k4 => k_asm); (case k5 => k_asm); (case k6 => exact Nat.le_of_ble_eq_true rfl); (case k7 => exact Nat.le_of_ble_eq_true rfl); (case k8 => k_mem); (case k9 => k_mem); (case k10 => k_mem); (case k11 => with_reducible assumption); (case kT => with_reducible assumption); (case kL => omega); (case k12 => omega); k_whole; intro h' t' k' F' N'; (try k_sweep)))))
local macro_rules | `(tactic| walk_at "call type:str") => `(tactic| (k_here; (with_reducible show wpAny _ _ (call (Value.type "str") [Value.ref _]) _ _ _); k_dflt (refine' str_strK ?k1 ?k2 ?k3 ?k4 ?k5 ?k6 ?k7 ?k8 ?k9 ?k10 ?_; (case k1 => k_asm); (case k2 => k_asm); (case k3 => k_asm); (case k4 => k_asm); (case k5 => k_asm); (case k6 => exact Nat.le_of_ble_eq_true rfl); (case k7 => exact Nat.le_of_ble_eq_true rfl); (case k8 => k_mem); (case k9 => k_mem); (case k10 => omega); k_whole; intro h' t' k' F' N'; (try k_sweep))))
local macro_rules | `(tactic| k_inst) => `(tactic| first | (refine' inst_exc ?N ?h1 ?h2; (case N => k_asm); (case h1 => k_mem); (case h2 => k_mem)) | (refine' inst_exc0 ?N ?h1; (case N => k_asm); (case h1 => k_mem)))
local macro_rules | `(tactic| walk_at "setAttr ref") => `(tactic| (k_here; k_dflt (refine' set_npK ?k1 ?k2 ?k3 ?k4 ?k5 ?k6 ?k7 ?k8 ?k9 ?k10 ?k11 ?_; (case k1 => k_asm); (case k2 => k_asm); (case k3 => k_asm); (case k4 => k_mem); (case k5 => k_mem); (case k6 => k_is); (case k7 => k_is); (case k8 => rfl); (case k9 => k_is); (case k10 => rfl); (case k11 => k_upd); k_whole; intro h' F' N'; (try k_sweep))))
local macro_rules | `(tactic| walk_at "exec Assign") => `(tactic| (k_here; (with_reducible rename Inv _ _ _ _ => hI9); obtain ⟨q1, q2, q3, q4⟩ := hI9; walk_at "exec Assign"))
set_option maxHeartbeats 8000000 in
theorem PySem.Challenge.cw_dm0089_01_holds : PySem.Challenge.rw_dm0089_01.Holds := by
  refine hd ?_
  (k_with "pyIter ref" => k_state (fun pre shown header found => Inv pre shown header found) "shown" "header" "found$")
  (k_with "state" => first | exact inv0 | exact inv_same (by with_reducible assumption) (by with_reducible assumption) (by with_reducible assumption) (by with_reducible assumption) | exact inv_one (by with_reducible assumption) (by with_reducible assumption) (by with_reducible assumption) (by with_reducible assumption) (by with_reducible assumption) (fm0 _) (by omega) | exact inv_more (by with_reducible assumption) (by with_reducible assumption) (by with_reducible assumption) (by with_reducible assumption) (by with_reducible assumption) (fm0 _) (by omega))
  w_strict (k_go0; (all_goals try k_fold); k_steps; all_goals w_report)
end
