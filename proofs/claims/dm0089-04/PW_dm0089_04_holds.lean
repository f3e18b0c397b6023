import PyProof.Rows.All
import Wide.All
import OpenK.AllK
import Wide.FinOn
import KE.KTryDeepN
import KE.KSuperObj
import KE.KParD
import KE.KMulAny
import PySem.Challenge.RW_dm0089_04
set_option Elab.async false
set_option maxRecDepth 100000
set_option compiler.extract_closed false

-- part E0
section
open PySem PySem.W PySem.Calls PyProof.Rows Builtin
namespace Mine

abbrev tupOf (vs : List Value) : Obj := { cls := .type "tuple", data := .seq vs.toArray }
/-- a defect's object at birth: no dict yet -/
abbrev excOf0 (C tu : Addr) : Obj := { cls := .ref C, data := .fields #[.ref tu, .none, .none, .none, .bool false, .none] }
/-- a defect's object: class, dict, args -/
abbrev excOf (C dx tu : Addr) : Obj := { cls := .ref C, dict := some dx, data := .fields #[.ref tu, .none, .none, .none, .bool false, .none] }

structure MakesX (M : Model) (h : Heap) (C : Addr) : Prop where
  obj : ∃ oc od cd sl, h.get? C = some ⟨oc, od, .cls cd, sl⟩ ∧ cd.hasDel = false ∧ cd.mro.isEmpty = false
  isT : Looks M h (isType (.ref C)) true
  made : Looks M h (Bind.madeBy (.ref C)) (some "ValueError.__new__")
  base : Looks M h (Bind.staticBase (.ref C)) (.ref C)
  self : Looks M h (isSubtype (.ref C) (.ref C)) true
  val : Looks M h (isSubtype (.ref C) (.type "ValueError")) true
  nA : Looks M h (isSubtype (.ref C) (.type "AttributeError")) false
  nN : Looks M h (isSubtype (.ref C) (.type "NameError")) false
  call : Looks M h (specialOf (.ref C) "__call__") (some (.builtin "type.__call__"))
  typ : Looks M h (isInstance (.ref C) (.type "type")) true

section
variable {prog : Program} {w : World} {A : Around} {C : Addr} {R : Result → Shared → Prop} {h : Heap} {g : Array GenState} {d : Drawn} {t : Nat} {os : OsState}

theorem check_any_args (r : Value) (rest : List Value) (kw : List (Str × Value)) : Bind.checkArgs "ValueError.__new__" ⟨.any, "ValueError", "ValueError", .cls, [⟨"args", .varPos, false⟩, ⟨"kwargs", .varKw, false⟩]⟩ ⟨r :: rest, kw⟩ = pure () := by
  kernel_rfl
set_option maxHeartbeats 4000000 in
theorem new_X {rest : List Value} {kw : List (Str × Value)} (Y : MakesX (model prog w) h C)
    (hq : R (.ok (.ret (.ref (h.objs.size + 1)))) ⟨(h.push (tupOf rest)).push (excOf0 C h.objs.size), g, d, t, os⟩) (hrest : rest.length ≤ sizeLine) :
    codeAny (model prog w) A (.call (.builtin "ValueError.__new__") ⟨.ref C :: rest, kw⟩) R ⟨h, g, d, t, os⟩ := by
  obtain ⟨⟨oc, od, cd, sl, hC, e2, e4⟩, isT, made, base, self, val, nA, nN, call, typ⟩ := Y
  have F := PySem.F.excBase_ValueError
  refine codeAny_call_builtin_code (Code.quiet_builtin _ F.quiet) ?_
  simp only [checkBuiltinCall, F.newKind, F.newSplit, F.newRow]
  rw [check_any_args]
  repeat (first | simp only [bne_self_eq_false, Bool.false_eq_true, if_false] | lk)
  refine codeAny_builtinAt F.entry ?_
  unfold Builtin.«BaseException.__new__»
  refine PySem.wpAt_bind ?_
  show PySem.wpAt _ _ _ (stack >>= _) _ _ _
  refine PySem.wpAt_bind (PySem.wpAt_stack fun p below => PySem.wpAt_of_wpAny ?_)
  have hends := F.ends
  wp_walk
  refine PySem.wpAt_of_wpAny ?_
  rw [F.owner]
  have here : Looks (model prog w) h (Bind.madeHere "BaseException.__new__" (.ref C)) () := base.andThen (made.andThen (Looks.of_pure (by simp only [Option.map_some, F.canon, bne_self_eq_false, Bool.false_eq_true, if_false])))
  repeat (first | simp only [Bool.not_true, Bool.false_eq_true, if_false] | lk)
  rw [if_neg (by rw [List.size_toArray]; omega)]
  refine wpAny_bind (wpAny_alloc (wpAny_pure (wpAny_bind ?_)))
  show wpAny _ _ (newObjAsIs _ _ _) _ _ _
  unfold newObjAsIs classHasDel
  refine wpAny_bind (wpAny_alloc (wpAny_bind (wpAny_bind (wpAny_load (Heap.get?_push_of_some _ (Heap.get?_push_of_some _ hC)) (wpAny_pure ?_)))))
  rw [e2]
  refine wpAny_pure (wpAny_pure ?_)
  show R _ _
  rw [Heap.size_push]
  exact hq

set_option maxHeartbeats 4000000 in
theorem make_X {rest : List Value} {kw : List (Str × Value)} {init : Value} (Y : MakesX (model prog w) h C) (hi : Looks (model prog w) h (typeLookup (.ref C) "__init__") (some init))
    (hb : ∀ self, Looks (model prog w) h (bindSpecial init self) (init, [self])) (hrest : rest.length ≤ sizeLine)
    (hq : codeAny (model prog w) (A.under (.builtin "type.__call__" ⟨.ref C :: rest, kw⟩)) (.call init ⟨.ref (h.objs.size + 1) :: rest, kw⟩) (InitBack (h.objs.size + 1) R) ⟨(h.push (tupOf rest)).push (excOf0 C h.objs.size), g, d, t, os⟩) :
    codeAny (model prog w) A (.call (.ref C) ⟨rest, kw⟩) R ⟨h, g, d, t, os⟩ := by
  have Y' := Y
  obtain ⟨⟨oc, od, cd, sl, hC, e2, e4⟩, isT, made, base, self, val, nA, nN, call, typ⟩ := Y
  refine codeAny_of_tree ?_
  show wpAny _ _ (callAny (.ref C) _) _ _ _
  refine nd_load hC ?_
  show wpAny _ _ (callAny.viaDunder (.ref C) _) _ _ _
  unfold callAny.viaDunder
  refine wpAny_bind (call.at ?_)
  dsimp only
  rw [tc_bind]
  refine wpAny_bind (wpAny_pure (wpAny_bind (wpAny_pure ?_)))
  refine wpAny_pure (a := Fin.again (.call (.builtin "type.__call__") ⟨.ref C :: rest, kw⟩)) (And.intro rfl ?_)
  refine codeAny_call_builtin_at (Code.quiet_builtin _ (by decide +kernel)) entry_typeCall (check_slot tc_kind tc_split typ (tc_args _ _ _) ?_)
  unfold Builtin.«type.__call__»
  have hm : Looks (model prog w) h (mroOf (.ref C)) cd.mro := ((Looks.ld (part := none) hC).andThen .now).andThen .now
  repeat (first | simp only [e4, Bool.false_eq_true, if_false] | with_reducible refine wpAny_call ?_ | lk)
  refine new_X Y' ?_ hrest
  have k : ∀ b o, h.get? b = some o → ((h.push (tupOf rest)).push (excOf0 C h.objs.size)).get? b = some o := fun b o e => Heap.get?_push_of_some _ (Heap.get?_push_of_some _ e)
  have hx : ((h.push (tupOf rest)).push (excOf0 C h.objs.size)).get? (h.objs.size + 1) = some (excOf0 C h.objs.size) := by heap_get
  have t1 : Looks (model prog w) ((h.push (tupOf rest)).push (excOf0 C h.objs.size)) (typeOf (.ref (h.objs.size + 1))) (.ref C) := (Looks.ld hx).andThen .now
  have s1 := self.keeps k
  have i1 := hi.keeps k
  have b1 := (hb (.ref (h.objs.size + 1))).keeps k
  unfold isInstance callSpecial? specialOf
  repeat (first | with_reducible refine wpAny_call ?_ | lk)
  refine codeAny_mono hq fun r s' z => ?_
  rcases r with e | (v | _ | _ | _) <;> first | exact z | exact z.elim | skip
  obtain ⟨rfl, z⟩ := z
  exact wpAny_pure (wpAny_pure z)
end
end Mine
end

-- part E1
section
open PySem PySem.W PySem.Calls PyProof.Rows Builtin Builtin.ObjectAttr
namespace Mine

theorem bga_slot : Slot "BaseException" "__getattribute__" "BaseException.__getattribute__" := .of (owner := "BaseException") (n := "__getattribute__") (by rw [typeLookup_type, builtinLookup_eq_fast]; kernel_rfl) (by decide +kernel) (by decide +kernel) (by decide +kernel)
  (by first | exact .inl (by decide +kernel) | exact .inr (by decide +kernel)) (by rw [isSubtype_type]; kernel_rfl)
theorem bga_entry : entryFor table "BaseException.__getattribute__" = some Builtin.«object.__getattribute__» := entryFor_alias (id' := "object.__getattribute__") (by rw [fastTable_eq_tree]; kernel_rfl) (by first | rfl | decide +kernel) (by decide +kernel) (by rw [fastTable_eq_tree]; kernel_rfl)
theorem bga_kind : builtinKind "BaseException.__getattribute__" = some .slot := by decide +kernel
theorem bga_split : splitId "BaseException.__getattribute__" = some ("BaseException", "__getattribute__") := by decide +kernel
theorem bga_args (o a : Value) : argsOk "BaseException.__getattribute__" ⟨[o, a], []⟩ := by unfold argsOk; kernel_rfl

section
variable {prog : Program} {w : World} {A : Around} {E : Value → Shared → Prop} {s : Shared} {K : Frag} {x C : Addr} {ox : Obj} {od : Option Obj} {name : Str} {expr : Bool} {Q : Value → Shared → Prop}

theorem get_excO (X : K.In s.heap) (I : InstAt s.heap x ox C od) (hga : findIn K (.ref C) "__getattribute__" = some (some (.builtin "BaseException.__getattribute__")))
    (hgn : findIn K (.ref C) "__getattr__" = some none) (sub : mroIn K C (.type "BaseException") = some true)
    (h : wpAny (model prog w) A.in1 (Builtin.«object.__getattribute__» ⟨[.ref x, .str name s.toks], []⟩)
      (fun fin s' => match fin with | .done (.ret v) => wpAny (model prog w) A (handedOut v) Q E s' | _ => False) (fun _ _ => False) { s with toks := s.toks + 1 }) :
    wpAny (model prog w) A (getAttr (.ref x) name expr) Q E s := by
  obtain ⟨hh, g, d, t, os⟩ := s
  have L0 := I.type (M := model prog w)
  have L1 := looks_findIn (M := model prog w) X hga
  have L2 := looks_findIn (M := model prog w) X hgn
  have L3 : Looks (model prog w) hh (isInstance (.ref x) (.type "BaseException")) true := L0.andThen (looks_mroIn X sub)
  unfold getAttr getAttrBy
  refine wpAny_bind (wpAny_mkText (wpAny_holding (wpAny_bind (L0.at (wpAny_bind (L1.at ?_))))))
  show wpAny _ _ (getAttrByItsOwn (.ref x) (.str name t) (.ref C) (.builtin "BaseException.__getattribute__") true expr) _ _ _
  unfold getAttrByItsOwn
  have hb : hookBefore (.ref C) = typeLookup (.ref C) "__getattr__" := rfl
  rw [hb]
  refine wpAny_bind (L2.at ?_)
  refine wpAny_bind (wpAny_attempt (wpAny_holding ?_))
  have e : callGetattribute (.ref x) (.str name t) (.builtin "BaseException.__getattribute__") expr = boundAndCalled (.builtin "BaseException.__getattribute__") (.ref x) (.str name t) := by
    unfold callGetattribute; cases expr <;> rfl
  rw [e]
  unfold boundAndCalled
  refine wpAny_bind (wpAny_of_eq (bga_slot.bind _) ?_)
  dsimp only [List.cons_append, List.nil_append]
  refine wpAny_call (codeAny_call_builtin bga_slot.plain bga_entry (@check_slot (model prog w) _ _ _ "BaseException.__getattribute__" "BaseException" "__getattribute__" (.ref x) [.str name t] [] _ bga_kind bga_split L3 (bga_args _ _) ?_))
  refine wpAny_mono h (fun fin s' z => ?_) fun _ _ z => z.elim
  rcases fin with (_ | _ | _ | v) | _ <;> first | exact z.elim | skip
  exact z

theorem get_excV {v : Value} (X : K.In s.heap) (I : InstAt s.heap x ox C od) (hga : findIn K (.ref C) "__getattribute__" = some (some (.builtin "BaseException.__getattribute__")))
    (hgn : findIn K (.ref C) "__getattr__" = some none) (sub : mroIn K C (.type "BaseException") = some true) (hf : findObj K C od name = some (.value v)) (hh : handedIn v = true)
    (h : Q v { s with toks := s.toks + 1 }) : wpAny (model prog w) A (getAttr (.ref x) name expr) Q E s := by
  refine get_excO X I hga hgn sub ?_
  obtain ⟨hh', g, d, t, os⟩ := s
  have L0 := I.type (M := model prog w)
  have L1 := looks_find (M := model prog w) X I hf
  refine wpAny_bind (wpAny_pure (wpAny_bind (wpAny_pure (wpAny_bind (L0.at (wpAny_bind (L1.at ?_)))))))
  refine wpAny_pure ?_
  show wpAny _ _ (handedOut v) _ _ _
  rw [handedOut_of hh]; exact wpAny_pure h
end

/-- own classes, then ValueError's line -/
def overVal : List Value → Bool
  | .ref _ :: r => overVal r
  | l => l == [.type "ValueError", .type "Exception", .type "BaseException", .type "object"]
theorem overVal_pass (self : Value) : ∀ {l : List Value}, overVal l = true → refuseLoop self "__setattr__" l = pure ()
  | .ref c :: r, e => by rw [refuseLoop_ref]; exact overVal_pass self (by simpa [overVal] using e)
  | [], e => by simp [overVal] at e
  | .type n :: r, e => by
    have : (Value.type n :: r) = [.type "ValueError", .type "Exception", .type "BaseException", .type "object"] := by simpa [overVal] using e
    rw [this]; exact PySem.F.store_ValueError.passes self
  | .none :: r, e => by simp [overVal] at e
  | .ellipsis :: r, e => by simp [overVal] at e
  | .notImplemented :: r, e => by simp [overVal] at e
  | .bool _ :: r, e => by simp [overVal] at e
  | .int _ _ :: r, e => by simp [overVal] at e
  | .float _ _ :: r, e => by simp [overVal] at e
  | .str _ _ :: r, e => by simp [overVal] at e
  | .bytes _ _ :: r, e => by simp [overVal] at e
  | .builtin _ :: r, e => by simp [overVal] at e
theorem overVal_has : ∀ {l : List Value}, overVal l = true → l.contains (.type "object") = true
  | .ref c :: r, e => by rw [List.contains_cons, overVal_has (l := r) (by simpa [overVal] using e), Bool.or_true]
  | [], e => by simp [overVal] at e
  | .type n :: r, e => by
    have : (Value.type n :: r) = [.type "ValueError", .type "Exception", .type "BaseException", .type "object"] := by simpa [overVal] using e
    rw [this]; decide
  | .none :: r, e => by simp [overVal] at e
  | .ellipsis :: r, e => by simp [overVal] at e
  | .notImplemented :: r, e => by simp [overVal] at e
  | .bool _ :: r, e => by simp [overVal] at e
  | .int _ _ :: r, e => by simp [overVal] at e
  | .float _ _ :: r, e => by simp [overVal] at e
  | .str _ _ :: r, e => by simp [overVal] at e
  | .bytes _ _ :: r, e => by simp [overVal] at e
  | .builtin _ :: r, e => by simp [overVal] at e

section
variable {prog : Program} {w : World} {A : Around} {K : Frag} {C x : Addr} {s : Shared} {R : Result → Shared → Prop}
theorem osa_openX {ox : Obj} {od : Option Obj} {name : Str} {tk : Tok} {v : Value} {r : Option Value} {cd : ClassData} (X : K.In s.heap) (I : InstAt s.heap x ox C od) (hc : clsIn K C = some cd) (ho : overVal cd.mro = true) (ht : takerIn K C name = some r)
    (h : ∀ b, wpAny (model prog w) A.in1 (match r with | some a => setByDescriptor a (.ref x) v | none => storeInOwnDict (.ref x) (.ref C) (.str name tk) name v b)
      (fun fin s' => match fin with | .done f => R (.ok f) s' | .again c' => c'.quiet = true ∧ codeAny (model prog w) A c' R s') (fun e s' => R (.error e) s') s) :
    codeAny (model prog w) A (.call (.builtin "object.__setattr__") ⟨[.ref x, .str name tk, v], []⟩) R s := by
  have SF := PySem.F.store_object
  have ne : cd.mro.isEmpty = false := by cases q : cd.mro with | nil => rw [q] at ho; cases ho | cons _ _ => rfl
  have sub : Looks (model prog w) s.heap (isInstance (.ref x) (.type "object")) true := I.type.andThen (looks_mroIn X (by unfold mroIn; rw [hc, Option.bind_some, if_neg (by rw [ne]; decide), overVal_has ho]))
  refine codeAny_call_builtin SF.slot.plain SF.entry (@check_slot (model prog w) _ _ s "object.__setattr__" "object" "__setattr__" (.ref x) [.str name tk, v] [] _ SF.kind SF.split sub (SF.args (.ref x) (.str name tk) v) ?_)
  obtain ⟨attr, ha, hr⟩ := Option.bind_eq_some_iff.mp ht
  have hm : Looks (model prog w) s.heap (mroOf (.ref C)) cd.mro := (looks_clsIn X hc).andThen .now
  have L3 : Looks (model prog w) s.heap (storeTaker? attr) r := by
    cases attr with
    | none => cases hr; exact .now
    | some a =>
      obtain ⟨b, hb, rfl⟩ := Option.map_eq_some_iff.mp hr
      refine (looks_takesIn X hb).andThen ?_
      cases b <;> exact .now
  rw [osa_eq, refuse_eq]
  refine wpAny_bind (wpAny_bind (I.type.here (wpAny_bind (hm.here ?_))))
  rw [overVal_pass _ ho]
  refine wpAny_pure (wpAny_bind (I.type.here (wpAny_bind ((looks_findIn X ha).here (wpAny_bind (L3.here ?_))))))
  exact h _
end
end Mine
end

-- part E2
section
open PySem PySem.W PySem.Calls PyProof.Rows Builtin Builtin.ObjectAttr
namespace Mine
section
variable {prog : Program} {w : World} {A : Around} {K : Frag} {C x : Addr} {s : Shared} {R : Result → Shared → Prop}

theorem storeInDict_ok {dx : Addr} {es es' : List DictEntry} {n n' : Nat} {name : Str} {tk : Tok} {v : Value} {E : Value → Shared → Prop} {Q : Fin → Shared → Prop}
    (D : s.heap.get? dx = some (dictOf es n)) (hl : (getL name es).isSome = true)
    (e : (putL name (PyData.keyHash w.params name) (.str name s.toks) v es, putN name es n) = (es', n')) (hz : es'.length ≤ 1000)
    (h : ∀ h', h'.get? dx = some (dictOf es' n') → Heap.SameBut dx s.heap h' → Q (.done (.ret .none)) { s with heap := h', toks := s.toks + 1 }) :
    wpAny (model prog w) A (storeInDict dx (.str name tk) name v) Q E s := by
  obtain ⟨e1, e2⟩ := Prod.mk.inj e
  have ge : (s.heap.update dx (Obj.putName name (PyData.keyHash w.params name) (.str name s.toks) v)).get? dx = some (dictOf es' n') := by
    have z := putName_dict name (PyData.keyHash w.params name) (.str name s.toks) v es n
    rw [e1, e2] at z
    rw [Heap.get?_update_self _ D (by rw [z]; rfl), z]
  unfold storeInDict
  refine wpAny_bind (wpAny_pure (wpAny_bind ?_))
  unfold nsSet
  refine wpAny_bind (wpAny_bind (wpAny_askSetting (wpAny_pure (wpAny_bind (wpAny_mkText (wpAny_bind (wpAny_loadPart D ?_)))))))
  dsimp only
  have c : (!es.toArray.any (·.key.isStr name) && es.toArray.any (·.refKey)) = false := by
    rw [← Array.any_toList, ← Array.any_toList]
    unfold getL at hl
    split at hl
    · rename_i en he
      rw [List.any_eq_true.mpr ⟨en, List.mem_of_find?_eq_some he, List.find?_some he⟩]; rfl
    · split at hl
      · cases hl
      · rename_i z; rw [Bool.not_eq_true] at z; rw [z, Bool.and_false]
  rw [aRefKeyMayBeTheName_at, c]
  refine wpAny_updatePart D ?_
  refine wpAny_bind (wpAny_lookBehind ge (pastItsLine_dict (by rw [List.size_toArray, sizeLine_eq]; omega)) ?_)
  exact wpAny_pure (h _ ge (Heap.SameBut.update ..))

theorem set_exc1 {dx : Addr} {ox : Obj} {es es' : List DictEntry} {n n' : Nat} {name : Str} {v : Value} {cd : ClassData} {E : Value → Shared → Prop} {Q : Unit → Shared → Prop}
    (X : K.In s.heap) (I : InstAt s.heap x ox C (some (dictOf es n))) (hd : ox.dict = some dx)
    (hs : findIn K (.ref C) "__setattr__" = some (some (.builtin "object.__setattr__"))) (hc : clsIn K C = some cd) (ho : overVal cd.mro = true) (ht : takerIn K C name = some none) (hh : cd.hasDict = true)
    (hl : (getL name es).isSome = true) (e : (putL name (PyData.keyHash w.params name) (.str name (s.toks + 1)) v es, putN name es n) = (es', n')) (hz : es'.length ≤ 1000)
    (h : ∀ h', h'.get? dx = some (dictOf es' n') → Heap.SameBut dx s.heap h' → Q () { s with heap := h', toks := s.toks + 2 }) :
    wpAny (model prog w) A (setAttr (.ref x) name v) Q E s := by
  refine set_plain X I hs (osa_openX (s := { s with toks := s.toks + 1 }) X I hc ho ht fun b => ?_)
  obtain ⟨hx, hcl, hn, D⟩ := I
  obtain ⟨oc, odi, oda, osl⟩ := ox
  dsimp only at hcl hd
  subst hcl hd
  have D : s.heap.get? dx = some (dictOf es n) := D
  unfold storeInOwnDict
  refine wpAny_bind (wpAny_pure (wpAny_bind (wpAny_bind (wpAny_loadPart hx (wpAny_bind ((looks_clsIn (M := model prog w) X hc) _ _ _ _ (fun _ _ e => e) ?_))))))
  rw [hh]
  refine wpAny_pure (a := some dx) ?_
  dsimp only
  refine storeInDict_ok (s := { s with toks := s.toks + 1 }) D hl e hz fun h' g1 g2 => ?_
  exact h h' g1 g2

theorem set_exc0 {ox : Obj} {name : Str} {v : Value} {cd : ClassData} {E : Value → Shared → Prop} {Q : Unit → Shared → Prop}
    (X : K.In s.heap) (I : InstAt s.heap x ox C none)
    (hs : findIn K (.ref C) "__setattr__" = some (some (.builtin "object.__setattr__"))) (hc : clsIn K C = some cd) (ho : overVal cd.mro = true) (ht : takerIn K C name = some none) (hh : cd.hasDict = true)
    (hf : ox.isFreed = false)
    (h : ∀ h', h'.get? x = some { ox with dict := some s.heap.objs.size } → h'.get? s.heap.objs.size = some (dictOf [⟨PyData.keyHash w.params name, .str name (s.toks + 1), v⟩] 1) →
      (∀ b o, b ≠ x → s.heap.get? b = some o → h'.get? b = some o) → Q () { s with heap := h', toks := s.toks + 2 }) :
    wpAny (model prog w) A (setAttr (.ref x) name v) Q E s := by
  refine set_plain X I hs (osa_openX (s := { s with toks := s.toks + 1 }) X I hc ho ht fun b => ?_)
  obtain ⟨hx, hcl, hn, D⟩ := I
  obtain ⟨oc, odi, oda, osl⟩ := ox
  dsimp only at hcl hn D
  subst hcl
  cases odi with
  | some _ => exact D.elim
  | none =>
  have lt := Heap.lt_size hx
  unfold storeInOwnDict
  refine wpAny_bind (wpAny_pure (wpAny_bind (wpAny_bind (wpAny_loadPart hx (wpAny_bind ((looks_clsIn (M := model prog w) X hc) _ _ _ _ (fun _ _ e => e) ?_))))))
  rw [hh]
  have hx1 : (s.heap.push emptyDict).get? x = some ⟨.ref C, none, oda, osl⟩ := Heap.get?_push_of_some _ hx
  have hx2 : ((s.heap.push emptyDict).update x fun o => { o with dict := some s.heap.objs.size }).get? x = some ⟨.ref C, some s.heap.objs.size, oda, osl⟩ := by
    rw [Heap.get?_update_self _ hx1 (by cases oda <;> first | rfl | exact hf)]
  have hd2 : ((s.heap.push emptyDict).update x fun o => { o with dict := some s.heap.objs.size }).get? s.heap.objs.size = some (dictOf [] 0) := by
    rw [Heap.get?_update_other _ _ (Nat.ne_of_lt lt)]
    exact Heap.get?_push_size _ rfl
  have fin : wpAny (model prog w) A.in1 (do
      let d ← alloc { cls := .type "dict", data := .dict #[] }
      update x fun o => { o with dict := some d }
      dictMade (.ref C) x d) (fun a s' => wpAny (model prog w) A.in1 (match a with | some d => storeInDict d (.str name s.toks) name v | none => noDictFor (.ref x) (.ref C) name b)
        (fun fin s' => match fin with | .done f => (match (Except.ok f : Result) with | .ok (.ret _) => Q () s' | .ok _ => False | .error e => E e s') | .again c' => c'.quiet = true ∧ codeAny (model prog w) A c' (fun r s' => match r with | .ok (.ret _) => Q () s' | .ok _ => False | .error e => E e s') s') (fun e s' => E e s') s') (fun e s' => E e s') { s with toks := s.toks + 1 } := by
    refine wpAny_bind (wpAny_alloc (wpAny_bind (wpAny_update (s := { s with toks := s.toks + 1, heap := s.heap.push emptyDict }) hx1 ?_)))
    refine wpAny_pure (a := some s.heap.objs.size) ?_
    dsimp only
    refine storeInDict_ok (s := { s with toks := s.toks + 1, heap := (s.heap.push emptyDict).update x fun o => { o with dict := some s.heap.objs.size } }) hd2 rfl rfl (by simp [putL]) fun h' g1 g2 => ?_
    refine h h' ?_ g1 fun b' o hb e => ?_
    · rw [g2.2 x (Nat.ne_of_lt lt)]; exact hx2
    · rw [g2.2 b' (Nat.ne_of_lt (Heap.lt_size e)), Heap.get?_update_other _ _ (Ne.symm hb)]
      exact Heap.get?_push_of_some _ e
  cases oda <;> first | exact fin | exact Bool.noConfusion hn
end
end Mine
end

-- part E3
section
open PySem PySem.W PySem.Calls PyProof.Rows Builtin Builtin.ObjectAttr
namespace Mine
abbrev mwObj (f self : Value) : Obj := { cls := .type "method-wrapper", data := .fields #[f, self] }
theorem wdg_slot : Slot "wrapper_descriptor" "__get__" "wrapper_descriptor.__get__" := .of (owner := "wrapper_descriptor") (n := "__get__") (by rw [typeLookup_type, builtinLookup_eq_fast]; kernel_rfl) (by decide +kernel) (by decide +kernel) (by decide +kernel)
  (by first | exact .inl (by decide +kernel) | exact .inr (by decide +kernel)) (by rw [isSubtype_type]; kernel_rfl)
theorem wdg_entry : entryFor table "wrapper_descriptor.__get__" = some Builtin.«wrapper_descriptor.__get__» := entryFor_of_tree (by kernel_rfl)
theorem wdg_args (a b c : Value) : argsOk "wrapper_descriptor.__get__" ⟨[a, b, c], []⟩ := by unfold argsOk; kernel_rfl
theorem vi_type : typeOf (.builtin "ValueError.__init__") = pure (.type "wrapper_descriptor") := by kernel_rfl
section
variable {prog : Program} {w : World} {M : Model} {A : Around} {E : Value → Shared → Prop} {h : Heap} {g : Array GenState} {d : Drawn} {t : Nat} {os : OsState} {x C D so : Addr} {K : Frag}
theorem wdg_run {ox : Obj} {od : Option Obj} {Q : Fin → Shared → Prop} (I : InstAt h x ox C od) (hs : Looks (model prog w) h (isSubtype (.ref C) (.type "ValueError")) true)
   (hq : Q (.done (.ret (.ref h.objs.size))) ⟨h.push (mwObj (.builtin "ValueError.__init__") (.ref x)), g, d, t, os⟩) :
   wpAny (model prog w) A (Builtin.«wrapper_descriptor.__get__» ⟨[.builtin "ValueError.__init__", .ref x, .ref C], []⟩) Q E ⟨h, g, d, t, os⟩ := by
  obtain ⟨hx, hc, hn, hd⟩ := I
  unfold Builtin.«wrapper_descriptor.__get__»
  have hs' : Looks (model prog w) h (isSubtype (.ref C) (.type (".".intercalate ("ValueError.__init__".cutAt '.').dropLast))) true := by
    rw [show (".".intercalate ("ValueError.__init__".cutAt '.').dropLast) = "ValueError" from by decide +kernel]; exact hs
  obtain ⟨oc, odd, oda, osl⟩ := ox
  dsimp only at hc
  subst hc
  repeat lk
  exact hq

theorem super_gaB {ox : Obj} {od : Option Obj} {l₀ l : List Value} {name : Str} {tk : Tok} {Q : Fin → Shared → Prop}
    (hso : h.get? so = some { cls := .type "super", dict := none, data := .fields #[.ref D, .ref x, .ref C], slots := #[] }) (hno : Looks (model prog w) h (opaqueClassAbove (.ref C)) none)
    (hC : Looks (model prog w) h (mroOf (.ref C)) l₀) (hl : (l₀.dropWhile (· != .ref D)).drop 1 = l) (X : K.In h)
    (hf : alongIn K name l = some (some (.builtin "ValueError.__init__"))) (I : InstAt h x ox C od) (hs : Looks (model prog w) h (isSubtype (.ref C) (.type "ValueError")) true) (hxC : x ≠ C) (hn : (name == ("__class__" : Str)) = false)
    (hq : Q (.done (.ret (.ref h.objs.size))) ⟨h.push (mwObj (.builtin "ValueError.__init__") (.ref x)), g, d, t, os⟩) :
    wpAny (model prog w) A (Builtin.«super.__getattribute__» ⟨[.ref so, .str name tk], []⟩) Q E ⟨h, g, d, t, os⟩ := by
  have hlk := wdg_slot.lookup
  have hne : (Value.ref x == Value.ref C) = false := by simp [hxC]
  have hTf : (⟨h, g, d, t, os⟩ : Shared).TypeIs (.builtin "ValueError.__init__") "wrapper_descriptor" := by
    first | exact vi_type | exact ⟨_, vi_type⟩
  have hdt : ({ cls := .type "super", dict := none, data := .fields #[.ref D, .ref x, .ref C], slots := #[] } : Obj).data = .fields #[.ref D, .ref x, .ref C] := rfl
  have f0 : (#[.ref D, .ref x, .ref C] : Array Value)[0]? = some (.ref D) := rfl
  have f1 : (#[.ref D, .ref x, .ref C] : Array Value)[1]? = some (.ref x) := rfl
  have f2 : (#[.ref D, .ref x, .ref C] : Array Value)[2]? = some (.ref C) := rfl
  unfold Builtin.«super.__getattribute__»
  repeat (first
    | (with_reducible refine wpAny_field hso hdt f0 ?_) | (with_reducible refine wpAny_field hso hdt f1 ?_) | (with_reducible refine wpAny_field hso hdt f2 ?_)
    | (with_reducible refine ks_wpAny_notOpaque hno ?_)
    | (with_reducible refine Looks.at hC ?_; rw [hl])
    | (refine ks_forIn_along X (fun _ _ => rfl) rfl ?_ hf)
    | (with_reducible refine wpAny_typeOf hTf ?_)
    | (with_reducible refine wpAny_call_entry wdg_slot hTf wdg_entry ?_ (wdg_args _ _ _))
    | (with_reducible refine wdg_run I hs ?_)
    | (with_reducible refine ⟨_, rfl, ?_⟩)
    | (simp only [hn, hne, Bool.or_false, Bool.false_eq_true, if_false])
    | wp_step
    | dsimp only)
  all_goals exact hq

theorem getMethod_superB {ox : Obj} {od : Option Obj} {l₀ l : List Value} {name : Str} {pl : Sem Bool} {Q : Value × List Value → Shared → Prop}
    (hso : h.get? so = some { cls := .type "super", dict := none, data := .fields #[.ref D, .ref x, .ref C], slots := #[] }) (hno : Looks (model prog w) h (opaqueClassAbove (.ref C)) none)
    (hC : Looks (model prog w) h (mroOf (.ref C)) l₀) (hl : (l₀.dropWhile (· != .ref D)).drop 1 = l) (X : K.In h)
    (hf : alongIn K name l = some (some (.builtin "ValueError.__init__"))) (I : InstAt h x ox C od) (hs : Looks (model prog w) h (isSubtype (.ref C) (.type "ValueError")) true) (hxC : x ≠ C) (hn : (name == ("__class__" : Str)) = false)
    (hq : Q (.ref h.objs.size, []) ⟨h.push (mwObj (.builtin "ValueError.__init__") (.ref x)), g, d, t + 1, os⟩) :
    wpAny (model prog w) A (getMethod (.ref so) name pl) Q E ⟨h, g, d, t, os⟩ := by
  have hlk := PySem.F.ks_slot_super_ga.lookup
  have hcan := PySem.F.ks_canon_super_ga
  have hT : ∀ t', (⟨h, g, d, t', os⟩ : Shared).TypeIs (.ref so) "super" := fun _ => ⟨_, hso, rfl⟩
  unfold getMethod
  refine wpAny_bind (wpAny_specialOf (hT _) hlk ?_)
  show wpAny _ _ (if (Manifest.canonical "super.__getattribute__" != "object.__getattribute__") = true then _ else _) _ _ _
  rw [if_pos hcan]
  unfold getAttr getAttrBy
  refine wpAny_bind (wpAny_bind (wpAny_mkText (wpAny_holding (wpAny_bind (wpAny_typeOf (hT _) (wpAny_bind (wpAny_of_eq hlk ?_)))))))
  show wpAny _ _ (getAttrByItsOwn (.ref so) (.str name t) (.type "super") (.builtin "super.__getattribute__") true false) _ _ _
  unfold getAttrByItsOwn hookBefore callGetattribute boundAndCalled
  refine wpAny_bind (wpAny_of_eq (show (if onTheHeap (.type "super") then typeLookup (.type "super") "__getattr__" else pure none) = pure none from rfl) ?_)
  refine wpAny_bind (wpAny_attempt (wpAny_holding ?_))
  show wpAny _ _ (bindSpecial (.builtin "super.__getattribute__") (.ref so) >>= _) _ _ _
  refine wpAny_bind (wpAny_of_eq (PySem.F.ks_slot_super_ga.bind _) ?_)
  refine wpAny_mono (Q := fun v s' => v = .ref h.objs.size ∧ s' = ⟨h.push (mwObj (.builtin "ValueError.__init__") (.ref x)), g, d, t + 1, os⟩) (E := fun _ _ => False)
    (wpAny_call_entry PySem.F.ks_slot_super_ga (hT _) PySem.F.ks_entry_super_ga (super_gaB hso hno hC hl X hf I hs hxC hn ⟨_, rfl, rfl, rfl⟩) (PySem.F.ks_gaArgs_super _ _)) (fun v s' hv => ?_) fun _ _ z => z.elim
  obtain ⟨rfl, rfl⟩ := hv
  exact wpAny_pure (wpAny_pure hq)
end

section
variable {prog : Program} {w : World} {A : Around} {E : Value → Shared → Prop} {s : Shared} {h₀ : Heap} {L : Addr} {m : Str → Option Value} {news news' : List (Addr × Obj)} {K : Frag} {x C D so q : Addr} {ox : Obj} {odx : Option Obj}
theorem methodB {name : Str} {pl : Sem Bool} {Q : Value × List Value → Shared → Prop} (F : Fr h₀ L s.heap m) (X₀ : K.In h₀) (N : News h₀ L s.heap news) (hso : (so, ks_superObj D x C) ∈ news) (I : InstAt s.heap x ox C odx) (ho : nsIn K cStatics "thirdparty.any" = some none)
    (hm : ks_superIn K C D name = some (some (.builtin "ValueError.__init__"))) (hsub : mroIn K C (.type "ValueError") = some true) (hn : (name == ("__class__" : Str)) = false)
    (h : ∀ q h', Fr h₀ L h' m → News h₀ L h' ((q, mwObj (.builtin "ValueError.__init__") (.ref x)) :: news) → (∀ p ∈ news, p.1 < q) → Q (.ref q, []) { s with heap := h', toks := s.toks + 1 }) : wpAny (model prog w) A (getMethod (.ref so) name pl) Q E s := by
  have X : K.In s.heap := X₀.keeps F.keep
  obtain ⟨hh, g, d, t, os⟩ := s
  cases hc : clsIn K C with
  | none => unfold ks_superIn at hm; rw [hc] at hm; cases hm
  | some cd =>
    unfold ks_superIn at hm
    rw [hc] at hm
    refine getMethod_superB (N _ hso).1 (looks_opaque X ho) (l₀ := cd.mro) ?_ rfl X hm I (looks_mroIn X hsub) (ks_ne X I hc) hn ?_
    · exact fun A Q E s k q => wpAny_bind ((looks_clsIn X hc) A _ E s k (wpAny_pure q))
    · obtain ⟨F', N', l'⟩ := ks_newsPush (s := ⟨hh, g, d, t, os⟩) (o := mwObj (.builtin "ValueError.__init__") (.ref x)) F N rfl (Heap.get?_push_at rfl rfl) (fun b o e => Heap.get?_push_of_some _ e)
      exact h _ _ F' N' l'

theorem bexc_init {rest : List Value} {Q : Fin → Shared → Prop} {tu : Addr} {dct : Option Addr} (he : s.heap.get? x = some ⟨.ref C, dct, .fields #[.ref tu, .none, .none, .none, .bool false, .none], #[]⟩) (hr : rest.length ≤ 1000)
    (h : ∀ h', h'.get? x = some ⟨.ref C, dct, .fields #[.ref s.heap.objs.size, .none, .none, .none, .bool false, .none], #[]⟩ → h'.get? s.heap.objs.size = some (tupOf rest) →
      (∀ b o, b ≠ x → s.heap.get? b = some o → h'.get? b = some o) → Q (.done (.ret .none)) { s with heap := h' }) :
    wpAny (model prog w) A (Builtin.«BaseException.__init__» ⟨.ref x :: rest, []⟩) Q E s := by
  unfold Builtin.«BaseException.__init__»
  dsimp only
  rw [if_neg (by simp)]
  unfold newTuple Builtin.BaseException.bexcPut
  have he₁ := Heap.get?_push_of_some (h := s.heap) (tupOf rest) he
  refine wpAny_bind (wpAny_newObj_type (wpAny_bind (wpAny_bind (wpAny_field (i := 0) he₁ rfl rfl (wpAny_bind (wpAny_setField (i := 0) he₁ rfl (by show 0 < 6; decide) ?_))))) (by show rest.toArray.size ≤ sizeLine; rw [List.size_toArray, sizeLine_eq]; omega))
  refine wpAny_letGo (wpAny_pure (h _ ?_ ?_ ?_))
  · rw [Heap.get?_update_self _ he₁ rfl]; rfl
  · rw [Heap.get?_update_other _ _ (Nat.ne_of_lt (Heap.lt_size he))]
    exact Heap.get?_push_size _ rfl
  · intro b o hb e
    rw [Heap.get?_update_other _ _ (Ne.symm hb)]
    exact Heap.get?_push_of_some _ e

theorem vi_bound {rest : List Value} {Q : Unit → Shared → Prop} {oc : Value} {od odx : Option Addr} {cd : ClassData} {sl slx : Array (Option Value)} {dt : Data} {h : Heap} {g : Array GenState} {d : Drawn} {t : Nat} {os : OsState}
    (he : h.get? x = some ⟨.ref C, odx, dt, slx⟩) (hC : h.get? C = some ⟨oc, od, .cls cd, sl⟩) (hq : Q () ⟨h, g, d, t, os⟩) :
    wpAny (model prog w) A (checkBoundCall "ValueError.__init__" ⟨.ref x :: rest, []⟩) Q E ⟨h, g, d, t, os⟩ := by
  have F := PySem.F.excBase_ValueError
  have hshort := F.noStar
  simp only [checkBoundCall, F.initKind, F.initRow]
  repeat lk
  rw [if_neg (by rw [Bool.and_eq_true]; rintro ⟨_, hh⟩; exact absurd hh (by decide))]
  repeat lk
  exact hq

theorem call_mw {rest : List Value} {Q : Value → Shared → Prop} {tu : Addr} {dct : Option Addr} {cd : ClassData} (X : K.In s.heap) (hc : clsIn K C = some cd) (hq : s.heap.get? q = some (mwObj (.builtin "ValueError.__init__") (.ref x)))
    (he : s.heap.get? x = some ⟨.ref C, dct, .fields #[.ref tu, .none, .none, .none, .bool false, .none], #[]⟩) (hr : rest.length ≤ 1000)
    (h : ∀ h', h'.get? x = some ⟨.ref C, dct, .fields #[.ref s.heap.objs.size, .none, .none, .none, .bool false, .none], #[]⟩ → h'.get? s.heap.objs.size = some (tupOf rest) →
      (∀ b o, b ≠ x → s.heap.get? b = some o → h'.get? b = some o) → Q .none { s with heap := h' }) :
    wpAny (model prog w) A (call (.ref q) rest) Q E s := by
  obtain ⟨oc, od, sl, hC⟩ : ∃ oc od sl, s.heap.get? C = some ⟨oc, od, .cls cd, sl⟩ := by
    unfold clsIn at hc
    split at hc
    · rename_i c d cd' sl ho
      cases hc
      exact ⟨_, _, _, X _ _ ho⟩
    · cases hc
  refine wpAny_call (codeAny_of_tree ?_)
  show wpAny _ A.in1 (callAny (.ref q) ⟨rest, []⟩) _ _ _
  unfold callAny
  refine wpAny_bind (wpAny_load hq ?_)
  show wpAny _ _ (checkBoundCall "ValueError.__init__" ⟨.ref x :: rest, []⟩ >>= fun _ => again (.builtin "ValueError.__init__" ⟨.ref x :: rest, []⟩)) _ _ _
  obtain ⟨hh, g, d, t, os⟩ := s
  refine wpAny_bind (vi_bound he hC (wpAny_pure ⟨Code.quiet_builtin _ (by decide +kernel), codeAny_builtin PySem.F.excBase_ValueError.initEntry ?_⟩))
  exact bexc_init (s := ⟨hh, g, d, t, os⟩) he hr h
end
end Mine
end

-- part E4
section
open PySem PySem.W PySem.Calls PyProof.Rows Builtin Builtin.ObjectAttr
namespace Mine
section
variable {prog : Program} {w : World} {A : Around} {E : Value → Shared → Prop} {s : Shared} {h₀ : Heap} {L : Addr} {m : Str → Option Value} {news news' : List (Addr × Obj)} {K : Frag} {x C D so q tu dx : Addr} {o o' ox : Obj} {odx : Option Obj}

theorem upd_ground {h h' : Heap} (F : Fr h₀ L h m) (N : News h₀ L h news) (U : Upd x o o' news news') (gx : h'.get? x = some o') (k : ∀ b o, b ≠ x → h.get? b = some o → h'.get? b = some o) :
    Fr h₀ L h' m ∧ News h₀ L h' news' := by
  obtain ⟨pre, post, rfl, rfl, a, b⟩ := U.split
  have hx := N (x, o) (by simp)
  obtain ⟨oL, es, ep, hL, r⟩ := F.ns
  refine ⟨⟨⟨oL, es, ep, k _ _ (Ne.symm hx.2.1) hL, r⟩, fun b o e => k b o ?_ (F.keep b o e), F.above⟩, fun p hp => ?_⟩
  · rintro rfl
    rw [hx.2.2] at e
    cases e
  · rcases List.mem_append.mp hp with hp | hp
    · have z := N p (List.mem_append.mpr (.inl hp))
      exact ⟨k _ _ (a p hp) z.1, z.2⟩
    · rcases List.mem_cons.mp hp with rfl | hp
      · exact ⟨gx, hx.2⟩
      · have z := N p (List.mem_append.mpr (.inr (.tail _ hp)))
        exact ⟨k _ _ (b p hp) z.1, z.2⟩

theorem more_ground {h h' : Heap} (F : Fr h₀ L h m) (N : News h₀ L h news) (F' : Fr h₀ L h' m) (N' : News h₀ L h' news') (hq : q = h.objs.size) (ho : h'.get? q = some o) :
    News h₀ L h' ((q, o) :: news') ∧ ∀ p ∈ news, p.1 < q := by
  subst hq
  obtain ⟨oL, es, ep, hL, r⟩ := F.ns
  refine ⟨fun p hp => ?_, fun p hp => Heap.lt_size (N p hp).1⟩
  rcases List.mem_cons.mp hp with rfl | hp
  · refine ⟨ho, fun q => ?_, ?_⟩
    · exact absurd (Heap.lt_size hL) (by rw [← q]; exact Nat.lt_irrefl _)
    · cases z : h₀.get? h.objs.size with
      | none => rfl
      | some o => exact absurd (Heap.lt_size (F.keep _ _ z)) (Nat.lt_irrefl _)
  · exact N' p hp

theorem call_excK {Q : Value → Shared → Prop} {pos : List Value} {kw : List (Str × Value)} {fI : Addr} (F : Fr h₀ L s.heap m) (X₀ : K.In h₀) (N : News h₀ L s.heap news) (hm : ∀ h, K.In h → MakesX (model prog w) h C)
    (hi : findIn K (.ref C) "__init__" = some (some (.ref fI))) (hf : isFn K (.ref fI) = true) (hp : pos.length ≤ 1000)
    (h : ∀ x tu h', Fr h₀ L h' m → News h₀ L h' ((x, excOf0 C tu) :: (tu, tupOf pos) :: news) → (∀ p ∈ news, p.1 < tu) → tu < x →
      codeAny (model prog w) (A.under (.builtin "type.__call__" ⟨.ref C :: pos, kw⟩)) (.call (.ref fI) ⟨.ref x :: pos, kw⟩) (InitBack x fun r s' => match r with | .ok (.ret v) => Q v s' | .ok _ => False | .error e => E e s') { s with heap := h' }) :
    wpAny (model prog w) A (call (.ref C) pos kw) Q E s := by
  have X : K.In s.heap := X₀.keeps F.keep
  obtain ⟨hh, g, d, t, os⟩ := s
  refine wpAny_call (make_X (hm _ X) (looks_findIn X hi) (fun self => bind_fn X self (beq_iff_eq.mp hf)) (by rw [sizeLine_eq]; omega) (h _ hh.objs.size _ ((F.push _).push _) ?_ (fun p hp => Heap.lt_size (N p hp).1) (Nat.lt_succ_self _)))
  have := (N.push F (tupOf pos)).push (F.push _) (excOf0 C hh.objs.size)
  rwa [Heap.size_push] at this

theorem set_exc0K {name : Str} {v : Value} {cd : ClassData} {Q : Unit → Shared → Prop} (F : Fr h₀ L s.heap m) (X₀ : K.In h₀) (N : News h₀ L s.heap news) (I : InstAt s.heap x (excOf0 C tu) C none)
    (hs : findIn K (.ref C) "__setattr__" = some (some (.builtin "object.__setattr__"))) (hc : clsIn K C = some cd) (ho : overVal cd.mro = true) (ht : takerIn K C name = some none) (hh : cd.hasDict = true)
    (U : Upd x (excOf0 C tu) (excOf C s.heap.objs.size tu) news news')
    (h : ∀ h', Fr h₀ L h' m → News h₀ L h' ((s.heap.objs.size, dictOf [⟨PyData.keyHash w.params name, .str name (s.toks + 1), v⟩] 1) :: news') → (∀ p ∈ news, p.1 < s.heap.objs.size) → Q () { s with heap := h', toks := s.toks + 2 }) :
    wpAny (model prog w) A (setAttr (.ref x) name v) Q E s := by
  refine set_exc0 (X₀.keeps F.keep) I hs hc ho ht hh rfl fun h' g1 g2 k => ?_
  obtain ⟨F', N'⟩ := upd_ground F N U g1 k
  obtain ⟨N2, l⟩ := more_ground F N F' N' rfl g2
  exact h h' F' N2 l

theorem set_exc1K {name : Str} {v : Value} {cd : ClassData} {Q : Unit → Shared → Prop} {es es' : List DictEntry} {n n' : Nat} (F : Fr h₀ L s.heap m) (X₀ : K.In h₀) (N : News h₀ L s.heap news) (I : InstAt s.heap x (excOf C dx tu) C (some (dictOf es n)))
    (hs : findIn K (.ref C) "__setattr__" = some (some (.builtin "object.__setattr__"))) (hc : clsIn K C = some cd) (ho : overVal cd.mro = true) (ht : takerIn K C name = some none) (hh : cd.hasDict = true)
    (hl : (getL name es).isSome = true) (e : (putL name (PyData.keyHash w.params name) (.str name (s.toks + 1)) v es, putN name es n) = (es', n')) (U : Upd dx (dictOf es n) (dictOf es' n') news news') (hz : es'.length ≤ 1000)
    (h : ∀ h', Fr h₀ L h' m → News h₀ L h' news' → Q () { s with heap := h', toks := s.toks + 2 }) :
    wpAny (model prog w) A (setAttr (.ref x) name v) Q E s := by
  refine set_exc1 (X₀.keeps F.keep) I rfl hs hc ho ht hh hl e hz fun h' g1 k => ?_
  obtain ⟨F', N'⟩ := upd_ground F N U g1 (fun b o hb e => (k.2 b hb).trans e)
  exact h h' F' N'

theorem call_mwK {rest : List Value} {Q : Value → Shared → Prop} {cd : ClassData} (F : Fr h₀ L s.heap m) (X₀ : K.In h₀) (N : News h₀ L s.heap news) (hc : clsIn K C = some cd) (hq : (q, mwObj (.builtin "ValueError.__init__") (.ref x)) ∈ news)
    (U : Upd x (excOf0 C tu) (excOf0 C s.heap.objs.size) news news') (hr : rest.length ≤ 1000)
    (h : ∀ h', Fr h₀ L h' m → News h₀ L h' ((s.heap.objs.size, tupOf rest) :: news') → (∀ p ∈ news, p.1 < s.heap.objs.size) → Q .none { s with heap := h' }) :
    wpAny (model prog w) A (call (.ref q) rest) Q E s := by
  have hx : s.heap.get? x = some (excOf0 C tu) := by
    obtain ⟨pre, post, rfl, rfl, a, b⟩ := U.split
    exact (N (x, excOf0 C tu) (by simp)).1
  refine call_mw (X₀.keeps F.keep) hc (N _ hq).1 hx hr fun h' g1 g2 k => ?_
  obtain ⟨F', N'⟩ := upd_ground F N U g1 k
  obtain ⟨N2, l⟩ := more_ground F N F' N' rfl g2
  exact h h' F' N2 l

theorem inst_exc {h : Heap} {od : Obj} (N : News h₀ L h news) (h1 : (x, excOf C dx tu) ∈ news) (h2 : (dx, od) ∈ news) : InstAt h x (excOf C dx tu) C (some od) := ⟨(N _ h1).1, rfl, rfl, (N _ h2).1⟩
theorem inst_exc0 {h : Heap} (N : News h₀ L h news) (h1 : (x, excOf0 C tu) ∈ news) : InstAt h x (excOf0 C tu) C none := ⟨(N _ h1).1, rfl, rfl, trivial⟩

theorem get_excK {expr : Bool} {Q : Value → Shared → Prop} {v : Value} {attr : Option Value} {es : List DictEntry} {n : Nat} (F : Fr h₀ L s.heap m) (X₀ : K.In h₀) (I : InstAt s.heap x ox C (some (dictOf es n)))
    (hga : findIn K (.ref C) "__getattribute__" = some (some (.builtin "BaseException.__getattribute__")))
    (hgn : findIn K (.ref C) "__getattr__" = some none) (sub : mroIn K C (.type "BaseException") = some true) (hh : hasDictIn K C = true) (ha : findIn K (.ref C) name = some attr) (hn : noGet K attr = true)
    (hl : getL name es = some (some v)) (hv : handedIn v = true) (h : Q v { s with toks := s.toks + 1 }) :
    wpAny (model prog w) A (getAttr (.ref x) name expr) Q E s :=
  get_excV (X₀.keeps F.keep) I hga hgn sub (findObj_own hh ha hn hl) hv h
end
end Mine
end

-- part E5
section
open PySem PySem.W PySem.Calls PyProof.Rows Builtin Builtin.ObjectAttr
namespace Mine
section
variable {prog : Program} {w : World} {A : Around} {E : Value → Shared → Prop} {h : Heap} {g : Array GenState} {d : Drawn} {t : Nat} {os : OsState} {D dd : Addr}
theorem dict_isInst : isSubtype (.type "dict") (.type "dict") = pure true := by rw [isSubtype_type]; kernel_rfl
theorem dict_iterLook : typeLookup (.type "dict") "__iter__" = pure (some (.builtin "dict.__iter__")) := by rw [typeLookup_type, builtinLookup_eq_fast]; kernel_rfl
theorem merge0 {Q : Unit → Shared → Prop} {n n' : Nat} (hD : h.get? D = some (dictOf [] n)) (hdd : h.get? dd = some (dictOf [] n')) (hm : (D == sysModules) = false) (hq : Q () ⟨h, g, d, t, os⟩) :
    wpAny (model prog w) A (mergeMapping dd (.ref D) true) Q E ⟨h, g, d, t, os⟩ := by
  have s1 : Looks (model prog w) h (isSubtype (.type "dict") (.type "dict")) true := Looks.of_pure dict_isInst
  have s2 : Looks (model prog w) h (typeLookup (.type "dict") "__iter__") (some (.builtin "dict.__iter__")) := Looks.of_pure dict_iterLook
  unfold mergeMapping isInstance specialOf
  repeat (first | lk | (rw [hm]; simp only [Bool.false_eq_true, if_false]))
  exact hq
end

section
variable {prog : Program} {w : World} {A : Around} {E : Value → Shared → Prop} {s : Shared} {h₀ : Heap} {L : Addr} {m : Str → Option Value} {news news' : List (Addr × Obj)} {K : Frag} {C D : Addr}

theorem keeps_ground {h h' : Heap} (F : Fr h₀ L h m) (N : News h₀ L h news) (k : ∀ b o, h.get? b = some o → h'.get? b = some o) : Fr h₀ L h' m ∧ News h₀ L h' news := by
  obtain ⟨oL, es, ep, hL, r⟩ := F.ns
  exact ⟨⟨⟨oL, es, ep, k _ _ hL, r⟩, fun b o e => k b o (F.keep b o e), F.above⟩, fun p hp => ⟨k _ _ (N p hp).1, (N p hp).2⟩⟩

theorem list_iterLook : typeLookup (.type "list") "__iter__" = pure (some (.builtin "list.__iter__")) := by rw [typeLookup_type, builtinLookup_eq_fast]; kernel_rfl
theorem tuple_iterLook : typeLookup (.type "tuple") "__iter__" = pure (some (.builtin "tuple.__iter__")) := by rw [typeLookup_type, builtinLookup_eq_fast]; kernel_rfl
theorem evalArgs_starG {f : Value} {x y : Sem Value} {T : String} {vs : List Value} {n nn n2 : Nat} {es : List DictEntry} {kw : List (PySem.Str × Value)} {Q : Args → Shared → Prop} (hT : T = "list" ∨ T = "tuple")
    (hmg : ∀ {A' : Around} {E' : Value → Shared → Prop} {Q' : Unit → Shared → Prop} {h : Heap} {g : Array GenState} {d : Drawn} {t : Nat} {os : OsState} {dd : Addr}, h.get? D = some (dictOf es nn) → h.get? dd = some (dictOf [] 0) → D ≠ dd →
      (∀ h', h'.get? dd = some (dictOf es n2) → (∀ b o, b ≠ dd → h.get? b = some o → h'.get? b = some o) → Q' () ⟨h', g, d, t, os⟩) → wpAny (model prog w) A' (mergeMapping dd (.ref D) true) Q' E' ⟨h, g, d, t, os⟩)
    (hkw : ∀ {A' : Around} {E' : Value → Shared → Prop} {Q' : List (PySem.Str × Value) → Shared → Prop} {s' : Shared} {dd : Addr}, s'.heap.get? dd = some (dictOf es n2) → Q' kw s' → wpAny (model prog w) A' (keywordsIn f dd) Q' E' s')
    (F : Fr h₀ L s.heap m) (N : News h₀ L s.heap news) (hC : (C, (⟨.type T, none, .seq vs.toArray n, #[]⟩ : Obj)) ∈ news) (hD : (D, dictOf es nn) ∈ news) (hlen : vs.length ≤ 1000)
    (hx : wpAny (model prog w) A x (fun v s₁ => v = .ref C ∧ s₁ = s) E s)
    (hy : ∀ h', Fr h₀ L h' m → ∀ tk, wpAny (model prog w) A y (fun v s₁ => v = .ref D ∧ s₁ = { s with heap := h', toks := tk }) E { s with heap := h', toks := tk })
    (h : ∀ h', Fr h₀ L h' m → News h₀ L h' news → Q ⟨vs, kw⟩ { s with heap := h' }) :
    wpAny (model prog w) A (evalArgs f true [(true, x)] [(none, y)]) Q E s := by
  unfold evalArgs
  refine wpAny_bind (wpAny_mono hx (fun v s₁ hv => ?_) fun _ _ z => z)
  obtain ⟨rfl, hs₁⟩ := hv
  subst hs₁
  refine wpAny_bind (wpAny_pure ?_)
  dsimp only
  refine wpAny_holding ?_
  rw [if_neg (by simp)]
  refine wpAny_bind ?_
  unfold mergedKeywords
  refine wpAny_bind (wpAny_alloc (wpAny_bind (wpAny_holding ?_)))
  obtain ⟨F1, N1⟩ := keeps_ground (h' := s₁.heap.push { cls := .type "dict", data := .dict #[] }) F N fun b o e => Heap.get?_push_of_some _ e
  have hdd : (s₁.heap.push { cls := .type "dict", data := .dict #[] }).get? s₁.heap.objs.size = some (dictOf [] 0) := Heap.get?_push_size _ rfl
  repeat lk
  refine wpAny_mono (hy _ F1 s₁.toks) (fun v s₂ hv => ?_) fun _ _ z => z
  obtain ⟨rfl, rfl⟩ := hv
  have hD1 : (s₁.heap.push { cls := .type "dict", data := .dict #[] }).get? D = some (dictOf es nn) := (N1 _ hD).1
  have hDd : D ≠ s₁.heap.objs.size := Nat.ne_of_lt (Heap.lt_size (N _ hD).1)
  refine wpAny_bind (wpAny_onRaise (wpAny_holding (wpAny_tryCatch (wpAny_onRaise (hmg hD1 hdd hDd fun h2 g2 k2' => ?_)))))
  have k0 : ∀ b o, s₁.heap.get? b = some o → h2.get? b = some o := fun b o e => k2' b o (Nat.ne_of_lt (Heap.lt_size e)) (Heap.get?_push_of_some _ e)
  obtain ⟨F3, N3⟩ := keeps_ground F N k0
  have hC1 : h2.get? C = some ⟨.type T, none, .seq vs.toArray n, #[]⟩ := (N3 _ hC).1
  obtain ⟨it, hit⟩ : ∃ it, typeLookup (.type T) "__iter__" = pure (some it) := by
    rcases hT with rfl | rfl
    · exact ⟨_, list_iterLook⟩
    · exact ⟨_, tuple_iterLook⟩
  have s2 : Looks (model prog w) h2 (typeLookup (.type T) "__iter__") (some it) := Looks.of_pure hit
  have hsz : vs.toArray.size ≤ sizeLine := by rw [List.size_toArray, sizeLine_eq]; omega
  repeat (first | (with_reducible refine hkw (k _ _ g2) ?_) | (with_reducible refine wpAny_collect_seq C (o := ⟨.type T, none, .seq vs.toArray n, #[]⟩) hT hC1 rfl rfl (fun h' k => ?_) hsz) | lk)
  obtain ⟨F4, N4⟩ := keeps_ground F3 N3 k
  exact h h' F4 N4
theorem kwIn0 {A : Around} {E : Value → Shared → Prop} {Q : List (PySem.Str × Value) → Shared → Prop} {s : Shared} {f : Value} {dd : Addr} {n : Nat} (hd : s.heap.get? dd = some (dictOf [] n)) (h : Q [] s) : wpAny (model prog w) A (keywordsIn f dd) Q E s := by
  unfold keywordsIn
  repeat lk
  exact h
theorem evalArgs_star0 {f : Value} {x y : Sem Value} {T : String} {vs : List Value} {n nn : Nat} {Q : Args → Shared → Prop} (hT : T = "list" ∨ T = "tuple")
    (F : Fr h₀ L s.heap m) (N : News h₀ L s.heap news) (hC : (C, (⟨.type T, none, .seq vs.toArray n, #[]⟩ : Obj)) ∈ news) (hD : (D, dictOf [] nn) ∈ news) (hm : (D == sysModules) = false) (hlen : vs.length ≤ 1000)
    (hx : wpAny (model prog w) A x (fun v s₁ => v = .ref C ∧ s₁ = s) E s)
    (hy : ∀ h', Fr h₀ L h' m → ∀ tk, wpAny (model prog w) A y (fun v s₁ => v = .ref D ∧ s₁ = { s with heap := h', toks := tk }) E { s with heap := h', toks := tk })
    (h : ∀ h', Fr h₀ L h' m → News h₀ L h' news → Q ⟨vs, []⟩ { s with heap := h' }) :
    wpAny (model prog w) A (evalArgs f true [(true, x)] [(none, y)]) Q E s :=
  evalArgs_starG hT (fun e1 e2 _ q => merge0 e1 e2 hm (q _ e2 fun _ _ _ e => e)) kwIn0 F N hC hD hlen hx hy h
end
end Mine
end

-- part E6
section
open PySem PySem.W PySem.Calls PyProof.Rows Builtin Builtin.ObjectAttr
namespace Mine
section
variable {prog : Program} {w : World} {A : Around} {E : Value → Shared → Prop} {s : Shared} {h₀ : Heap} {L : Addr} {m : Str → Option Value} {news news' : List (Addr × Obj)} {K : Frag} {C D q gf : Addr} {self : Value}

end

section
variable {prog : Program} {w : World} {M : Model} {A : Around} {c : Code} {E : Value → Shared → Prop} {s : Shared} {env : Env}
theorem wpAt_MethodCallStar {o : Expr} {name : Str} {apos pos : Pos} {args : List Expr} {kws : List Keyword} {Q : Value → Shared → Prop}
    (h : PySem.wpAt M A c (attributeBase o name env (eval o env)) (fun ov s₁ => wpAny M A (getAttr ov name true) (fun f s₂ => wpAny M A (callWith pos f [] (backTo pos (starEach args env)) (backToKw pos (keywordEach kws env))) Q E s₂) E s₁) E s)
    (hform : methodCallForm (args.length + kws.length) (backTo pos (starEach args env)) (backToKw pos (keywordEach kws env)) = false := by rfl) :
    PySem.wpAt M A c (eval (.Call (.Attribute o name apos) args kws pos) env) Q E s := by
  rw [arm_eval_Call]
  refine PySem.wpAt_bind (PySem.wpAt_mono h (fun ov s₁ h₁ => PySem.wpAt_of_wpAny (wpAny_bind (wpAny_standAt ?_))) fun _ _ x => x)
  unfold methodCall
  rw [hform]
  refine wpAny_bind (wpAny_holding ?_)
  show wpAny M A (getAttr ov name true >>= fun f => pure (f, [])) _ _ _
  refine wpAny_bind (wpAny_mono h₁ (fun f s₂ h₂ => wpAny_pure ?_) fun _ _ x => x)
  dsimp only
  refine wpAny_bind (m := methodCallPos false o env apos pos) (wpAny_pure ?_)
  exact h₂
end

section
variable {prog : Program} {w : World} {A₀ A : Around} {s : Shared} {base h₀ : Heap} {outer : List Env} {L : Addr} {m mg mb : Str → Option Value} {env : Env} {news : List (Addr × Obj)} {K : Frag} {p : Program} {loose : List Str} {mean : ExcName → Option Value}
  {R : Result → Shared → Prop} {name qual : Str} {params : Arguments} {body : List Stmt} {scope : Scope} {dV kV doc pm cdv ct oc : Value} {an od : Option Addr} {osl : Array (Option Value)} {f cc : Addr} {args : Args} {binds : List (Str × Value)}

end

section
variable {prog : Program} {w : World} {A : Around} {E : Value → Shared → Prop} {h : Heap} {g : Array GenState} {d : Drawn} {t : Nat} {os : OsState}
theorem getAttr_super {so D x C f : Addr} {of : Obj} {l₀ l : List Value} {K : Frag} {name : Str} {expr : Bool} {Q : Value → Shared → Prop}
    (hso : h.get? so = some { cls := .type "super", dict := none, data := .fields #[.ref D, .ref x, .ref C], slots := #[] }) (hno : Looks (model prog w) h (opaqueClassAbove (.ref C)) none)
    (hC : Looks (model prog w) h (mroOf (.ref C)) l₀) (hl : (l₀.dropWhile (· != .ref D)).drop 1 = l) (X : K.In h)
    (hf : alongIn K name l = some (some (.ref f))) (hfo : h.get? f = some of) (hfc : of.cls = .type "function") (hxC : x ≠ C) (hn : (name == ("__class__" : Str)) = false)
    (hq : Q (.ref h.objs.size) ⟨h.push { cls := .type "method", data := .fields #[.ref f, .ref x] }, g, d, t + 1, os⟩) :
    wpAny (model prog w) A (getAttr (.ref so) name expr) Q E ⟨h, g, d, t, os⟩ := by
  have hlk := PySem.F.ks_slot_super_ga.lookup
  have hT : ∀ t', (⟨h, g, d, t', os⟩ : Shared).TypeIs (.ref so) "super" := fun _ => ⟨_, hso, rfl⟩
  unfold getAttr getAttrBy
  refine wpAny_bind (wpAny_mkText (wpAny_holding (wpAny_bind (wpAny_typeOf (hT _) (wpAny_bind (wpAny_of_eq hlk ?_))))))
  show wpAny _ _ (getAttrByItsOwn (.ref so) (.str name t) (.type "super") (.builtin "super.__getattribute__") true expr) _ _ _
  unfold getAttrByItsOwn hookBefore
  refine wpAny_bind (wpAny_of_eq (show (if onTheHeap (.type "super") then typeLookup (.type "super") "__getattr__" else pure none) = pure none from rfl) ?_)
  refine wpAny_bind (wpAny_attempt (wpAny_holding ?_))
  have e : callGetattribute (.ref so) (.str name t) (.builtin "super.__getattribute__") expr = boundAndCalled (.builtin "super.__getattribute__") (.ref so) (.str name t) := by
    unfold callGetattribute; cases expr <;> rfl
  rw [e]
  unfold boundAndCalled
  refine wpAny_bind (wpAny_of_eq (PySem.F.ks_slot_super_ga.bind _) ?_)
  refine wpAny_mono (Q := fun v s' => v = .ref h.objs.size ∧ s' = ⟨h.push { cls := .type "method", data := .fields #[.ref f, .ref x] }, g, d, t + 1, os⟩) (E := fun _ _ => False)
    (wpAny_call_entry PySem.F.ks_slot_super_ga (hT _) PySem.F.ks_entry_super_ga (ks_wpAny_super_ga hso hno hC hl X hf hfo hfc hxC hn ⟨_, rfl, rfl, rfl⟩) (PySem.F.ks_gaArgs_super _ _)) (fun v s' hv => ?_) fun _ _ z => z.elim
  obtain ⟨rfl, rfl⟩ := hv
  exact wpAny_pure hq
end
section
variable {prog : Program} {w : World} {A : Around} {E : Value → Shared → Prop} {s : Shared} {h₀ : Heap} {L : Addr} {m : Str → Option Value} {news : List (Addr × Obj)} {K : Frag} {x C D f2 so : Addr} {ox : Obj} {odx : Option Obj}
theorem getAttr_superK {name : Str} {expr : Bool} {Q : Value → Shared → Prop} (F : Fr h₀ L s.heap m) (X₀ : K.In h₀) (N : News h₀ L s.heap news) (hso : (so, ks_superObj D x C) ∈ news) (I : InstAt s.heap x ox C odx) (ho : nsIn K cStatics "thirdparty.any" = some none)
    (hm : ks_superIn K C D name = some (some (.ref f2))) (ht : typeIn K (.ref f2) = some (.type "function")) (hn : (name == ("__class__" : Str)) = false)
    (h : ∀ q h', Fr h₀ L h' m → News h₀ L h' ((q, methodObj (.ref f2) (.ref x)) :: news) → (∀ p ∈ news, p.1 < q) → Q (.ref q) { s with heap := h', toks := s.toks + 1 }) : wpAny (model prog w) A (getAttr (.ref so) name expr) Q E s := by
  have X : K.In s.heap := X₀.keeps F.keep
  obtain ⟨hh, g, d, t, os⟩ := s
  cases hc : clsIn K C with
  | none => unfold ks_superIn at hm; rw [hc] at hm; cases hm
  | some cd =>
    unfold ks_superIn at hm
    rw [hc] at hm
    obtain ⟨of, hof, hofc⟩ : ∃ of, hh.get? f2 = some of ∧ of.cls = .type "function" := by
      have ht' : (K.lookup f2).map (·.cls) = some (.type "function") := ht
      cases z : K.lookup f2 with
      | none => rw [z] at ht'; cases ht'
      | some of => rw [z] at ht'; exact ⟨of, X _ _ z, Option.some.inj ht'⟩
    refine getAttr_super (N _ hso).1 (looks_opaque X ho) (l₀ := cd.mro) ?_ rfl X hm hof hofc (ks_ne X I hc) hn ?_
    · exact fun A Q E s k q => wpAny_bind ((looks_clsIn X hc) A _ E s k (wpAny_pure q))
    · obtain ⟨F', N', l'⟩ := ks_newsPush (s := ⟨hh, g, d, t, os⟩) (o := methodObj (.ref f2) (.ref x)) F N rfl (Heap.get?_push_at rfl rfl) (fun b o e => Heap.get?_push_of_some _ e)
      exact h _ _ F' N' l'
end
end Mine
end

-- part E7
section
open PySem PySem.W PySem.Calls PyProof.Rows Builtin Builtin.ObjectAttr
namespace Mine
section
variable {M : Model} {A : Around} {E : Value → Shared → Prop} {s : Shared} {h₀ : Heap} {L : Addr} {m : Str → Option Value} {news news' : List (Addr × Obj)} {K : Frag} {q : Addr} {f self : Value} {env : Env} {pos : Pos} {first : List Value} {Q : Value → Shared → Prop}
def MwP (q : Addr) (f self : Value) (h : Heap) : Prop := h.get? q = some (mwObj f self)
theorem keeps_mw (h : Heap) (X : MwP q f self h) : ∃ k, (k = Keeper.frame ∨ k = Keeper.machine ∨ k = Keeper.boundFrame) ∧ Looks M h (keeperOf (.ref q)) k := by
  refine ⟨.machine, .inr (.inl rfl), (Looks.ld (part := none) X).andThen ?_⟩
  exact .now
theorem callWith_mw {e : Expr} {rest : List Expr} (_N : News h₀ L s.heap news) (_q : (q, mwObj f self) ∈ news) (h : wpAny M A (spliced (backTo pos (starEach (e :: rest) env))) (fun vs s₁ => MwP q f self s₁.heap ∧ wpAny M A (call (.ref q) (first ++ vs)) Q E s₁) E s)
    (he : starEach (e :: rest) env = (false, eval e env) :: starEach rest env := by rfl) (hplain : (backTo pos (starEach rest env)).any (·.1) = false := by rfl) :
    wpAny M A (callWith pos (.ref q) first (backTo pos (starEach (e :: rest) env)) []) Q E s := by
  rw [he] at h ⊢
  exact callWith_of (by show ((false || (backTo pos (starEach rest env)).any (·.1)) || false) = false; rw [hplain]; rfl) keeps_mw (evalArgs_plain h)
theorem mwP {h : Heap} (N : News h₀ L h news) (hq : (q, mwObj f self) ∈ news) : MwP q f self h := (N _ hq).1
end
end Mine
end

-- part E8
section
open PySem PySem.W PySem.Calls PyProof.Rows Builtin Builtin.Str
namespace Mine
abbrev words : PySem.Str := PySem.Str.ofString "the following ASCII non-printables found in header: "
abbrev wordsF : PySem.Str := PySem.Str.ofString "the following ASCII non-printables found in header: {}"
abbrev wordsL : PySem.Str := PySem.Str.mk #[116, 104, 101, 32, 102, 111, 108, 108, 111, 119, 105, 110, 103, 32, 65, 83, 67, 73, 73, 32, 110, 111, 110, 45, 112, 114, 105, 110, 116, 97, 98, 108, 101, 115, 32, 102, 111, 117, 110, 100, 32, 105, 110, 32, 104, 101, 97, 100, 101, 114, 58, 32]
abbrev wordsFL : PySem.Str := PySem.Str.mk #[116, 104, 101, 32, 102, 111, 108, 108, 111, 119, 105, 110, 103, 32, 65, 83, 67, 73, 73, 32, 110, 111, 110, 45, 112, 114, 105, 110, 116, 97, 98, 108, 101, 115, 32, 102, 111, 117, 110, 100, 32, 105, 110, 32, 104, 101, 97, 100, 101, 114, 58, 32, 123, 125]
theorem words_lit : words = wordsL := by decide +kernel
theorem wordsF_lit : wordsF = wordsFL := by decide +kernel
section
variable {prog : Program} {w : World} {A : Around} {E : Value → Shared → Prop} {s : Shared}
theorem fmt_words {v : Value} {t : Tok} {Q : Value → Shared → Prop}
    (hv : wpAny (model prog w) A.in1 (formatOf v PySem.Str.empty) (fun r s₁ => ∃ T u, r = .str T u ∧ T.length ≤ 100000 ∧ ∀ t' k, Q (.str (words ++ T) t') { s₁ with toks := k }) E s) :
    wpAny (model prog w) A (call (.builtin "str.format") [.str wordsF t, v]) Q E s := by
  rw [wordsF_lit]
  refine wpAny_call_entry PySem.F.slot_str_format_m (typeIs_str s wordsFL t) PySem.F.entry_str_format_m ?_ (KFm.args_2 _ _)
  unfold Builtin.«str.format»
  refine wpAny_bind (wpAny_of_eq (a := (_, _, _)) rfl ?_)
  refine wpAny_bind ?_
  unfold Builtin.Str.buildString
  refine wpAny_bind ?_
  rw [KPc.range_list]
  refine KFm.start ?_
  intro w0 g0
  refine KPc.turn ?_
  kpc_if
  kpc_check
  refine wpAny_bind (KFm.field_auto (by kfm_num) (by rfl) ?_)
  refine wpAny_bind (wpAny_holding (wpAny_of_eq (a := _) rfl ?_))
  kpc_if
  refine wpAny_bind (wpAny_pure ?_)
  refine wpAny_bind (wpAny_holding (wpAny_mono hv (fun r s₁ hr => ?_) fun _ _ z => z))
  obtain ⟨T, u, rfl, hl, hQ⟩ := hr
  refine wpAny_bind (wpAny_of_eq (a := some _) rfl ?_)
  refine wpAny_pure ?_
  refine KFm.after_field (T' := wordsL ++ T) (by kpc_g) (by kpc_text) (by kpc_obj) hl (by kpc_obj) (by first | kfm_cat2 | (rw [KPc.empty_app]; rfl)) (by kfm_rest) ?_
  intro w1 g1
  refine KPc.turn ?_
  kpc_if
  refine wpAny_pure ?_
  refine wpAny_pure ?_
  refine KPc.finish_ok (by kpc_g) (by decide +kernel) (by first | kpc_text | exact rfl) ?_
  intro t' k
  rw [← words_lit]
  exact ⟨_, rfl, hQ _ _⟩
end
end Mine
end

-- part E9
section
open PySem PySem.W PySem.Calls PyProof.Rows Builtin Builtin.Str
namespace Mine
section
variable {prog : Program} {w : World} {A : Around} {E : Value → Shared → Prop} {s : Shared} {h₀ : Heap} {a : Addr} {d : PyData} {as : List Addr}
theorem formatOf_reads {Q : Value → Shared → Prop} (r : Reads h₀ (.ref a) d as) (hs : d.showable = true) (hsm : d.hasDict = true → sysModules ∉ as) (hg : A.guards = some []) (hu : A.units + (d.depth + 2) < cLine) (hk0 : ∀ b o, h₀.get? b = some o → s.heap.get? b = some o)
    (hQ : ∀ h' u tk, (∀ b o, s.heap.get? b = some o → h'.get? b = some o) → Q (.str d.shown u) { s with heap := h', toks := tk })
    (hsz : d.shown.length ≤ sizeLine) : wpAny (model prog w) A (formatOf (.ref a) PySem.Str.empty) Q E s := by
  obtain ⟨T, idr, S⟩ := showsBy_of_reads (prog := prog) (w := w) r hs hsm hsz
  unfold PySem.Builtin.Str.formatOf
  refine wpAny_ite (KPc.ite_no Bool.false_ne_true ?_)
  refine wpAny_bind (wpAny_mkStr ?_ (by decide))
  have hT' : ({ s with toks := s.toks + 1 } : Shared).TypeIs (.ref a) T := S.typeIs { s with toks := s.toks + 1 } hk0
  refine wpAny_bind (m := callSpecial? (.ref a) (PySem.Str.ofString "__format__") [.str PySem.Str.empty s.toks]) (wpAny_callSpecial?_slot (name := PySem.Str.ofString "__format__") hT' S.slotFmt
    (call_object_format_slot (fun _ _ => nofun) (by omega) hT' S.slotFmt S.slotStr S.slotRepr (S.call A.in1.in1 E { s with toks := s.toks + 1 } _ hg (by show A.units + 1 + 1 + d.depth < cLine; omega) hk0 fun h' u tk hk => ?_)))
  refine ⟨_, _, rfl, ?_⟩
  refine wpAny_bind (wpAny_of_eq (a := some d.shown) rfl ?_)
  refine wpAny_ite (KPc.ite_no Bool.false_ne_true ?_)
  exact wpAny_pure (hQ h' u tk hk)
end

section
variable {prog : Program} {w : World} {A : Around} {E : Value → Shared → Prop} {s : Shared} {h₀ : Heap} {L : Addr} {m : Str → Option Value} {news : List (Addr × Obj)} {l : Addr} {us : List Value} {xs : List PySem.Str} {c : Nat} {t : Tok} {Q : Value → Shared → Prop}
end
end Mine
end

-- part E12
section
open PySem PySem.W PySem.Calls PyProof.Rows Builtin Builtin.ObjectAttr
namespace Mine
section
variable {prog : Program} {w : World} {A : Around} {E : Value → Shared → Prop} {h : Heap} {g : Array GenState} {d : Drawn} {t : Nat} {os : OsState} {x C tu : Addr} {dct : Option Addr}
theorem args_getX {R : Result → Shared → Prop} (hx : h.get? x = some ⟨.ref C, dct, .fields #[.ref tu, .none, .none, .none, .bool false, .none], #[]⟩) (hs : Looks (model prog w) h (isSubtype (.ref C) (.type "BaseException")) true)
    (hq : R (.ok (.ret (.ref tu))) ⟨h, g, d, t, os⟩) :
    codeAny (model prog w) A (.call (.builtin "getset_descriptor.__get__") ⟨[.builtin "BaseException.args", .ref x, .ref C], []⟩) R ⟨h, g, d, t, os⟩ := by
  have hT5 : (⟨h, g, d, t, os⟩ : Shared).TypeIs (.builtin "BaseException.args") "getset_descriptor" := F.typeOf_bexc_args
  have hs' : Looks (model prog w) h (isSubtype (.ref C) (.type (".".intercalate ("BaseException.args".cutAt '.').dropLast))) true := by rw [F.owner_bexc_args]; exact hs
  have hnd : (Value.ref tu == doubtfulMember) = false := by first | rfl | decide | simp [doubtfulMember, rawInt]
  refine codeAny_call_builtin F.slot_gs_get.plain F.entry_gs_get (F.slot_gs_get.check _ _ _ _ _ _ _ _ hT5 (F.args_gs_get _ _ _) ?_)
  unfold Builtin.«getset_descriptor.__get__»
  repeat lk
  refine ⟨Code.quiet_builtin _ (by decide +kernel), codeAny_builtin F.entry_bexc_args ?_⟩
  unfold Builtin.«BaseException.args»
  have hdt : (⟨.ref C, dct, .fields #[.ref tu, .none, .none, .none, .bool false, .none], #[]⟩ : Obj).data = .fields #[.ref tu, .none, .none, .none, .bool false, .none] := rfl
  have f0 : (#[.ref tu, .none, .none, .none, .bool false, .none] : Array Value)[0]? = some (.ref tu) := rfl
  repeat (any_goals (first | assumption | with_reducible refine wpAny_field hx hdt f0 ?_ | wp_step | (simp only [hnd, Bool.false_eq_true, if_false])))
end
section
variable {prog : Program} {w : World} {A : Around} {E : Value → Shared → Prop} {s : Shared} {K : Frag} {x C tu : Addr} {dct : Option Addr} {od : Option Obj} {expr : Bool} {Q : Value → Shared → Prop}
theorem get_excArgs (X : K.In s.heap) (I : InstAt s.heap x ⟨.ref C, dct, .fields #[.ref tu, .none, .none, .none, .bool false, .none], #[]⟩ C od) (hga : findIn K (.ref C) "__getattribute__" = some (some (.builtin "BaseException.__getattribute__")))
    (hgn : findIn K (.ref C) "__getattr__" = some none) (sub : mroIn K C (.type "BaseException") = some true) (hf : findObj K C od "args" = some (.bind (.builtin "getset_descriptor.__get__") (.builtin "BaseException.args")))
    (h : Q (.ref tu) { s with toks := s.toks + 1 }) : wpAny (model prog w) A (getAttr (.ref x) "args" expr) Q E s := by
  refine get_excO X I hga hgn sub ?_
  obtain ⟨hh', g, d, t, os⟩ := s
  have L0 := I.type (M := model prog w)
  have L1 := looks_find (M := model prog w) X I hf
  refine wpAny_bind (wpAny_pure (wpAny_bind (wpAny_pure (wpAny_bind (L0.at (wpAny_bind (L1.at ?_)))))))
  show wpAny _ _ (bindTo (.builtin "getset_descriptor.__get__") (.builtin "BaseException.args") (.ref x) (.ref C)) _ _ _
  unfold bindTo
  have b0 := F.slot_gs_get.bind (.builtin "BaseException.args")
  have LS := looks_mroIn (M := model prog w) X sub
  repeat (first | with_reducible refine wpAny_call ?_ | with_reducible refine args_getX I.1 LS ?_ | lk | wp_step)
  exact h
theorem get_argsK {h₀ : Heap} {L dx : Addr} {m : PySem.Str → Option Value} {news : List (Addr × Obj)} {o : Obj} (F : Fr h₀ L s.heap m) (X₀ : K.In h₀) (N : News h₀ L s.heap news) (hx : (x, excOf C dx tu) ∈ news) (hdx : (dx, o) ∈ news) (hga : findIn K (.ref C) "__getattribute__" = some (some (.builtin "BaseException.__getattribute__")))
    (hgn : findIn K (.ref C) "__getattr__" = some none) (sub : mroIn K C (.type "BaseException") = some true) (hf : findObj K C (some o) "args" = some (.bind (.builtin "getset_descriptor.__get__") (.builtin "BaseException.args")))
    (h : Q (.ref tu) { s with toks := s.toks + 1 }) : wpAny (model prog w) A (getAttr (.ref x) "args" expr) Q E s :=
  get_excArgs (X₀.keeps F.keep) (inst_exc N hx hdx) hga hgn sub hf h
end
section
open PyProof.Rows.LCg PySem.Spec
variable {prog : Program} {w : World} {A : Around} {E : Value → Shared → Prop} {s : Shared} {h₀ : Heap} {L : Addr} {m : PySem.Str → Option Value} {env : Env}
end
end Mine
end

-- part W0
section
open PySem PySem.W PySem.Calls PyProof.Rows
open Sem (wp)
namespace Mine
/-- the claim's caller is on the stack -/
def Under (Γ : Ctx) : Prop := (Γ.code.isCaller || Γ.below.any fun x => x.1.isCaller) = true
/-- as wpAny, of the contexts alone that have the claim's caller -/
def wpC {α : Type} (M : Model) (A : Around) (t : Sem α) (Q : α → Shared → Prop) (E : Value → Shared → Prop) (s : Shared) : Prop :=
  ∀ Γ p, Γ.In A → Under Γ → wp M Γ t (fun a _ s' => Q a s') (fun e _ s' => E e s') p s
def codeC (M : Model) (A : Around) (c : Code) (R : Result → Shared → Prop) (s : Shared) : Prop :=
  ∀ Γ p, Γ.code = c → Γ.Below A → (Γ.below.any fun x => x.1.isCaller) = true → wpCode M Γ R p s
section
variable {α β : Type} {M : Model} {A : Around} {E : Value → Shared → Prop} {s : Shared}
theorem wpC_any {t : Sem α} {Q : α → Shared → Prop} (h : wpAny M A t Q E s) : wpC M A t Q E s := fun Γ p hΓ _ => h Γ p hΓ
theorem codeC_any {c : Code} {R : Result → Shared → Prop} (h : codeAny M A c R s) : codeC M A c R s := fun Γ p hc hΓ _ => h Γ p hc hΓ
theorem wpC_mono {t : Sem α} {Q Q' : α → Shared → Prop} {E' : Value → Shared → Prop} (h : wpC M A t Q E s) (hQ : ∀ a s, Q a s → Q' a s) (hE : ∀ e s, E e s → E' e s) : wpC M A t Q' E' s :=
  fun Γ p hΓ hU => Sem.wp_mono M Γ t (fun a _ s => hQ a s) (fun e _ s => hE e s) p s (h Γ p hΓ hU)
theorem wpC_bind {m : Sem α} {f : α → Sem β} {Q : β → Shared → Prop} (h : wpC M A m (fun a s' => wpC M A (f a) Q E s') E s) : wpC M A (m >>= f) Q E s := fun Γ p hΓ hU => by
  rw [Sem.wp_bind']
  exact Sem.wp_mono M Γ m (fun a p' s' h' => h' Γ p' hΓ hU) (fun _ _ _ h' => h') p s (h Γ p hΓ hU)
/-- a step without a refusal, then the rest -/
theorem wpC_then {m : Sem α} {f : α → Sem β} {Q : β → Shared → Prop} (h : wpAny M A m (fun a s' => wpC M A (f a) Q E s') E s) : wpC M A (m >>= f) Q E s := wpC_bind (wpC_any h)
theorem wpC_pure {a : α} {Q : α → Shared → Prop} (h : Q a s) : wpC M A (pure a) Q E s := fun _ _ _ _ => h
theorem wpC_tryCatch {m : Sem α} {k : Value → Sem α} {Q : α → Shared → Prop} (h : wpC M A m Q (fun e s' => wpC M A (k e) Q E s') s) : wpC M A (tryCatch m k) Q E s := fun Γ p hΓ hU => by
  rw [Sem.wp_tryCatch']
  exact Sem.wp_mono M Γ m (fun _ _ _ h' => h') (fun e p' s' h' => h' Γ p' hΓ hU) p s (h Γ p hΓ hU)
theorem wpC_onRaise {m : Sem α} {k : Value → Sem Unit} {Q : α → Shared → Prop} (h : wpC M A m Q (fun e s' => wpC M A (k e) (fun _ s'' => E e s'') E s') s) : wpC M A (m.onRaise k) Q E s := fun Γ p hΓ hU => by
  rw [Sem.wp_onRaise]
  exact Sem.wp_mono M Γ m (fun _ _ _ h' => h') (fun e p' s' h' => h' Γ p' hΓ hU) p s (h Γ p hΓ hU)
theorem wpC_attempt {m : Sem α} {Q : Except Value α → Shared → Prop} (h : wpC M A m (fun a => Q (.ok a)) (fun e => Q (.error e)) s) : wpC M A m.attempt Q E s := fun Γ p hΓ hU => by rw [Sem.wp_attempt]; exact h Γ p hΓ hU
theorem wpC_holding {vs : List Value} {m : Sem α} {Q : α → Shared → Prop} (h : wpC M A m Q E s) : wpC M A (holding vs m) Q E s := fun Γ p hΓ hU => by rw [Sem.wp_holding]; exact h Γ p hΓ hU
theorem under_enter {Γ : Ctx} (hU : Under Γ) (c : Code) (h : Option Value) (p : Pos) : ((Γ.enter c h p).below.any fun x => x.1.isCaller) = true := hU
theorem wpC_run {c : Code} {h : Option Value} {Q : Flow → Shared → Prop} (hc : codeC M (A.mark h) c (fun r s' => match r with | .ok f => Q f s' | .error e => E e s') s) (hnb : h ≠ some byPass := by intro x; cases x) : wpC M A (run c h) Q E s :=
  fun Γ p hΓ hU => by rw [Sem.wp_run]; exact hc _ p rfl (hΓ.enter c h p hnb) (under_enter hU c h p)
theorem wpC_runValue {c : Code} {Q : Value → Shared → Prop} (hc : codeC M A c (fun r s' => match r with | .ok (.ret v) => Q v s' | .ok _ => False | .error e => E e s') s) : wpC M A (runValue c) Q E s :=
  fun Γ p hΓ hU => by rw [Sem.wp_runValue]; exact hc _ p rfl (hΓ.enter c none p (by intro x; cases x)) (under_enter hU c none p)
theorem wpC_call {f : Value} {pos : List Value} {kw : List (PySem.Str × Value)} {Q : Value → Shared → Prop} (hc : codeC M A (.call f ⟨pos, kw⟩) (fun r s' => match r with | .ok (.ret v) => Q v s' | .ok _ => False | .error e => E e s') s) : wpC M A (call f pos kw) Q E s := wpC_runValue hc
theorem codeC_mono {c : Code} {R R' : Result → Shared → Prop} (h : codeC M A c R s) (hR : ∀ r s, R r s → R' r s) : codeC M A c R' s := fun Γ p hc hΓ hU => wpCode_mono hR (h Γ p hc hΓ hU)
theorem codeC_of_tree {c : Code} {R : Result → Shared → Prop}
    (h : wpC M (A.under c) (M.den c) (fun fin s' => match fin with | .done f => R (.ok f) s' | .again c' => c'.quiet = true ∧ codeC M A c' R s') (fun e s' => R (.error e) s') s) : codeC M A c R s := fun Γ p hc hΓ hU => by
  rw [wpCode_iff_wp, hc]
  refine Sem.wp_mono M Γ _ (fun fin p' s' h' => ?_) (fun _ _ _ h' => h') p s (h Γ p (hc ▸ hΓ.in) (by unfold Under; rw [hU, Bool.or_true]))
  cases fin with
  | done f => exact h'
  | again c' => exact ⟨h'.1, h'.2 (Γ.goto c') p' rfl (hΓ.goto c') hU⟩
/-- under the claim's caller a refusal is booked nowhere -/
theorem mark_none {own : List String} {e : Value} {Q : Unit → Shared → Prop} (h : Q () s) : wpC M A (markTheRefusal own e) Q E s := fun Γ p hΓ hU => by
  unfold markTheRefusal
  rw [Sem.wp_bind']
  show wp M Γ (if pythonCodeMadeTheCall own (((Γ.code, p) :: Γ.below).map (·.1)) then _ else _) _ _ p s
  have hf : pythonCodeMadeTheCall own (((Γ.code, p) :: Γ.below).map (·.1)) = false := by
    have this : (((Γ.code, p) :: Γ.below).map (·.1)).any Code.isCaller = true := by
      have hU' : (Γ.code.isCaller || Γ.below.any fun x => x.1.isCaller) = true := hU
      rw [List.map_cons, List.any_cons, List.any_map]
      exact hU'
    show ((!((((Γ.code, p) :: Γ.below).map (·.1)).any Code.isCaller)) && _ && _) = false
    rw [this]; rfl
  rw [hf]
  exact h
end
end Mine
end

-- part W1
section
open PySem PySem.W PySem.Calls PyProof.Rows
namespace Mine
/-- the law's call, asked of the claim's own contexts alone -/
abbrev WalkC (q : Program) (loose : List PySem.Str) (XP : (PySem.Str → Option Value) → Heap → Prop) (YP : World → Heap → Prop) (r : RowW) (d : DefRec) (kwd : List (PySem.Str × Expr)) : Prop :=
  ∀ (w : World) (s₀ s₁ : Shared) (mg mb : PySem.Str → Option Value), Ground q loose r.records XP w s₀ mg mb s₁.heap → YP w s₁.heap → ∀ (a : Addr) (o : Obj) (pm cd doc dV kV : Value), s₁.heap.get? a = some o →
    o.data = .func { docDef d.name d.params d.body d.scope pm cd doc with defaults := dV, kwdefaults := kV } → s₁.heap.CodeRec cd d.name → Dflts mg s₁.heap d.params kwd dV kV → mg d.name = some (.ref a) → s₁.gens = #[] →
    ∀ (args : List WData) (vals : List Value) (as : List Addr), r.claim.pre args = true → WData.layableAll args = true → ReadsAllW r.records (classAt s₀.heap) s₁.heap vals args as → WellAll w.params s₁.heap vals args → (∀ a ∈ as, (a == sysModules) = false) →
      wpC (model r.prog w) callerA (PySem.call (.ref a) vals) (fun v s' => GoodWG r.claim (classAt s₀.heap) (ExcName.means s₀.heap) args s₁ (.ok (.ret v)) s')
        (fun e s' => GoodWG r.claim (classAt s₀.heap) (ExcName.means s₀.heap) args s₁ (.error e) s') s₁
abbrev callerΓ : Ctx := ⟨.builtin "claim.caller" {}, none, none, [], none⟩
theorem under_caller : Under callerΓ := rfl
/-- from the claim's own context to the scheduler's run -/
theorem endsC {prog : Program} {w : World} {t : Sem Fin} {s : Shared} {R : Result → Shared → Prop} (hz : s.asleep)
    (h : wpC (model prog w) callerA t (fun fin s' => ∃ f, fin = .done f ∧ (R (.ok f) s' ∧ leftWithCleanup s'.gens = false)) (fun e s' => R (.error e) s' ∧ leftWithCleanup s'.gens = false) s) :
    ∃ n r s' s'', runN (denote table) prog w n s ⟨t, .builtin "claim.caller" {}, default, []⟩ = .halted (outcomeOf r) s' ∧
      schedN (denote table) prog w n (.single s ⟨t, .builtin "claim.caller" {}, default, []⟩) = .halted (outcomeOf r) s' ∧ s'.forget = s''.forget ∧ R r s'' := by
  have h0 := h callerΓ default caller_in under_caller
  have h1 : Sem.wp (model prog w) callerΓ t (Sem.finPost (model prog w) callerΓ fun r s' => R r s' ∧ leftWithCleanup s'.gens = false) (fun e _ s' => R (.error e) s' ∧ leftWithCleanup s'.gens = false) default s :=
    Sem.wp_mono _ _ t (fun fin _ s' z => by obtain ⟨f, rfl, z⟩ := z; exact z) (fun _ _ _ z => z) _ _ h0
  obtain ⟨n, r, a, b, q1, q2, q3, q4⟩ := wp_halts_full (M := model prog w) (R := R) hz h1
  exact ⟨n, r, b, a, q2, q1, q3, q4⟩
theorem callC_from {c : ClaimW} {tree : List Value → Sem Fin} {w : World} {s : Shared} {free : Addr → Prop} {gens : Prop} {kept : Heap → Prop} (hz : s.asleep) (hgens : s.gens = #[])
    (spec : ∀ args, c.pre args = true → WData.layableAll args = true → ∀ ord : List DictEntry → List DictEntry, (∀ l, (ord l).Perm l) →
      ∃ vs s₁, layAllW c.records (classAt s.heap) w.params ord args s = some (vs, s₁) ∧
        wpC (model c.prog w) callerA (tree vs) (fun fin s' => ∃ f, fin = .done f ∧ (c.Ends s args vs s₁ (.ok f) s' ∧ s'.os = s.os ∧ AllBare s'.gens ∧ kept s'.heap))
          (fun e s' => c.Ends s args vs s₁ (.error e) s' ∧ s'.os = s.os ∧ AllBare s'.gens ∧ kept s'.heap) s₁) :
    c.CallFrom (fun vs => ⟨tree vs, .builtin "claim.caller" {}, default, []⟩) w free gens kept s := by
  intro args hpre hlay ord hord
  obtain ⟨vs, s₁, hlaid, hcode⟩ := spec args hpre hlay ord hord
  have rest := layAllW_rest _ _ _ hlaid
  have hc2 : wpC (model c.prog w) callerA (tree vs) (fun fin s' => ∃ f, fin = .done f ∧ ((c.Ends s args vs s₁ (.ok f) s' ∧ s'.os = s.os ∧ kept s'.heap) ∧ leftWithCleanup s'.gens = false))
      (fun e s' => (c.Ends s args vs s₁ (.error e) s' ∧ s'.os = s.os ∧ kept s'.heap) ∧ leftWithCleanup s'.gens = false) s₁ :=
    wpC_mono hcode (fun fin s' ⟨f, e, h1, h2, h3, h4⟩ => ⟨f, e, ⟨h1, h2, h4⟩, leftWithCleanup_false_of_bare h3⟩) fun e s' ⟨h1, h2, h3, h4⟩ => ⟨⟨h1, h2, h4⟩, leftWithCleanup_false_of_bare h3⟩
  obtain ⟨k, r, s', s'', hrun, hsched, hfo, hcase, hos, hkp⟩ := endsC (R := fun r s' => c.Ends s args vs s₁ r s' ∧ s'.os = s.os ∧ kept s'.heap) (Shared.asleep_of_life rest.2.2.2 hz) hc2
  obtain ⟨eh, _, _, eo, _⟩ := Shared.forget_eq hfo
  have hcase := hcase.congr eh
  have hkp' : kept s'.heap := by rw [eh]; exact hkp
  rw [← eo] at hos
  have hlife : s'.heap.life = s.heap.life := (runN_life _ _ _ hrun).trans rest.2.2.2
  refine ⟨vs, s₁, hlaid, k, _, s', hsched, ?_, (fun _ i x hx => by rw [hgens] at hx; simp at hx), hkp', by rw [hlife], Shared.rest_eq hos⟩
  rcases hcase with ⟨v, rfl, d1, d2, d3, d4, d5⟩ | ⟨e, ob, cls, rfl, d1, d2, d3, d4, d5⟩
  · exact .inl ⟨v, rfl, d1, d2, d3, fun b o y _ => d4 b o y, d5⟩
  · exact .inr ⟨e, ob, cls, rfl, d1, d2, d3, d4, fun b o y _ => d5 b o y⟩
/-- the head, its premise asked of the claim's own contexts alone -/
theorem PySem.W.holds_open {r : OpenRow} {q : Program} {loose : List PySem.Str} {Xt : Shared → Bool} {XP : (PySem.Str → Option Value) → Heap → Prop} {α : Type} {Yf : Shared → α} {Ya : World → α} {YP : World → Heap → Prop} {d : DefRec} {kwd : List (PySem.Str × Expr)} {N : Nat}
    (left : LeftO r.prog q loose Xt Yf Ya N) (hY : ∀ w s, Yf s = Ya w → YP w s.heap) (hYk : ∀ w h h', YP w h → (∀ b o, h.get? b = some o → h'.get? b = some o) → YP w h')
    (hX : ∀ s, Xt s = true → XP (s.heap.nsMap mainGlobals) s.heap) (hXk : ∀ mg h h', XP mg h → (∀ b o, h.get? b = some o → h'.get? b = some o) → XP mg h')
    (hdef : defOf q r.name = some (d, kwd)) (hp : r.prog.theDef r.name = some (d.params, d.body, d.scope)) (hk : kwWritten? d.params.kwonlyargs d.params.kw_defaults = some kwd) (hRf : ∀ s, Xt s = true → RecFacts r.records s.heap) (hwr : (!r.writes || r.records.isEmpty) = true)
    (k1 : r.wellSaid = true) (ok : (chainsOk q && opensWell r.prog && (frees r.toRowW && r.within.isEmpty)) = true) (hb : r.prog.bare) (hw : r.toRowW.promised)
    (call : WalkC q loose XP YP r.toRowW d kwd) : r.Holds := by
  obtain ⟨ok, k5⟩ := Bool.and_eq_true_iff.mp ok
  obtain ⟨hch, o1⟩ := Bool.and_eq_true_iff.mp ok
  obtain ⟨k5, k6⟩ := Bool.and_eq_true_iff.mp k5
  obtain ⟨hsame, hu, ha, hap, hm⟩ := frees_parts k5
  refine ⟨k1, hw, ⟨hb, o1, by show r.makers.map _ = []; rw [hm]; rfl⟩, hw.witness, fun w => ⟨(left.behind hX hch w).1, fun s' hs' => ?_⟩⟩
  obtain ⟨s₀, hf, hg0, s, hT, hz, hgens, hg, G2, y⟩ := (left.behind (XP := fun mg h => XP mg h ∧ RecFacts r.records h) (fun s hs => ⟨hX s hs, hRf s hs⟩) hch w).2 s' hs'
  have RF := G2.X.2
  have G0 : Ground q loose [] XP w s (s.heap.nsMap mainGlobals) (s.heap.nsMap builtinsNs) s.heap := ⟨G2.T, G2.B, G2.D, G2.TE, G2.TD, G2.W, G2.X.1, G2.cls, G2.has, G2.apart, G2.once, G2.K⟩
  have G : Ground q loose r.records XP w s _ _ s.heap := RF.ground G0
  have hgens : s.gens = #[] := Array.eq_empty_of_size_eq_zero (beq_iff_eq.mp hgens)
  refine ⟨s₀, hf, hg0, s, hT, fun n hn => ?_, RF.1, RF.2.1, ?_⟩
  · obtain rfl : n = r.name := by split at hn <;> simp_all
    exact pinned_of_view hg G0 hdef hp hk
  · refine callC_from (c := r.toRowW.claim) hz hgens fun args hpre hlay ord hord => ?_
    obtain ⟨⟨vs, s₁⟩, hlaid⟩ := Option.isSome_iff_exists.mp (layAllW_isSome (P := w.params) (ord := ord) G.has args r.toRowW.args s (pre_splitW hpre).1)
    have keeps := layAllW_keeps _ _ _ hlaid
    have rest := layAllW_rest _ _ _ hlaid
    obtain ⟨as, hrd, hin, hold⟩ := reads_layAllW hord _ _ _ hlaid hlay s₁.heap (fun _ _ e => e)
    have L : Laid r.records w s s₁ args vs as := ⟨⟨ord, hord, hlaid⟩, hrd, hin, hold, keeps, rest.1.trans hgens, rest.2.2.1⟩
    have G₁ := G.keeps hXk keeps
    obtain ⟨a, o, pm, cd, doc, dV, kV, h1, h2, h3, h4, h5⟩ := G₁.fn hdef
    have z := call w s s₁ _ _ G₁ (hYk _ _ _ (hY w s y) keeps) a o pm cd doc dV kV h2 h3 h4 h5 (defOf_name hdef ▸ h1) L.gens args vs as hpre hlay L.reads L.well (L.low G.low)
    have hi := ident_freeW hu ha hap
    have hwi : r.toRowW.claim.within = [] := List.isEmpty_iff.mp k6
    refine ⟨vs, s₁, hlaid, wpC_then (wpAny_nsGet G₁.T.g ?_)⟩
    rw [h1]
    refine wpC_bind (wpC_mono z (fun v s' g => wpC_pure ⟨_, rfl, ?_⟩) fun e s' g => ?_)
    · have z := g.laid (c := r.toRowW.claim) hsame hwi hi L
      exact ⟨z.1, z.2.1, z.2.2, fun q => ⟨namesKept_of hT hg _ keeps g.2.1.old, noTable hwr q⟩⟩
    · have z := g.laid (c := r.toRowW.claim) hsame hwi hi L
      exact ⟨z.1, z.2.1, z.2.2, fun q => ⟨namesKept_of hT hg _ keeps g.2.1.old, noTable hwr q⟩⟩
end Mine
end

-- part H04
section
open PySem PySem.W PyProof.Rows
namespace Mine
set_option maxRecDepth 100000 in
set_option maxHeartbeats 8000000 in
open_top hd for PySem.Challenge.rw_dm0089_04
/-- the head leaves the walk's top arm on: off again, as in a text of its own -/
theorem top_off : True := by w_top off; exact True.intro
end Mine
end

-- part W2
section
open PySem PySem.W PySem.Calls PyProof.Rows
namespace Mine
section
variable {α : Type} {prog : Program} {w : World} {M : Model} {A : Around} {E : Value → Shared → Prop} {s : Shared} {R : Result → Shared → Prop} {env : Env}
theorem wpC_execs_cons {st : Stmt} {rest : List Stmt} {Q : Flow → Shared → Prop} (h : wpC M A (exec st env) (fun f s' => match f with | .next => wpC M A (execs rest env) Q E s' | f => Q f s') E s) : wpC M A (execs (st :: rest) env) Q E s := by
  rw [execs_cons]
  refine wpC_bind (wpC_mono h (fun f s' z => ?_) fun _ _ e => e)
  cases f <;> first | exact z | exact wpC_pure z
theorem codeC_func {body : List Stmt} (h : wpC (model prog w) (A.deeper env) (execs body env) (fun f s' => R (.ok (.ret (match f with | .ret v => v | _ => .none))) s')
      (fun e s' => wpAny (model prog w) (A.deeper env) (leaving env e) (fun _ s'' => R (.error e) s'') (fun e' s'' => R (.error e') s'') s') s) : codeC (model prog w) A (.func body env) R s := by
  refine codeC_of_tree ?_
  show wpC _ (A.deeper env) (do point; match ← (execs body env).onRaise (leaving env) with | .ret v => ret v | _ => ret .none) _ _ s
  refine wpC_then (wpAny_point (wpC_bind (wpC_onRaise (wpC_mono h (fun f s' z => ?_) fun e s' z => wpC_any z))))
  cases f <;> exact wpC_pure z
theorem codeC_call_function {a : Addr} {args : Args} {o : Obj} {fd : FuncData} {body : List Stmt} (hroom : A.depth < recursionLimit) (ho : s.heap.get? a = some o)
    (hd' : o.data = .func fd) (hco : fd.scope.isCoroutine = false) (hgen : fd.scope.isGenerator = false) (hbody : fd.body = .stmts body) (hcd : s.heap.CodeRec fd.code fd.qualname)
    (h : wpC (model prog w) A.in1 (bindArgs fd args) (fun binds s₁ =>
      wpC (model prog w) A.in1 (newFunctionEnv fd.scope fd.globals fd.closure binds (fd.qualname ++ ".<locals>.") (some a) fd.code none fd.builtins)
        (fun env s₂ => s₂.heap.NoLimit ∧ codeC (model prog w) A (.func body env) R s₂) (fun e s' => R (.error e) s') s₁) (fun e s' => R (.error e) s') s) :
    codeC (model prog w) A (.call (.ref a) args) R s := by
  refine codeC_of_tree ?_
  show wpC _ A.in1 (callAny (.ref a) args) _ _ s
  simp only [callAny]
  refine wpC_then (wpAny_load ho ?_)
  obtain ⟨c, oc, vs, tq, hc, hoc, hdc, hq⟩ := hcd
  simp only [hd', callFunction, hco, hgen, hbody, hc]
  rw [hc] at h
  refine wpC_then (m := field (.ref c) 1) (wpAny_field hoc hdc hq (wpC_then (wpAny_pure ?_)))
  exact wpC_bind (wpC_mono h (fun binds s₁ h₁ => wpC_bind (wpC_mono h₁ (fun env s₂ h₂ => wpC_then (wpAny_enterFrame h₂.1 hroom (wpC_pure (And.intro rfl h₂.2)))) fun _ _ z => z)) fun _ _ z => z)
/-- the binder's refusal: a new TypeError, all else as it was -/
theorem refusesC {msg : String} {Q : α → Shared → Prop} (hh : A.handled = none) (hm : (msg : PySem.Str).length ≤ sizeLine) (h : ∀ h' tk e, Heap.NewExc s.heap h' e "TypeError" → E (.ref e) { s with heap := h', toks := tk }) :
    wpC M A (theBinderRefuses msg : Sem α) Q E s := by
  unfold theBinderRefuses
  refine wpC_then (wpAny_mkStr ?_ hm)
  unfold newExc newTuple
  refine wpC_then (wpAny_bind (wpAny_newObj_type (wpAny_bind (m := firstArgMember _ _) (wpAny_of_eq (a := Value.none) (by simp only [firstArgMember, plainExc_TypeError.first]; rfl) ?_))))
  rw [plainExc_TypeError.own]
  refine wpAny_newObj_type ?_
  refine wpC_bind (mark_none ?_)
  unfold raiseNew
  refine wpC_then (wpAny_handled ?_)
  rw [hh]
  refine wpC_any ?_
  first
    | refine wpAny_throw ?_
    | refine wpAny_bind (wpAny_pure (wpAny_throw ?_))
  exact h _ _ _ ⟨fun b o hb => Heap.get?_push_of_some _ (Heap.get?_push_of_some _ hb), Heap.get?_none_of_le (by simp), _, .ref s.heap.objs.size, Heap.get?_push_size _ rfl, rfl, by simp⟩
end
end Mine
end

-- part W3
section
open PySem PySem.W PySem.Calls PyProof.Rows Builtin
namespace Mine
section
variable {prog : Program} {w : World} {A : Around} {R : Result → Shared → Prop} {s : Shared}
theorem codeC_call_builtin_at {id : String} {args : Args} {b : Builtin} (hq : (Code.builtin id args).quiet = true) (hb : entryFor table id = some b)
    (h : wpAny (model prog w) A.in1 (checkBuiltinCall id args) (fun _ s₁ => wpC (model prog w) (A.under (.builtin id args)) (b args)
      (fun fin s' => match fin with | .done f => R (.ok f) s' | .again c' => c'.quiet = true ∧ codeC (model prog w) A c' R s') (fun e s' => R (.error e) s') s₁)
      (fun e s' => R (.error e) s') s) : codeC (model prog w) A (.call (.builtin id) args) R s := by
  refine codeC_of_tree ?_
  show wpC _ A.in1 (do checkBuiltinCall id args; again (.builtin id args)) _ _ s
  refine wpC_then (wpAny_mono h (fun _ s₁ h₁ => wpC_pure (And.intro hq (codeC_of_tree ?_))) fun _ _ h' => h')
  show wpC _ _ (match entryFor table id with | some b => b args | none => unsupported ((withoutEnding? id "#data").getD id)) _ _ s₁
  rw [hb]; exact h₁
end
section
variable {prog : Program} {w : World} {A : Around} {C : Addr} {R : Result → Shared → Prop} {h : Heap} {g : Array GenState} {d : Drawn} {t : Nat} {os : OsState}
set_option maxHeartbeats 4000000 in
/-- an own exception class called: its object is made, then the __init__ is called (it may be refused) -/
theorem make_XC {rest : List Value} {kw : List (PySem.Str × Value)} {init : Value} (Y : MakesX (model prog w) h C) (hi : Looks (model prog w) h (typeLookup (.ref C) "__init__") (some init))
    (hb : ∀ self, Looks (model prog w) h (bindSpecial init self) (init, [self])) (hrest : rest.length ≤ sizeLine)
    (hq : codeC (model prog w) (A.under (.builtin "type.__call__" ⟨.ref C :: rest, kw⟩)) (.call init ⟨.ref (h.objs.size + 1) :: rest, kw⟩) (InitBack (h.objs.size + 1) R) ⟨(h.push (tupOf rest)).push (excOf0 C h.objs.size), g, d, t, os⟩) :
    codeC (model prog w) A (.call (.ref C) ⟨rest, kw⟩) R ⟨h, g, d, t, os⟩ := by
  have Y' := Y
  obtain ⟨⟨oc, od, cd, sl, hC, e2, e4⟩, isT, made, base, self, val, nA, nN, call, typ⟩ := Y
  refine codeC_of_tree ?_
  have pre : wpAny (model prog w) (A.under (.call (.ref C) ⟨rest, kw⟩)) ((model prog w).den (.call (.ref C) ⟨rest, kw⟩)) (fun fin s' => fin = Fin.again (.call (.builtin "type.__call__") ⟨.ref C :: rest, kw⟩) ∧ s' = ⟨h, g, d, t, os⟩) (fun _ _ => False) ⟨h, g, d, t, os⟩ := by
    show wpAny _ _ (callAny (.ref C) _) _ _ _
    refine nd_load hC ?_
    show wpAny _ _ (callAny.viaDunder (.ref C) _) _ _ _
    unfold callAny.viaDunder
    refine wpAny_bind (call.at ?_)
    dsimp only
    rw [tc_bind]
    refine wpAny_bind (wpAny_pure (wpAny_bind (wpAny_pure ?_)))
    exact wpAny_pure ⟨rfl, rfl⟩
  refine wpC_mono (wpC_any pre) (fun fin s' z => ?_) fun _ _ z => z.elim
  obtain ⟨rfl, rfl⟩ := z
  refine ⟨rfl, ?_⟩
  refine codeC_call_builtin_at (Code.quiet_builtin _ (by decide +kernel)) entry_typeCall (check_slot tc_kind tc_split typ (tc_args _ _ _) ?_)
  unfold Builtin.«type.__call__»
  have hm : Looks (model prog w) h (mroOf (.ref C)) cd.mro := ((Looks.ld (part := none) hC).andThen .now).andThen .now
  dsimp only
  rw [if_neg (show ¬ (Value.ref C == Value.type "type") = true from by intro z; cases z)]
  refine wpC_then (hm.at ?_)
  rw [if_neg (show ¬ cd.mro.isEmpty = true from by rw [e4]; decide)]
  refine wpC_then (made.at ?_)
  dsimp only
  refine wpC_then (wpAny_pure ?_)
  refine wpC_then (wpAny_holding (wpAny_call (new_X Y' ?_ hrest)))
  dsimp only
  have k : ∀ b o, h.get? b = some o → ((h.push (tupOf rest)).push (excOf0 C h.objs.size)).get? b = some o := fun b o e => Heap.get?_push_of_some _ (Heap.get?_push_of_some _ e)
  have hx : ((h.push (tupOf rest)).push (excOf0 C h.objs.size)).get? (h.objs.size + 1) = some (excOf0 C h.objs.size) := by heap_get
  have t1 : Looks (model prog w) ((h.push (tupOf rest)).push (excOf0 C h.objs.size)) (typeOf (.ref (h.objs.size + 1))) (.ref C) := (Looks.ld hx).andThen .now
  have s1 := self.keeps k
  have i1 := hi.keeps k
  have b1 := (hb (.ref (h.objs.size + 1))).keeps k
  have is1 : Looks (model prog w) ((h.push (tupOf rest)).push (excOf0 C h.objs.size)) (isInstance (.ref (h.objs.size + 1)) (.ref C)) true := t1.andThen s1
  refine wpC_then (is1.at ?_)
  rw [if_neg (show ¬ (!true) = true from by decide)]
  unfold callSpecial? specialOf
  refine wpC_bind (wpC_holding (wpC_bind (wpC_then (t1.at (wpC_any (i1.at ?_))))))
  dsimp only
  refine wpC_holding (wpC_then (b1.at ?_))
  dsimp only [List.cons_append, List.nil_append]
  refine wpC_bind (wpC_call (codeC_mono hq fun r s' z => ?_))
  rcases r with e | (v | _ | _ | _) <;> first | exact z | exact z.elim | skip
  obtain ⟨rfl, z⟩ := z
  exact wpC_pure (wpC_pure z)
end
end Mine
end

-- part W4
section
open PySem PySem.W PySem.Calls PyProof.Rows
namespace Mine
section
variable {prog : Program} {w : World} {M : Model} {A : Around} {E : Value → Shared → Prop} {s : Shared} {env : Env}
theorem wpC_tryStmt {body orelse : Sem Flow} {h₀ : ExceptHandler} {hs : List ExceptHandler} {Q : Flow → Shared → Prop}
    (h : wpC M A body (fun f s₁ => match f with | .next => wpC M A orelse Q E s₁ | f => Q f s₁)
      (fun e s₁ => wpC M A (noteFrame e env) (fun _ s₂ => wpC M A (setFlight e none) (fun _ s₃ => wpC M A (handleBy e env (h₀ :: hs)) Q E s₃) E s₂) E s₁) s) :
    wpC M A (tryStmt false body (h₀ :: hs) orelse [] env) Q E s := by
  unfold tryStmt
  simp only [List.isEmpty_nil, if_true, List.isEmpty_cons, Bool.false_and, Bool.false_eq_true, if_false]
  refine wpC_bind (wpC_attempt (wpC_mono h (fun f s₁ h₁ => ?_) fun e s₁ h₁ => ?_))
  · cases f <;> first | exact h₁ | exact wpC_pure h₁
  · exact wpC_bind (wpC_mono h₁ (fun _ _ h₂ => wpC_bind h₂) fun _ _ x => x)
/-- try: the body may hold a refused call; what stands behind the clause is plain -/
theorem wpC_Try {body orelse : List Stmt} {h₀ : ExceptHandler} {hs : List ExceptHandler} {pos : Pos} {Q : Flow → Shared → Prop}
    (h : wpC (model prog w) A (execs body env) (fun f s₁ => match f with | .next => wpC (model prog w) A (execs orelse env) Q E s₁ | f => Q f s₁)
      (fun e s₁ => wpAny (model prog w) A (noteFrame e env) (fun _ s₂ => wpAny (model prog w) A (setFlight e none) (fun _ s₃ => wpAny (model prog w) A (handleBy e env (h₀ :: hs)) Q E s₃) E s₂) E s₁) s) :
    wpC (model prog w) A (exec (.Try body (h₀ :: hs) orelse [] pos) env) Q E s := by
  rw [arm_exec_Try]
  refine wpC_then (wpAny_standAt (wpC_tryStmt (wpC_mono h (fun _ _ z => z) fun e s₁ z => ?_)))
  exact wpC_mono (wpC_any z) (fun _ _ z => wpC_mono (wpC_any z) (fun _ _ z => wpC_any z) fun _ _ x => x) fun _ _ x => x
theorem wpC_Return {v : Expr} {pos : Pos} {Q : Flow → Shared → Prop} (h : wpC (model prog w) A (eval v env) (fun x s' => Q (.ret x) s') E s) (he : exec (.Return (some v) pos) env = (do standAt pos; let x ← eval v env; pure (.ret x)) := by rfl) :
    wpC (model prog w) A (exec (.Return (some v) pos) env) Q E s := by
  rw [he]
  exact wpC_then (wpAny_standAt (wpC_bind (wpC_mono h (fun x s' z => wpC_pure z) fun _ _ x => x)))
end
end Mine
end

-- part W5
section
open PySem PySem.W PySem.Calls PyProof.Rows
namespace Mine
section
variable {prog : Program} {w : World} {A : Around} {E : Value → Shared → Prop} {s : Shared} {env : Env}
theorem codeC_forLoop {R : Result → Shared → Prop} {target : Expr} {it : Value} {body : List Stmt} (I : Nat → Shared → Prop)
    (turn : ∀ n s, I n s → wpAny (model prog w) A (pyNext it) (fun r s₁ => match r with
      | none => R (.ok .next) s₁
      | some v => wpAny (model prog w) A (letOwnedTupleGo target it v) (fun _ s₁' => wpAny (model prog w) A (assign target env v) (fun _ s₂ => wpC (model prog w) A (execs body env) (fun f s₃ => match f with
            | .next | .cont => ∃ m, m < n ∧ I m s₃
            | .brk => R (.ok .next) s₃
            | .ret v => R (.ok (.ret v)) s₃) (fun _ _ => False) s₂) (fun _ _ => False) s₁') (fun _ _ => False) s₁) (fun _ _ => False) s)
    (n : Nat) (h : I n s) : codeC (model prog w) A (.forLoop target it body [] env) R s := by
  induction n using Nat.strongRecOn generalizing s with
  | ind n ih =>
    refine codeC_of_tree ?_
    show wpC _ A ((forTurn target it body [] env).onRaise (fun x => do noteFrame x env; theTreesLotGoes x)) _ _ s
    refine wpC_onRaise (wpC_mono (E := fun _ _ => False) ?_ (fun _ _ z => z) fun _ _ z => z.elim)
    simp only [forTurn]
    refine wpC_then (wpAny_standAt (wpC_then (wpAny_onRaise (wpAny_mono (turn n s h) (fun r s₁ h₁ => ?_) fun _ _ z => z.elim))))
    cases r with
    | none => exact wpC_pure ⟨rfl, codeC_any (codeAny_block (wpAny_execs_nil h₁))⟩
    | some v =>
      refine wpC_then (wpAny_mono h₁ (fun _ s₁' h₁' => ?_) fun _ _ z => z)
      refine wpC_then (wpAny_mono h₁' (fun _ s₂ h₂ => wpC_bind (wpC_mono h₂ (fun f s₃ h₃ => ?_) fun _ _ z => z)) fun _ _ z => z)
      cases f with
      | next => obtain ⟨k, hk, hI⟩ := h₃; exact wpC_pure ⟨rfl, ih k hk hI⟩
      | cont => obtain ⟨k, hk, hI⟩ := h₃; exact wpC_pure ⟨rfl, ih k hk hI⟩
      | brk => exact wpC_pure h₃
      | ret v => exact wpC_pure h₃
theorem wpC_For {target iter : Expr} {body : List Stmt} {pos : Pos} {Q : Flow → Shared → Prop}
    (h : wpAny (model prog w) A (eval iter env) (fun x s₁ => wpAny (model prog w) A (pyIter x) (fun it s₂ =>
      codeC (model prog w) A (.forLoop target it body [] env) (fun r s' => match r with | .ok f => Q f s' | .error e => cameBackBy (model prog w) A env E e s') s₂) E s₁) E s)
    (hs : ∀ x, foldedSetIterable iter env x = pure x := by intro _; rfl) :
    wpC (model prog w) A (exec (.For target iter body [] pos) env) Q E s := by
  rw [exec_For]
  refine wpC_then (wpAny_standAt (wpC_then (wpAny_mono h (fun x s₁ h₁ => wpC_then (wpAny_of_eq (hs x) (wpC_then (wpAny_standAt (wpC_then (wpAny_holding (wpAny_mono h₁ (fun it s₂ h₂ => ?_) fun _ _ z => z))))))) fun _ _ z => z)))
  unfold runOwn
  refine wpC_onRaise (wpC_run (codeC_mono h₂ fun r s' z => ?_))
  cases r with
  | ok f => exact z
  | error e => exact wpC_any z
end
end Mine
end

-- part W6
section
open PySem PySem.W PySem.Calls PyProof.Rows PyProof.V PySem.Spec
namespace Mine
section
variable {prog : Program} {w : World} {A : Around} {E : Value → Shared → Prop} {s : Shared} {env : Env} {h₀ : Heap} {x : PySem.Str} {px : Pos} {body : List Stmt} {Q : Flow → Shared → Prop}
/-- for over range(n) in the caller's logic, with a ledger that may grow -/
theorem loopC_range {r : Addr} {t₀ u₀ v₀ : Tok} {n : Nat} {m₀ : PySem.Str → Option Value} {news : List (Addr × Obj)} (J : Nat → (PySem.Str → Option Value) → List (Addr × Obj) → Prop)
    (hh : A.handled = none) (hr : IsRange s.heap r 0 (n : Int) 1 t₀ u₀ v₀) (hn : n ≤ 1000) (hx : env.kindOf x = some .local) (hp : (env.scope.kind == .class || (env.scope.kind == .module && env.locals != env.globals)) = false)
    (F : Fr h₀ env.locals s.heap m₀) (N : News h₀ env.locals s.heap news) (hj : J 0 m₀ news)
    (turn : ∀ (i : Nat) (t : Tok) (m₁ : PySem.Str → Option Value) (nx : List (Addr × Obj)) (h : Heap) (tk : Nat) (own : List (Addr × Obj)), i < n → TbOff own nx → J i m₁ nx → Fr h₀ env.locals h (fun y => if y = x then some (.int (i : Int) t) else m₁ y) → News h₀ env.locals h (nx ++ own) →
      wpC (model prog w) A (execs body env) (TbPost h₀ env.locals (J (i + 1)) own { s with heap := h, toks := tk } Q) (fun _ _ => False) { s with heap := h, toks := tk })
    (done : ∀ m₁ nx h tk, J n m₁ nx → Fr h₀ env.locals h m₁ → News h₀ env.locals h nx → Q .next { s with heap := h, toks := tk }) :
    wpAny (model prog w) A (pyIter (.ref r)) (fun it s₂ => codeC (model prog w) A (.forLoop (.Name x px) it body [] env) (fun r s' => match r with | .ok f => Q f s' | .error e => cameBackBy (model prog w) A env E e s') s₂) E s := by
  have hsz : Builtin.Range.rangeSize 0 (n : Int) 1 = (n : Int) := by rw [rangeSize_pos (by decide) (by omega)]; omega
  refine wpAny_pyIter_range hr (small_one (by decide) (by decide) (by omega) (by omega)) ?_
  have W : Walks prog w A s.heap.objs.size [s.heap.objs.size] [s.heap.objs.size] n (fun i v => i < n ∧ ∃ t, v = .int ((0 : Int) + i * 1) t)
      (fun i h => IsRangeIter h s.heap.objs.size ((0 : Int) + (i : Nat) * 1) ((n : Int) - (i : Nat)) 1) := (Walks.range hh _ 0 1 n).bound
  have hL : env.locals ≠ s.heap.objs.size := Nat.ne_of_lt F.ns.lt
  have hI : h₀.get? s.heap.objs.size = none := next_is_new F
  have next : ∀ {h h₁ : Heap} {m : PySem.Str → Option Value} {nx : List (Addr × Obj)}, Fr h₀ env.locals h m → News h₀ env.locals h nx → (∀ p ∈ nx, p.1 ≠ s.heap.objs.size) → (∀ b o, b ∉ [s.heap.objs.size] → h.get? b = some o → h₁.get? b = some o) →
      Fr h₀ env.locals h₁ m ∧ News h₀ env.locals h₁ nx := fun F N off k =>
    ⟨⟨F.ns.at' fun o e => k _ o (by simpa using hL) e, fun b o e => k b o (fun hm => by rw [List.mem_singleton.mp hm, hI] at e; cases e) (F.keep b o e), F.above⟩, fun p hp => ⟨k _ _ (by simpa using off p hp) (N p hp).1, (N p hp).2⟩⟩
  refine codeC_forLoop (fun k s' => ∃ h tk m nx i, s' = { s with heap := h, toks := tk } ∧ IsRangeIter h s.heap.objs.size ((0 : Int) + (i : Nat) * 1) ((n : Int) - (i : Nat)) 1 ∧ Fr h₀ env.locals h m ∧ News h₀ env.locals h nx ∧ (∀ p ∈ nx, p.1 ≠ s.heap.objs.size) ∧ J i m nx ∧ i ≤ n ∧ k = n + 1 - i) ?_ (n + 1)
    ⟨_, s.toks, m₀, news, 0, rfl, by show IsRangeIter _ _ _ _ _; rw [hsz]; simpa using Heap.get?_push_size _ rfl, F.push _, (fun p hp => ⟨Heap.get?_push_of_some _ (N p hp).1, (N p hp).2⟩), (fun p hp => Nat.ne_of_lt (Heap.lt_size (N p hp).1)), hj, Nat.zero_le _, rfl⟩
  rintro k s' ⟨h, tk, m, nx, i, rfl, hst, F', N', off, hJ, hi, rfl⟩
  by_cases hlt : i < n
  · refine W.item i _ _ _ hlt hst fun v h₁ tk₁ hP hst₁ hk₁ => ?_
    obtain ⟨_, t, rfl⟩ := hP
    obtain ⟨F₁, N₁⟩ := next F' N' off hk₁
    dsimp only
    refine wpAny_of_eq (a := ()) rfl ?_
    refine wpAny_assign_Name (wpAny_storeName_local hx F₁.ns (fun h₂ hn₂ hs₂ => ?_) hp)
    have F₂ := F₁.set hn₂ hs₂
    have N₂ := N₁.set hs₂
    have ev : ((0 : Int) + (i : Nat) * 1) = (i : Int) := by omega
    rw [ev] at F₂
    obtain ⟨oi, hI₁, back⟩ : ∃ oi, h₁.get? s.heap.objs.size = some oi ∧ ∀ h' : Heap, h'.get? s.heap.objs.size = some oi → IsRangeIter h' s.heap.objs.size ((0 : Int) + ((i + 1 : Nat) : Int) * 1) ((n : Int) - ((i + 1 : Nat) : Int)) 1 := ⟨_, hst₁, fun h' e => e⟩
    have hI₂ : h₂.get? s.heap.objs.size = some oi := (hs₂.2 _ (Ne.symm hL)).trans hI₁
    refine wpC_mono (turn i t m nx h₂ (tk₁ + 1) [(s.heap.objs.size, oi)] hlt ?_ hJ F₂ (fun p hp => ?_)) (fun f s₃ z => ?_) fun _ _ z => z
    · intro p hp q hq
      rw [List.mem_singleton.mp hp]
      exact Ne.symm (off q hq)
    · rcases List.mem_append.mp hp with hp | hp
      · exact N₂ p hp
      · rw [List.mem_singleton.mp hp]; exact ⟨hI₂, Ne.symm hL, hI⟩
    · have fin : TbEnd h₀ env.locals (J (i + 1)) [(s.heap.objs.size, oi)] { s with heap := h₂, toks := tk₁ + 1 } s₃ → ∃ m', m' < n + 1 - i ∧ ∃ h tk m nx i, s₃ = { s with heap := h, toks := tk } ∧ IsRangeIter h s.heap.objs.size ((0 : Int) + (i : Nat) * 1) ((n : Int) - (i : Nat)) 1 ∧ Fr h₀ env.locals h m ∧ News h₀ env.locals h nx ∧ (∀ p ∈ nx, p.1 ≠ s.heap.objs.size) ∧ J i m nx ∧ i ≤ n ∧ m' = n + 1 - i := by
        rintro ⟨h', tk', m', news', nx', e, F3, N3, hsub, hown, hoff, hJ'⟩
        refine ⟨n + 1 - (i + 1), by omega, h', tk', m', nx', i + 1, e, ?_, F3, fun p hp => N3 p (hsub p hp), fun p hp => Ne.symm (hoff _ (.head _) p hp), hJ', hlt, rfl⟩
        exact back _ (N3 _ (hown _ (.head _))).1
      cases f with
      | next => exact fin z
      | cont => exact fin z
      | brk => exact z
      | ret v => exact z
  · have hin : i = n := by omega
    subst hin
    refine W.done _ _ _ hst fun h₁ tk₁ hk₁ => ?_
    obtain ⟨F₁, N₁⟩ := next F' N' off hk₁
    exact done m nx h₁ tk₁ hJ F₁ N₁
end
end Mine
end

-- part W7
section
open PySem PySem.W PySem.Calls PyProof.Rows
namespace Mine
section
variable {α : Type} {prog : Program} {w : World} {M : Model} {A : Around} {E : Value → Shared → Prop} {s : Shared} {env : Env}
theorem wpC_keep {vs : List Value} {m : Sem α} {Q : α → Shared → Prop} (h : wpC M A m Q E s) : wpC M A (m.keep vs) Q E s := fun Γ p hΓ hU => by rw [Sem.wp_keep]; exact h Γ p hΓ hU
theorem wpC_operate {vs : List Value} {m : Sem Value} {Q : Value → Shared → Prop} (h : wpC M A m Q E s) : wpC M A (operate vs m) Q E s := fun Γ p hΓ hU => by rw [Sem.wp_operate]; exact h Γ p hΓ hU
/-- callWith: the arguments are plain, the call may hold a refusal -/
theorem callWithC {pos : Pos} {f : Value} {first : List Value} {args : List (Bool × Sem Value)} {kws : List (Option PySem.Str × Sem Value)} {Q : Value → Shared → Prop} {k : Keeper}
    (h : wpAny M A (evalArgs f true args kws) (fun a s₁ => Looks M s₁.heap (keeperOf f) k ∧ wpC M A (call f (first ++ a.pos) a.kw) Q E s₁) E s) : wpC M A (callWith pos f first args kws) Q E s := by
  unfold callWith
  refine wpC_then (wpAny_holding (wpAny_mono h (fun a s₁ z => ?_) fun _ _ e => e))
  obtain ⟨hl, z⟩ := z
  refine wpC_then (wpAny_standAt ?_)
  dsimp only
  refine wpC_then (hl _ _ _ _ (fun _ _ e => e) ?_)
  have tail : ∀ {t : Sem Value}, wpC M A t Q E s₁ → wpC M A (t >>= fun r => holding [r] point >>= fun _ => pure r) Q E s₁ :=
    fun ht => wpC_bind (wpC_mono ht (fun r s₂ hr => wpC_then (wpAny_holding (wpAny_point (wpC_pure hr)))) fun _ _ x => x)
  generalize (args.any (·.1) || kws.any (·.1.isNone)) = st
  cases k <;> cases st <;> first
    | exact tail z
    | exact tail (wpC_operate z)
    | exact tail (by unfold callMarked; exact wpC_keep z)
    | (dsimp only; split <;> first | exact tail z | exact tail (by unfold callMarked; exact wpC_keep z))
end
section
variable {prog : Program} {w : World} {A₀ A : Around} {s : Shared} {base h₀ : Heap} {outer : List Env} {L : Addr} {m mg mb : Str → Option Value} {env : Env} {news : List (Addr × Obj)}
  {R : Result → Shared → Prop} {name : Str} {body : List Stmt} {scope : Scope} {cdv : Value} {f : Addr} {binds : List (Str × Value)}
end
end Mine
end

-- part W8
section
open PySem PySem.W PySem.Calls PyProof.Rows Builtin Builtin.ObjectAttr
namespace Mine
section
variable {prog : Program} {w : World} {A : Around} {E : Value → Shared → Prop} {h : Heap} {g : Array GenState} {d : Drawn} {t : Nat} {os : OsState} {D dd : Addr}
theorem merge1 {Q : Unit → Shared → Prop} {n n' : Nat} {hs : Int} {k : PySem.Str} {tk : Tok} {v : Value} (hD : h.get? D = some (dictOf [⟨hs, .str k tk, v⟩] n)) (hdd : h.get? dd = some (dictOf [] n')) (hm : (D == sysModules) = false) (hne : D ≠ dd)
    (hq : ∀ h', h'.get? dd = some (dictOf [⟨hs, .str k tk, v⟩] (n' + 1)) → (∀ b o, b ≠ dd → h.get? b = some o → h'.get? b = some o) → Q () ⟨h', g, d, t, os⟩) :
    wpAny (model prog w) A (mergeMapping dd (.ref D) true) Q E ⟨h, g, d, t, os⟩ := by
  have s1 : Looks (model prog w) h (isSubtype (.type "dict") (.type "dict")) true := Looks.of_pure dict_isInst
  have s2 : Looks (model prog w) h (typeLookup (.type "dict") "__iter__") (some (.builtin "dict.__iter__")) := Looks.of_pure dict_iterLook
  unfold mergeMapping isInstance specialOf
  repeat (first | lk | (rw [hm]; simp only [Bool.false_eq_true, if_false]))
  refine wpAny_ite ?_
  rw [if_pos (by simp)]
  show wpAny _ _ (foundByValue dd (.str k tk) #[] k) _ _ _
  have fb : foundByValue dd (.str k tk) #[] k = pure none := by unfold foundByValue; simp
  rw [fb]
  repeat lk
  refine wpAny_ite ?_
  rw [if_pos (by simp)]
  show wpAny _ _ (foundByValue dd (.str k tk) #[] k) _ _ _
  rw [fb]
  repeat lk
  refine wpAny_updatePart hdd ?_
  have gd : (h.update dd (Obj.mapDictKeys fun x => x.push ⟨hs, .str k tk, v⟩)).get? dd = some (dictOf [⟨hs, .str k tk, v⟩] (n' + 1)) := by
    rw [Heap.get?_update_self _ hdd rfl]; rfl
  have gD : (h.update dd (Obj.mapDictKeys fun x => x.push ⟨hs, .str k tk, v⟩)).get? D = some (dictOf [⟨hs, .str k tk, v⟩] n) := by
    rw [Heap.get?_update_other _ _ (Ne.symm hne)]; exact hD
  refine wpAny_lookBehind gd (by exact pastItsLine_dict (by simp [sizeLine_eq])) ?_
  repeat (first | lk | (refine wpAny_ite ?_; rw [if_neg (by simp)]))
  exact hq _ gd fun b o hb e => by rw [Heap.get?_update_other _ _ (Ne.symm hb)]; exact e
theorem merge2 {Q : Unit → Shared → Prop} {n n' : Nat} {hs hs2 : Int} {k k2 : PySem.Str} {tk tk2 : Tok} {v v2 : Value} (hD : h.get? D = some (dictOf [⟨hs, .str k tk, v⟩, ⟨hs2, .str k2 tk2, v2⟩] n)) (hdd : h.get? dd = some (dictOf [] n')) (hm : (D == sysModules) = false) (hne : D ≠ dd) (hk : (Value.str k tk).isStr k2 = false)
    (hq : ∀ h', h'.get? dd = some (dictOf [⟨hs, .str k tk, v⟩, ⟨hs2, .str k2 tk2, v2⟩] (n' + 2)) → (∀ b o, b ≠ dd → h.get? b = some o → h'.get? b = some o) → Q () ⟨h', g, d, t, os⟩) :
    wpAny (model prog w) A (mergeMapping dd (.ref D) true) Q E ⟨h, g, d, t, os⟩ := by
  have s1 : Looks (model prog w) h (isSubtype (.type "dict") (.type "dict")) true := Looks.of_pure dict_isInst
  have s2 : Looks (model prog w) h (typeLookup (.type "dict") "__iter__") (some (.builtin "dict.__iter__")) := Looks.of_pure dict_iterLook
  unfold mergeMapping isInstance specialOf
  repeat (first | lk | (rw [hm]; simp only [Bool.false_eq_true, if_false]))
  refine wpAny_ite ?_
  rw [if_pos (by simp)]
  show wpAny _ _ (foundByValue dd (.str k tk) #[] k) _ _ _
  have fb : foundByValue dd (.str k tk) #[] k = pure none := by unfold foundByValue; simp
  rw [fb]
  repeat lk
  refine wpAny_ite ?_
  rw [if_pos (by simp)]
  show wpAny _ _ (foundByValue dd (.str k tk) #[] k) _ _ _
  rw [fb]
  repeat lk
  refine wpAny_updatePart hdd ?_
  have gd : (h.update dd (Obj.mapDictKeys fun x => x.push ⟨hs, .str k tk, v⟩)).get? dd = some (dictOf [⟨hs, .str k tk, v⟩] (n' + 1)) := by
    rw [Heap.get?_update_self _ hdd rfl]; rfl
  have gD : (h.update dd (Obj.mapDictKeys fun x => x.push ⟨hs, .str k tk, v⟩)).get? D = some (dictOf [⟨hs, .str k tk, v⟩, ⟨hs2, .str k2 tk2, v2⟩] n) := by
    rw [Heap.get?_update_other _ _ (Ne.symm hne)]; exact hD
  have kk : ∀ b o, b ≠ dd → h.get? b = some o → (h.update dd (Obj.mapDictKeys fun x => x.push ⟨hs, .str k tk, v⟩)).get? b = some o := fun b o hb e => by rw [Heap.get?_update_other _ _ (Ne.symm hb)]; exact e
  refine wpAny_lookBehind gd (by exact pastItsLine_dict (by simp [sizeLine_eq])) ?_
  show wpAny _ _ _ _ _ ⟨h.update dd (Obj.mapDictKeys fun x => x.push ⟨hs, .str k tk, v⟩), g, d, t, os⟩
  generalize (h.update dd (Obj.mapDictKeys fun x => x.push ⟨hs, .str k tk, v⟩)) = h1 at gd gD kk ⊢
  repeat lk
  refine wpAny_ite ?_
  rw [if_neg (by simp)]
  repeat lk
  refine wpAny_ite ?_
  rw [if_pos (by simp [isExactStrKey])]
  show wpAny _ _ (foundByValue dd (.str k2 tk2) #[⟨hs, .str k tk, v⟩] k2) _ _ _
  have fb2 : foundByValue dd (.str k2 tk2) #[⟨hs, .str k tk, v⟩] k2 = pure none := by
    unfold foundByValue
    have e : (#[(⟨hs, .str k tk, v⟩ : DictEntry)]).findIdx? (fun x => x.key.isStr k2) = none := by simp [hk]
    rw [e]
  rw [fb2]
  repeat lk
  refine wpAny_ite ?_
  rw [if_pos (by simp [isExactStrKey])]
  show wpAny _ _ (foundByValue dd (.str k2 tk2) #[⟨hs, .str k tk, v⟩] k2) _ _ _
  rw [fb2]
  repeat lk
  refine wpAny_updatePart gd ?_
  have gd2 : (h1.update dd (Obj.mapDictKeys fun x => x.push ⟨hs2, .str k2 tk2, v2⟩)).get? dd = some (dictOf [⟨hs, .str k tk, v⟩, ⟨hs2, .str k2 tk2, v2⟩] (n' + 2)) := by
    rw [Heap.get?_update_self _ gd rfl]; rfl
  have gD2 : (h1.update dd (Obj.mapDictKeys fun x => x.push ⟨hs2, .str k2 tk2, v2⟩)).get? D = some (dictOf [⟨hs, .str k tk, v⟩, ⟨hs2, .str k2 tk2, v2⟩] n) := by
    rw [Heap.get?_update_other _ _ (Ne.symm hne)]; exact gD
  refine wpAny_lookBehind gd2 (by exact pastItsLine_dict (by simp [sizeLine_eq])) ?_
  repeat (first | lk | (refine wpAny_ite ?_; rw [if_neg (by simp)]))
  exact hq _ gd2 fun b o hb e => by rw [Heap.get?_update_other _ _ (Ne.symm hb)]; exact kk b o hb e
end
end Mine
end

-- part W9
section
open PySem PySem.W PySem.Calls PyProof.Rows Builtin Builtin.ObjectAttr
namespace Mine
section
variable {prog : Program} {w : World} {A : Around} {E : Value → Shared → Prop} {s : Shared} {h₀ : Heap} {L : Addr} {m : Str → Option Value} {news news' : List (Addr × Obj)} {K : Frag} {C D : Addr}
theorem kwIn1 {A : Around} {E : Value → Shared → Prop} {Q : List (PySem.Str × Value) → Shared → Prop} {s : Shared} {f : Value} {dd : Addr} {n : Nat} {hs : Int} {k : PySem.Str} {tk : Tok} {v : Value} (hd : s.heap.get? dd = some (dictOf [⟨hs, .str k tk, v⟩] n)) (h : Q [(k, v)] s) : wpAny (model prog w) A (keywordsIn f dd) Q E s := by
  unfold keywordsIn
  repeat lk
  exact h
theorem kwIn2 {A : Around} {E : Value → Shared → Prop} {Q : List (PySem.Str × Value) → Shared → Prop} {s : Shared} {f : Value} {dd : Addr} {n : Nat} {hs hs2 : Int} {k k2 : PySem.Str} {tk tk2 : Tok} {v v2 : Value} (hd : s.heap.get? dd = some (dictOf [⟨hs, .str k tk, v⟩, ⟨hs2, .str k2 tk2, v2⟩] n)) (h : Q [(k, v), (k2, v2)] s) : wpAny (model prog w) A (keywordsIn f dd) Q E s := by
  unfold keywordsIn
  repeat lk
  exact h
theorem evalArgs_star1 {f : Value} {x y : Sem Value} {T : String} {vs : List Value} {n nn : Nat} {hs : Int} {k : PySem.Str} {tk : Tok} {v : Value} {Q : Args → Shared → Prop} (hT : T = "list" ∨ T = "tuple")
    (F : Fr h₀ L s.heap m) (N : News h₀ L s.heap news) (hC : (C, (⟨.type T, none, .seq vs.toArray n, #[]⟩ : Obj)) ∈ news) (hD : (D, dictOf [⟨hs, .str k tk, v⟩] nn) ∈ news) (hm : (D == sysModules) = false) (hlen : vs.length ≤ 1000)
    (hx : wpAny (model prog w) A x (fun v s₁ => v = .ref C ∧ s₁ = s) E s)
    (hy : ∀ h', Fr h₀ L h' m → ∀ tk, wpAny (model prog w) A y (fun v s₁ => v = .ref D ∧ s₁ = { s with heap := h', toks := tk }) E { s with heap := h', toks := tk })
    (h : ∀ h', Fr h₀ L h' m → News h₀ L h' news → Q ⟨vs, [(k, v)]⟩ { s with heap := h' }) :
    wpAny (model prog w) A (evalArgs f true [(true, x)] [(none, y)]) Q E s :=
  evalArgs_starG hT (fun e1 e2 e3 q => merge1 e1 e2 hm e3 q) kwIn1 F N hC hD hlen hx hy h
theorem evalArgs_star2 {f : Value} {x y : Sem Value} {T : String} {vs : List Value} {n nn : Nat} {hs hs2 : Int} {k k2 : PySem.Str} {tk tk2 : Tok} {v v2 : Value} {Q : Args → Shared → Prop} (hT : T = "list" ∨ T = "tuple")
    (F : Fr h₀ L s.heap m) (N : News h₀ L s.heap news) (hC : (C, (⟨.type T, none, .seq vs.toArray n, #[]⟩ : Obj)) ∈ news) (hD : (D, dictOf [⟨hs, .str k tk, v⟩, ⟨hs2, .str k2 tk2, v2⟩] nn) ∈ news) (hm : (D == sysModules) = false) (hlen : vs.length ≤ 1000) (hkk : (Value.str k tk).isStr k2 = false)
    (hx : wpAny (model prog w) A x (fun v s₁ => v = .ref C ∧ s₁ = s) E s)
    (hy : ∀ h', Fr h₀ L h' m → ∀ tk, wpAny (model prog w) A y (fun v s₁ => v = .ref D ∧ s₁ = { s with heap := h', toks := tk }) E { s with heap := h', toks := tk })
    (h : ∀ h', Fr h₀ L h' m → News h₀ L h' news → Q ⟨vs, [(k, v), (k2, v2)]⟩ { s with heap := h' }) :
    wpAny (model prog w) A (evalArgs f true [(true, x)] [(none, y)]) Q E s :=
  evalArgs_starG hT (fun e1 e2 e3 q => merge2 e1 e2 hm e3 hkk q) kwIn2 F N hC hD hlen hx hy h
end
end Mine
end

-- part W10
section
open PySem PySem.W PySem.Calls PyProof.Rows
namespace Mine
theorem enterC {M : Model} {A : Around} {s : Shared} {f : Value} {pos : List Value} {kw : List (PySem.Str × Value)} {c : ClaimW} {cl : PySem.Str → Option Addr} {mean : ExcName → Option Value} {args : List WData} {s₁ : Shared}
    (h : codeC M A (.call f ⟨pos, kw⟩) (GoodWG c cl mean args s₁) s) : wpC M A (PySem.call f pos kw) (fun v s' => GoodWG c cl mean args s₁ (.ok (.ret v)) s') (fun e s' => GoodWG c cl mean args s₁ (.error e) s') s :=
  wpC_call (codeC_mono h fun res s' g => by rcases g.1 with ⟨v, _, _, rfl, _⟩ | ⟨e, _, _, rfl, _⟩ <;> exact g)
theorem call_cellsC {prog : Program} {w : World} {A : Around} {R : Result → Shared → Prop} {s : Shared} {name : PySem.Str} {params : Arguments} {body : List Stmt} {scope : Scope}
    {pm cd doc : Value} {a : Addr} {o : Obj} {args : List Value} {binds : List (PySem.Str × Value)}
    (hroom : A.depth < recursionLimit) (ho : s.heap.get? a = some o) (hdata : o.data = .func (Calls.docDef name params body scope pm cd doc)) (hlim : s.heap.NoLimit) (hcd : s.heap.CodeRec cd name)
    (hbind : bindArgs (Calls.docDef name params body scope pm cd doc) ⟨args, []⟩ = pure binds)
    (hkind : ∀ x ∈ binds, scope.names.lookup x.1 = some .local ∨ (scope.names.lookup x.1 = some .cell ∧ ((cellsFrom (s.heap.objs.size + 1) scope.names []).lookup x.1).isSome = true))
    (hnd : ((cellsFrom 0 scope.names []).map (·.1)).Nodup)
    (h : ∀ h₁ tk cells, Fr s.heap s.heap.objs.size h₁ (bindL (envOfC name scope s.heap.objs.size a cd).kindOf binds fun _ => none) → News s.heap s.heap.objs.size h₁ cells →
      CellsAre (bindC (envOfC name scope s.heap.objs.size a cd).kindOf binds fun _ => none) (cellsFrom (s.heap.objs.size + 1) scope.names []) cells →
      wpC (model prog w) (A.deeper (envOfC name scope s.heap.objs.size a cd)) (execs body (envOfC name scope s.heap.objs.size a cd))
        (fun f s' => R (.ok (.ret (match f with | .ret v => v | _ => .none))) s') (fun _ _ => False) { s with heap := h₁, toks := tk })
    (hco : scope.isCoroutine = false := by rfl) (hgen : scope.isGenerator = false := by rfl) (hk : scope.kind = .function := by rfl) :
    codeC (model prog w) A (.call (.ref a) ⟨args, []⟩) R s := by
  refine codeC_call_function (fd := Calls.docDef name params body scope pm cd doc) hroom ho hdata hco hgen rfl hcd ?_
  rw [hbind]
  refine wpC_pure (wpC_any (wpAny_newFunctionEnv_cells hk hkind fun env e s' X => ⟨?_, codeC_func ?_⟩))
  · exact hlim.keeps X.toInCall.keep
  · subst e
    obtain ⟨h₁, tk, rfl, _⟩ := X.done
    let ⟨cells, N, Y⟩ := Cl.news (h₀ := s.heap) (Nat.le_refl _) fun n c hm => ⟨X.cell n c (lookup_of_mem_nodup (cellsFrom_names scope.names 0 (s.heap.objs.size + 1) [] [] rfl ▸ hnd) hm), X.above n c hm⟩
    exact wpC_mono (h h₁ tk cells ⟨X.toInCall.ns, X.toInCall.keep, X.toInCall.fresh⟩ N Y) (fun _ _ z => z) fun _ _ z => z.elim
/-- a plain statement, then the rest in the caller's logic -/
theorem execsA {M : Model} {A : Around} {E : Value → Shared → Prop} {s : Shared} {env : Env} {st : Stmt} {rest : List Stmt} {Q : Flow → Shared → Prop} (h : wpAny M A (exec st env) (fun f s' => f = .next ∧ wpC M A (execs rest env) Q E s') E s) : wpC M A (execs (st :: rest) env) Q E s :=
  wpC_execs_cons (wpC_mono (wpC_any h) (fun f s' z => by obtain ⟨rfl, z⟩ := z; exact z) fun _ _ e => e)
end Mine
end

-- part W11
section
open PySem PySem.W PySem.Calls PyProof.Rows
namespace Mine
section
variable {prog : Program} {w : World} {A : Around} {E : Value → Shared → Prop} {s : Shared} {h₀ : Heap} {L : Addr} {m : Str → Option Value} {news : List (Addr × Obj)} {K : Frag} {C fI : Addr} {pos : List Value} {kw : List (PySem.Str × Value)} {Q : Value → Shared → Prop}
theorem call_excC (F : Fr h₀ L s.heap m) (X₀ : K.In h₀) (N : News h₀ L s.heap news) (hm : ∀ h, K.In h → MakesX (model prog w) h C)
    (hi : findIn K (.ref C) "__init__" = some (some (.ref fI))) (hf : isFn K (.ref fI) = true) (hp : pos.length ≤ 1000)
    (h : ∀ x tu h', Fr h₀ L h' m → News h₀ L h' ((x, excOf0 C tu) :: (tu, tupOf pos) :: news) → (∀ p ∈ news, p.1 < tu) → tu < x → (∀ b o, s.heap.get? b = some o → h'.get? b = some o) →
      codeC (model prog w) (A.under (.builtin "type.__call__" ⟨.ref C :: pos, kw⟩)) (.call (.ref fI) ⟨.ref x :: pos, kw⟩) (InitBack x fun r s' => match r with | .ok (.ret v) => Q v s' | .ok _ => False | .error e => E e s') { s with heap := h' }) :
    wpC (model prog w) A (call (.ref C) pos kw) Q E s := by
  have X : K.In s.heap := X₀.keeps F.keep
  obtain ⟨hh, g, d, t, os⟩ := s
  refine wpC_call (make_XC (hm _ X) (looks_findIn X hi) (fun self => bind_fn X self (beq_iff_eq.mp hf)) (by rw [sizeLine_eq]; omega) (h _ hh.objs.size _ ((F.push _).push _) ?_ (fun p hp => Heap.lt_size (N p hp).1) (Nat.lt_succ_self _) fun b o e => Heap.get?_push_of_some _ (Heap.get?_push_of_some _ e)))
  have := (N.push F (tupOf pos)).push (F.push _) (excOf0 C hh.objs.size)
  rwa [Heap.size_push] at this
end
end Mine
end

-- part W12
section
open PySem PySem.W PySem.Calls PyProof.Rows
namespace Mine
section
variable {prog : Program} {w : World} {A₀ A : Around} {s : Shared} {base h₀ : Heap} {L : Addr} {m : Str → Option Value} {env : Env} {news : List (Addr × Obj)} {K : Frag} {p : Program} {loose : List Str} {mean : ExcName → Option Value} {mg mb : Str → Option Value}
    {R : Result → Shared → Prop} {name qual : Str} {params : Arguments} {body : List Stmt} {scope : Scope} {dV kV doc pm cdv ct oc : Value} {an od : Option Addr} {osl : Array (Option Value)} {f : Addr} {args : Args} {binds : List (Str × Value)}
theorem kts_mem1 {b : Addr} (hf : env.frame = some L) (hm : b ∈ [env].filterMap (·.frame)) : b = L := by
  obtain ⟨e, he, h⟩ := List.mem_filterMap.mp hm
  rcases List.mem_cons.mp he with rfl | he
  · exact Option.some.inj (h.symm.trans hf)
  · cases he
/-- a def that holds a try, called out of the law's frame, in the caller's logic -/
theorem def_S0C (B : Below A₀ base [] h₀) (F : Fr h₀ L s.heap m) (X₀ : K.In h₀) (N : News h₀ L s.heap news) (T : Top p loose mean mg mb h₀) (hA : A.frames = some [env]) (hf : env.frame = some L) (hke : env.scope.kind = .function)
    (ho : K.lookup f = some ⟨oc, od, .func (fnOf name qual params body scope dV kV doc pm an cdv ct), osl⟩) (hcd : codeIn K cdv qual = true) (hroom : A.depth < recursionLimit)
    (hbind : bindArgs (fnOf name qual params body scope dV kV doc pm an cdv ct) args = pure binds) (hloc : ∀ y ∈ binds, scope.names.lookup y.1 = some .local)
    (h : ∀ g L' h₁, Fr h₀ L g m → Fr g L' h₁ (fun y => binds.reverse.lookup y) → News g L' h₁ news → Below A base [env] g → K.In g → Top p loose mean mg mb g → KtsDicts ([env].filterMap (·.frame)) g →
      wpC (model prog w) (A.deeper (envOf qual scope L' f cdv)) (execs body (envOf qual scope L' f cdv))
        (fun fl s' => LeaveS0 ([env].filterMap (·.frame)) h₀ L m g R (match fl with | .ret v => v | _ => .none) s')
        (fun e s' => wpAny (model prog w) (A.deeper (envOf qual scope L' f cdv)) (leaving (envOf qual scope L' f cdv) e) (fun _ s'' => R (.error e) s'') (fun e' s'' => R (.error e') s'') s')
        { s with heap := h₁, toks := s.toks + binds.length })
    (hco : scope.isCoroutine = false) (hgen : scope.isGenerator = false) (hk : scope.kind = .function)
    (hcell : ∀ x ∈ scope.names, x.2 ≠ .cell) : codeC (model prog w) A (.call (.ref f) args) R s := by
  have X := X₀.keeps F.keep
  refine codeC_call_function (fd := fnOf name qual params body scope dV kV doc pm an cdv ct) (body := body) hroom (X _ _ ho) rfl hco hgen rfl (codeRec_of X hcd) ?_
  rw [hbind]
  obtain ⟨FG, BG, st, lv⟩ := groundX (R := R) B F N hA hf hke
  refine wpC_pure (wpC_any (wpAny_newFunctionEnv hcell hloc (fun h₁ hns hsb => ⟨((T.nolimit).keeps F.keep).fresh _ hsb, codeC_func ?_⟩) hk))
  have hk₁ : ∀ b o, s.heap.get? b = some o → h₁.get? b = some o := fun b o e => hsb.extBut b o (Nat.ne_of_lt (Heap.lt_size e)) (Heap.get?_push_of_some _ e)
  obtain ⟨oL, es, ep, hLg, hLd, hLk, hLf⟩ := FG.ns
  refine wpC_mono (h _ s.heap.objs.size h₁ FG ⟨hns, fun b o e => hk₁ b o (of_hideAll _ e), Nat.le_of_eq (hideAll_size _ _)⟩
    (fun p hp => ⟨hk₁ _ _ (N p hp).1, Nat.ne_of_lt (Heap.lt_size (N p hp).1), hideAll_none _ (List.mem_map_of_mem hp)⟩) BG (X₀.keeps st) (T.keeps st) (fun b hb => by
      rw [kts_mem1 hf hb]; exact ⟨oL, es, ep, hLg, hLd⟩)) (fun fl s' hl => ?_) fun _ _ y => y
  obtain ⟨g', L', m', news', T', F', N', k⟩ := hl
  have nL₀ : h₀.get? L = none := kts_self F
  obtain ⟨sl, hs⟩ := T'.up hLg
  refine k ⟨⟨_, es, ep, F'.keep _ _ hs, hLd, hLk, hLf⟩, fun b o e => F'.keep b o (T'.other b o (st b o e) (fun q => by
    rw [kts_mem1 hf q, nL₀] at e; cases e)), F.above⟩ fun p hp => ⟨(N' p hp).1, fun q => ?_, ?_⟩
  · have := (N' p hp).2.2; rw [q, hs] at this; cases this
  · cases q : h₀.get? p.1 with
    | none => rfl
    | some o =>
      obtain ⟨sl', hs'⟩ := T'.up (st _ _ q)
      have := (N' p hp).2.2
      rw [hs'] at this
      cases this
end
section
variable {prog : Program} {w : World} {A₀ : Around} {E : Value → Shared → Prop} {s' : Shared} {base g G : Heap} {outer : List Env} {L a e : Addr} {m : Str → Option Value} {name : Str} {scope : Scope} {cd : Value}
  {n : Str} {b₀ : Stmt} {suite : List Stmt} {pos np : Pos} {rest : List ExceptHandler} {Q : Flow → Shared → Prop} {news : List (Addr × Obj)} {KF : Frag}
  {p : Program} {loose : List Str} {mean : ExcName → Option Value} {mg mb : Str → Option Value} {x : Str} {X T' : String}
/-- a new exception of the frame itself, caught there -/
theorem caught_new (hx : Heap.NewExc G s'.heap e X) (F : Fr g L G m) (N : News g L G news) (K : Below A₀ base outer g) (XB : KF.In base) (TB : Top p loose mean mg mb base)
    (D : KtsDicts (outer.filterMap (·.frame)) g)
    (ex : nsIn KF mainGlobals x = some none) (hv : bootBuiltins x = some (.type T')) (hn' : x ≠ "__name__")
    (hexc : isSubtype (.type T') (.type "BaseException") = pure true) (hnt : isSubtype (.type ((Manifest.find? T').elim "type" fun y => y.metatype)) (.type "tuple") = pure false) (hsub : isSubtype (.type X) (.type T') = pure true)
    (k : ∀ h' g', KtsTurn (outer.filterMap (·.frame)) g g' → Fr g' L h' m → News g' L h' news → Below A₀ base outer g' → KF.In g' → Top p loose mean mg mb g' → KtsDicts (outer.filterMap (·.frame)) g' →
      wpAny (model prog w) ((A₀.deeper (envOf name scope L a cd)).mark (some (.ref e))) (execs (b₀ :: suite) (envOf name scope L a cd)) Q E { s' with heap := h' })
    (hk : scope.kind = .function := by rfl) (hx' : (envOf name scope L a cd).kindOf x = some .globalImplicit := by rfl) (hd : (x == ("__debug__" : Str)) = false := by decide)
    (hE : PassesOwnAt (model prog w) ((A₀.deeper (envOf name scope L a cd)).mark (some (.ref e))) (A₀.deeper (envOf name scope L a cd)) (envOf name scope L a cd) E := by passes_own) :
    wpAny (model prog w) (A₀.deeper (envOf name scope L a cd)) (noteFrame (.ref e) (envOf name scope L a cd))
      (fun _ s₂ => wpAny (model prog w) (A₀.deeper (envOf name scope L a cd)) (setFlight (.ref e) none) (fun _ s₃ =>
        wpAny (model prog w) (A₀.deeper (envOf name scope L a cd)) (handleBy (.ref e) (envOf name scope L a cd) (.ExceptHandler (some (.Name x np)) none (b₀ :: suite) pos :: rest)) Q E s₃) E s₂) E s' := by
  have K' := K.push (name := name) (a := a) (cd := cd) F hk
  have hin : ∀ env ∈ (envOf name scope L a cd :: outer), ∀ b, env.frame = some b → b ∈ (envOf name scope L a cd :: outer).filterMap (·.frame) := fun env he b hb => List.mem_filterMap.mpr ⟨env, he, hb⟩
  have hBG : ∀ b o, G.get? b = some o → b ∉ (envOf name scope L a cd :: outer).filterMap (·.frame) → (hideAll G ((envOf name scope L a cd :: outer).filterMap (·.frame))).get? b = some o := fun b o q nm => hideAll_get _ q nm
  have hl : ∀ q ∈ news, (hideAll G ((envOf name scope L a cd :: outer).filterMap (·.frame))).get? q.1 = some q.2 ∧ g.get? q.1 = none ∧ q.1 ≠ L := fun q hq => by
    refine ⟨hideAll_get _ (N q hq).1 fun hm => ?_, (N q hq).2.2, (N q hq).2.1⟩
    obtain ⟨env, he, hf⟩ := List.mem_filterMap.mp hm
    rcases List.mem_cons.mp he with rfl | he
    · exact (N q hq).2.1 (Option.some.inj hf).symm
    · obtain ⟨o, ho, _⟩ := (K.frames.mem (List.mem_filterMap.mpr ⟨env, he, hf⟩)).2
      rw [(N q hq).2.2] at ho; cases ho
  obtain ⟨ob, tp, he, hcls, hde⟩ := hx.there
  have hen : (hideAll G ((envOf name scope L a cd :: outer).filterMap (·.frame))).get? e = none := by
    cases q : (hideAll G ((envOf name scope L a cd :: outer).filterMap (·.frame))).get? e with
    | none => rfl
    | some o => have := of_hideAll _ q; rw [hx.new] at this; cases this
  have hsm : G.UpToSlots s'.heap := Heap.UpToSlots.of_keeps hx.keeps
  have step : ∀ {Q' : Unit → Shared → Prop}, (∀ h₄, Heap.HeldW (hideAll G ((envOf name scope L a cd :: outer).filterMap (·.frame))) (envOf name scope L a cd :: outer) e (.type X) tp L h₄ → s'.heap.UpToSlots h₄ → Q' () { s' with heap := h₄ }) →
      wpAny (model prog w) (A₀.deeper (envOf name scope L a cd)) (noteFrame (.ref e) (envOf name scope L a cd)) Q' E s' := fun {Q'} hQ => by
    unfold noteFrame
    simp only [show (envOf name scope L a cd).frame = some L from rfl]
    refine wpAny_bind (wpAny_field he hde (x := .none) rfl ?_)
    rw [if_neg (by decide)]
    refine wpAny_entryW K'.stack ((funFrames_hide K'.frames hin).of_keeps fun b o hb _ => ⟨o, hx.keeps b o hb, rfl⟩) rfl he (fun b o hb => hx.keeps b o (of_hideAll _ hb)) hen hde (by simp) rfl fun h' hN => ?_
    obtain ⟨k1, k2, k3, k4⟩ := hN
    exact hQ h' ⟨k1, hen, k2, hcls ▸ k3⟩ k4
  refine step fun h₄ hheld₄ hsm₄ => ?_
  refine wpAny_landsW hheld₄ fun h₅ hheld hsm₅' => ?_
  have hsm₅ := hsm₄.trans hsm₅'
  obtain ⟨g₅, T₅, F₅, K₅⟩ := kts_ground K F hBG hheld.1 (hsm.trans hsm₅)
  have X₅ : KF.In g₅ := XB.keeps K₅.stays
  have P₅ : TopRead p loose mg mb g₅ := topRead_of (TB.keeps K₅.stays)
  obtain ⟨ob, hob, hobc⟩ := hheld.there
  refine wpAny_handleBy_builtin (X := X) (T := T') (b := true) hexc hnt hsub (name_B F₅ X₅ P₅ ex hv hn' ⟨rfl, ⟨ob, hob, hobc⟩, ?_⟩ hk hx' hd)
  refine lands_againW hheld fun h₆ hfl₆ hsm₆ => ?_
  obtain ⟨g₆, T₆, F₆, K₆⟩ := kts_ground K F hBG hfl₆.1 ((hsm.trans hsm₅).trans hsm₆)
  have Nl : News g₆ L h₆ news := fun q hq => ⟨hfl₆.1 _ _ (hl q hq).1, (hl q hq).2.2, T₆.none_ _ (hl q hq).2.1⟩
  exact wpAny_passesOwnAt hE (k h₆ g₆ T₆ F₆ Nl K₆ (XB.keeps K₆.stays) (TB.keeps K₆.stays) (D.turn T₆))
end
end Mine
end

-- part W13
section
open PySem PySem.W PySem.Calls PyProof.Rows
namespace Mine
/-- the binder refuses these arguments -/
def Refuse (M : Model) (s : Shared) (fd : FuncData) (args : Args) : Prop :=
  ∀ {A : Around} {E : Value → Shared → Prop} {Q : List (PySem.Str × Value) → Shared → Prop}, A.handled = none → (∀ h' tk e, Heap.NewExc s.heap h' e "TypeError" → E (.ref e) { s with heap := h', toks := tk }) → wpC M A (bindArgs fd args) Q E s
theorem wpC_neg {M : Model} {s : Shared} {α : Type} {A : Around} {E : Value → Shared → Prop} {Q : α → Shared → Prop} {c : Prop} [Decidable c] {t e : Sem α} (hc : ¬ c) (h : wpC M A e Q E s) : wpC M A (if c then t else e) Q E s := by rw [if_neg hc]; exact h
theorem wpC_pos {M : Model} {s : Shared} {α : Type} {A : Around} {E : Value → Shared → Prop} {Q : α → Shared → Prop} {c : Prop} [Decidable c] {t e : Sem α} (hc : c) (h : wpC M A t Q E s) : wpC M A (if c then t else e) Q E s := by rw [if_pos hc]; exact h
section
variable {M : Model} {s : Shared} {fd : FuncData} {pos : List Value} {k k₂ : PySem.Str} {v v₂ : Value} {rest : List (PySem.Str × Value)}
theorem refuse_multi (h1 : ((fd.params.args.map (·.arg)).contains k || (fd.params.kwonlyargs.map (·.arg)).contains k) = true)
    (h2 : (List.lookup k ((fd.params.posonlyargs.map (·.arg) ++ fd.params.args.map (·.arg)).zip pos)).isSome = true)
    (hm : ((toString fd.qualname.toString ++ toString "() got multiple values for argument '" ++ toString k.toString ++ toString "'" : String) : PySem.Str).length ≤ sizeLine) : Refuse M s fd ⟨pos, (k, v) :: rest⟩ := by
  intro A E Q hh h
  unfold bindArgs
  refine wpC_bind ?_
  rw [List.forIn_cons]
  refine wpC_bind ?_
  refine wpC_pos h1 (wpC_pos h2 ?_)
  exact wpC_then (wpAny_rule (wpC_bind (refusesC hh hm h)))
theorem refuse_unexp (h1 : ((fd.params.args.map (·.arg)).contains k || (fd.params.kwonlyargs.map (·.arg)).contains k) = false) (h2 : fd.params.kwarg.isSome = false) (h3 : fd.params.posonlyargs = [])
    (h4 : ((k :: fd.params.args.map (·.arg) ++ fd.params.kwonlyargs.map (·.arg)).any (·.cps.any fun c => 0xD800 ≤ c && c ≤ 0xDFFF)) = false) (h5 : Suggest.didYouMean k (fd.params.args.map (·.arg) ++ fd.params.kwonlyargs.map (·.arg)) = none)
    (hm : ((toString fd.qualname.toString ++ toString "() got an unexpected keyword argument '" ++ toString k.toString ++ toString "'" : String) : PySem.Str).length ≤ sizeLine) : Refuse M s fd ⟨pos, (k, v) :: rest⟩ := by
  intro A E Q hh h
  unfold bindArgs
  refine wpC_bind ?_
  rw [List.forIn_cons]
  refine wpC_bind ?_
  refine wpC_neg (by rw [h1]; decide) (wpC_neg (by rw [h2]; decide) (wpC_neg (by rw [h3]; simp) ?_))
  refine wpC_then (wpAny_rule ?_)
  refine wpC_neg (by rw [h4]; decide) ?_
  rw [h5]
  exact wpC_bind (refusesC hh hm h)
/-- the first name is taken, the second one is unknown and near to a known one -/
theorem refuse_second {near : PySem.Str} (h0 : ((fd.params.args.map (·.arg)).contains k₂ || (fd.params.kwonlyargs.map (·.arg)).contains k₂) = true) (h0' : (List.lookup k₂ ((fd.params.posonlyargs.map (·.arg) ++ fd.params.args.map (·.arg)).zip pos)).isSome = false)
    (h1 : ((fd.params.args.map (·.arg)).contains k || (fd.params.kwonlyargs.map (·.arg)).contains k) = false) (h2 : fd.params.kwarg.isSome = false) (h3 : fd.params.posonlyargs = [])
    (h4 : ((k :: fd.params.args.map (·.arg) ++ fd.params.kwonlyargs.map (·.arg)).any (·.cps.any fun c => 0xD800 ≤ c && c ≤ 0xDFFF)) = false) (h5 : Suggest.didYouMean k (fd.params.args.map (·.arg) ++ fd.params.kwonlyargs.map (·.arg)) = some near)
    (hm : ((toString fd.qualname.toString ++ toString "() got an unexpected keyword argument '" ++ toString k.toString ++ toString "'. Did you mean '" ++ toString near.toString ++ toString "'?" : String) : PySem.Str).length ≤ sizeLine) : Refuse M s fd ⟨pos, (k₂, v₂) :: (k, v) :: rest⟩ := by
  intro A E Q hh h
  unfold bindArgs
  refine wpC_bind ?_
  rw [List.forIn_cons]
  refine wpC_bind ?_
  refine wpC_pos h0 (wpC_neg (by rw [h0']; decide) (wpC_pure ?_))
  dsimp only
  rw [List.forIn_cons]
  refine wpC_bind ?_
  refine wpC_neg (by rw [h1]; decide) (wpC_neg (by rw [h2]; decide) (wpC_neg (by rw [h3]; simp) ?_))
  refine wpC_then (wpAny_rule ?_)
  refine wpC_neg (by rw [h4]; decide) ?_
  rw [h5]
  exact wpC_bind (refusesC hh hm h)
end
end Mine
end

-- part W14
section
open PySem PySem.W PySem.Calls PyProof.Rows
namespace Mine
def fdOf (K : Frag) (a : Addr) : FuncData := match List.lookup a K with | some ⟨_, _, .func fd, _⟩ => fd | _ => default
abbrev kLine : PySem.Str := PySem.Str.ofString "line"
abbrev kLines : PySem.Str := PySem.Str.ofString "lines"
abbrev kNp : PySem.Str := PySem.Str.ofString "non_printables"
section
variable {P : Params} {M : Model} {s : Shared} {x v v' : Value}
set_option maxHeartbeats 400000
theorem r31_2 : Refuse M s (fdOf (hd.heap_39 P) 31) ⟨[x], [(kNp, v)]⟩ := refuse_unexp (by kernel_rfl) (by kernel_rfl) (by kernel_rfl) (by kernel_rfl) (by kernel_rfl) (Nat.le_of_ble_eq_true (by kernel_rfl))
theorem r31_4 : Refuse M s (fdOf (hd.heap_39 P) 31) ⟨[x, v'], [(kLine, v)]⟩ := refuse_multi (by kernel_rfl) (by kernel_rfl) (Nat.le_of_ble_eq_true (by kernel_rfl))
theorem r31_6 : Refuse M s (fdOf (hd.heap_39 P) 31) ⟨[x, v'], [(kNp, v)]⟩ := refuse_unexp (by kernel_rfl) (by kernel_rfl) (by kernel_rfl) (by kernel_rfl) (by kernel_rfl) (Nat.le_of_ble_eq_true (by kernel_rfl))
theorem r31_7 : Refuse M s (fdOf (hd.heap_39 P) 31) ⟨[x], [(kLine, v), (kLines, v)]⟩ := refuse_second (near := kLine) (by kernel_rfl) (by kernel_rfl) (by kernel_rfl) (by kernel_rfl) (by kernel_rfl) (by kernel_rfl) (by kernel_rfl) (Nat.le_of_ble_eq_true (by kernel_rfl))
theorem r98_1 : Refuse M s (fdOf (hd.heap_39 P) 98) ⟨[x], [(kLine, v)]⟩ := refuse_unexp (by kernel_rfl) (by kernel_rfl) (by kernel_rfl) (by kernel_rfl) (by kernel_rfl) (Nat.le_of_ble_eq_true (by kernel_rfl))
theorem r98_4 : Refuse M s (fdOf (hd.heap_39 P) 98) ⟨[x, v'], [(kLine, v)]⟩ := refuse_unexp (by kernel_rfl) (by kernel_rfl) (by kernel_rfl) (by kernel_rfl) (by kernel_rfl) (Nat.le_of_ble_eq_true (by kernel_rfl))
theorem r98_6 : Refuse M s (fdOf (hd.heap_39 P) 98) ⟨[x, v'], [(kNp, v)]⟩ := refuse_multi (by kernel_rfl) (by kernel_rfl) (Nat.le_of_ble_eq_true (by kernel_rfl))
theorem r98_7 : Refuse M s (fdOf (hd.heap_39 P) 98) ⟨[x], [(kLine, v), (kLines, v)]⟩ := refuse_unexp (by kernel_rfl) (by kernel_rfl) (by kernel_rfl) (by kernel_rfl) (by kernel_rfl) (Nat.le_of_ble_eq_true (by kernel_rfl))
theorem seqItems_tuple {A : Around} {E : Value → Shared → Prop} {Q : Option (Array Value) → Shared → Prop} {a : Addr} {o : Obj} {xs : Array Value} {n : Nat} (ho : s.heap.get? a = some o) (hd : o.data = .seq xs n) (h : Q (some xs) s) : wpAny M A (seqItems? (.ref a)) Q E s := by
  unfold seqItems?
  refine wpAny_bind (wpAny_load ho ?_)
  rw [hd]
  exact wpAny_pure h
theorem seqItems_none {A : Around} {E : Value → Shared → Prop} {Q : Option (Array Value) → Shared → Prop} (h : Q none s) : wpAny M A (seqItems? .none) Q E s := by
  unfold seqItems?
  exact wpAny_bind (wpAny_pure (wpAny_pure h))
theorem refuse_many {fd : FuncData} {v'' : Value} (hq : fd.qualname = PySem.Str.ofString "NonPrintableDefect.__init__") (ha : fd.params.args.map (·.arg) = [PySem.Str.ofString "self", kNp]) (hpo : fd.params.posonlyargs = []) (hko : fd.params.kwonlyargs = []) (hva : fd.params.vararg = none) (hde : fd.defaults = .none) : Refuse M s fd ⟨[x, v', v''], []⟩ := by
  intro A E Q hh h
  unfold bindArgs
  refine wpC_bind ?_
  rw [List.forIn_nil]
  refine wpC_pure ?_
  rw [hde]
  refine wpC_then (seqItems_none ?_)
  refine wpC_pos (by rw [hpo, ha, hva]; kernel_rfl) ?_
  refine wpC_then (wpAny_rule (wpC_bind (refusesC hh ?_ h)))
  rw [hpo, hko, ha, hq]
  exact Nat.le_of_ble_eq_true (by kernel_rfl)
theorem refuse_manyD {fd : FuncData} {v'' : Value} {a : Addr} {o : Obj} {n : Nat} (hq : fd.qualname = PySem.Str.ofString "MessageDefect.__init__") (ha : fd.params.args.map (·.arg) = [PySem.Str.ofString "self", kLine]) (hpo : fd.params.posonlyargs = []) (hko : fd.params.kwonlyargs = []) (hva : fd.params.vararg = none)
    (hde : fd.defaults = .ref a) (ho : s.heap.get? a = some o) (hd : o.data = .seq #[Value.none] n) : Refuse M s fd ⟨[x, v', v''], []⟩ := by
  intro A E Q hh h
  unfold bindArgs
  refine wpC_bind ?_
  rw [List.forIn_nil]
  refine wpC_pure ?_
  rw [hde]
  refine wpC_then (seqItems_tuple ho hd ?_)
  refine wpC_pos (by rw [hpo, ha, hva]; kernel_rfl) ?_
  refine wpC_then (wpAny_rule (wpC_bind (refusesC hh ?_ h)))
  rw [hpo, hko, ha, hq]
  exact Nat.le_of_ble_eq_true (by kernel_rfl)
theorem r98_5 {v'' : Value} : Refuse M s (fdOf (hd.heap_39 P) 98) ⟨[x, v', v''], []⟩ := refuse_many (by kernel_rfl) (by kernel_rfl) (by kernel_rfl) (by kernel_rfl) (by kernel_rfl) (by kernel_rfl)
end
end Mine
end

-- part W15
section
open PySem PySem.W PySem.Calls PyProof.Rows
namespace Mine
section
variable {P : Params} {M : Model} {s : Shared} {x v v' : Value}
set_option maxHeartbeats 8000000
/-- too many values, or too few, by place -/
theorem refuse_few {fd : FuncData} (hq : fd.qualname = PySem.Str.ofString "NonPrintableDefect.__init__") (ha : fd.params.args.map (·.arg) = [PySem.Str.ofString "self", kNp]) (hpo : fd.params.posonlyargs = []) (hko : fd.params.kwonlyargs = []) (hva : fd.params.vararg = none) (hde : fd.defaults = .none) : Refuse M s fd ⟨[x], []⟩ := by
  intro A E Q hh h
  unfold bindArgs
  refine wpC_bind ?_
  rw [List.forIn_nil]
  refine wpC_pure ?_
  rw [hde]
  refine wpC_then (seqItems_none ?_)
  refine wpC_neg (by rw [hpo, ha]; exact fun q => nomatch (show false = true from q)) ?_
  refine wpC_pos (by rw [hpo, ha]; kernel_rfl) ?_
  refine wpC_then (wpAny_rule ?_)
  refine wpC_bind ?_
  refine refusesC hh ?_ h
  rw [hpo, ha, hq]
  exact Nat.le_of_ble_eq_true (by kernel_rfl)
theorem r98_3 : Refuse M s (fdOf (hd.heap_39 P) 98) ⟨[x], []⟩ := refuse_few (by kernel_rfl) (by kernel_rfl) (by kernel_rfl) (by kernel_rfl) (by kernel_rfl) (by kernel_rfl)
end
end Mine
end

-- part W16
section
open PySem PySem.W PySem.Calls PyProof.Rows
namespace Mine
section
variable {P : Params} {M : Model} {s : Shared} {x v v' v'' : Value}
theorem r31_5 (X : (hd.heap_39 P).In s.heap) : Refuse M s (fdOf (hd.heap_39 P) 31) ⟨[x, v', v''], []⟩ :=
  have q : ∃ a o n, (fdOf (hd.heap_39 P) 31).defaults = .ref a ∧ List.lookup a (hd.heap_39 P) = some o ∧ o.data = .seq #[Value.none] n := ⟨_, _, _, rfl, rfl, rfl⟩
  have ⟨_, _, _, q1, q2, q3⟩ := q
  refuse_manyD (by kernel_rfl) (by kernel_rfl) (by kernel_rfl) (by kernel_rfl) (by kernel_rfl) q1 (X _ _ q2) q3
end
section
variable {prog : Program} {w : World} {A : Around} {E : Value → Shared → Prop} {s : Shared} {h₀ : Heap} {L : Addr} {m : Str → Option Value} {news : List (Addr × Obj)} {K : Frag} {C fI : Addr} {pos : List Value} {kw : List (PySem.Str × Value)} {Q : Value → Shared → Prop} {R : Result → Shared → Prop}
theorem refusedR {a : Addr} {args : Args} {o : Obj} {fd : FuncData} {body : List Stmt} (hroom : A.depth < recursionLimit) (hh : A.handled = none) (ho : s.heap.get? a = some o)
    (hd' : o.data = .func fd) (hco : fd.scope.isCoroutine = false) (hgen : fd.scope.isGenerator = false) (hbody : fd.body = .stmts body) (hcd : s.heap.CodeRec fd.code fd.qualname)
    (hb : Refuse (model prog w) s fd args)
    (h : ∀ h' tk e, Heap.NewExc s.heap h' e "TypeError" → R (.error (.ref e)) { s with heap := h', toks := tk }) :
    codeC (model prog w) A (.call (.ref a) args) R s :=
  codeC_call_function hroom ho hd' hco hgen hbody hcd (hb hh h)
/-- a class call that the binder of its __init__ refuses -/
theorem class_refusedR {oc : Value} {od : Option Addr} {fd : FuncData} {osl : Array (Option Value)} {body : List Stmt} (F : Fr h₀ L s.heap m) (X₀ : K.In h₀) (N : News h₀ L s.heap news) (hm : ∀ h, K.In h → MakesX (model prog w) h C)
    (hi : findIn K (.ref C) "__init__" = some (some (.ref fI))) (hf : isFn K (.ref fI) = true) (hp : pos.length ≤ 1000)
    (ho : K.lookup fI = some ⟨oc, od, .func fd, osl⟩) (hco : fd.scope.isCoroutine = false) (hgen : fd.scope.isGenerator = false) (hbody : fd.body = .stmts body) (hcd : codeIn K fd.code fd.qualname = true)
    (hroom : A.depth + 1 < recursionLimit) (hh : A.handled = none) (hb : ∀ x (s' : Shared), K.In s'.heap → Refuse (model prog w) s' fd ⟨.ref x :: pos, kw⟩)
    (h : ∀ h' tk e, Heap.NewExc s.heap h' e "TypeError" → E (.ref e) { s with heap := h', toks := tk }) :
    wpC (model prog w) A (call (.ref C) pos kw) Q E s := by
  refine call_excC F X₀ N hm hi hf hp fun x tu h1 F1 N1 _ _ k1 => ?_
  have X1 : K.In h1 := X₀.keeps F1.keep
  refine refusedR (o := ⟨oc, od, .func fd, osl⟩) hroom hh (X1 _ _ ho) rfl hco hgen hbody (codeRec_of X1 hcd) (hb x _ X1) fun h' tk e z => ?_
  have hnew : s.heap.get? e = none := by
    cases q : s.heap.get? e with
    | none => rfl
    | some o => have := z.new; rw [k1 e o q] at this; cases this
  exact h h' tk e ⟨fun b o q => z.keeps b o (k1 b o q), hnew, z.there⟩
end
end Mine
end

-- part W17
section
open PySem PySem.W PySem.Calls PyProof.Rows
namespace Mine
section
variable {prog : Program} {w : World} {A : Around} {E : Value → Shared → Prop} {s : Shared} {env : Env}
theorem wpC_List1 {e : Expr} {pos : Pos} {Q : Value → Shared → Prop} (hs : starEach [e] env = [(false, eval e env)])
    (h : wpC (model prog w) A (eval e env) (fun v s₁ => Q (.ref s₁.heap.objs.size) { s₁ with heap := s₁.heap.push { cls := .type "list", data := .seq #[v] } }) E s) :
    wpC (model prog w) A (eval (.List [e] pos) env) Q E s := by
  rw [arm_eval_List, hs]
  refine wpC_then (wpAny_standAt (wpC_bind ?_))
  show wpC (model prog w) A (do
    let v ← eval e env
    let here ← (pure [v] : Sem (List Value))
    return here ++ (← holding here (pure [] : Sem (List Value)))) _ E s
  refine wpC_bind (wpC_mono h (fun v s₁ z => wpC_any (wpAny_bind (wpAny_pure (wpAny_bind (wpAny_holding (wpAny_pure (wpAny_pure (wpC_any ?_)))))))) fun _ _ x => x)
  exact wpAny_newObj_type z (by show 1 ≤ sizeLine; rw [sizeLine_eq]; decide)
theorem wpC_CallName {id : PySem.Str} {p pos : Pos} {args : List Expr} {keywords : List Keyword} {Q : Value → Shared → Prop}
    (h : wpAny (model prog w) A (eval (.Name id p) env) (fun f s₁ => wpC (model prog w) A (callWith pos f [] (backTo pos (starEach args env)) (backToKw pos (keywordEach keywords env))) Q E s₁) E s) :
    wpC (model prog w) A (eval (.Call (.Name id p) args keywords pos) env) Q E s := by
  rw [arm_eval_Call_Name']
  exact wpC_then h
end
end Mine
end

-- part W18
section
open PySem PySem.W PySem.Calls PyProof.Rows
namespace Mine
/-- a dict of at most two names, and the call's names that ** makes of it -/
inductive KwOf : List DictEntry → List (PySem.Str × Value) → Prop
  | nil : KwOf [] []
  | one {hs : Int} {k : PySem.Str} {tk : Tok} {v : Value} : KwOf [⟨hs, .str k tk, v⟩] [(k, v)]
  | two {hs hs2 : Int} {k k2 : PySem.Str} {tk tk2 : Tok} {v v2 : Value} (hkk : (Value.str k tk).isStr k2 = false) : KwOf [⟨hs, .str k tk, v⟩, ⟨hs2, .str k2 tk2, v2⟩] [(k, v), (k2, v2)]
section
variable {prog : Program} {w : World} {A : Around} {E : Value → Shared → Prop} {s : Shared} {h₀ : Heap} {L : Addr} {m : Str → Option Value} {news news' : List (Addr × Obj)} {K : Frag} {C D : Addr}
theorem evalArgs_starK {f : Value} {x y : Sem Value} {T : String} {vs : List Value} {n nn : Nat} {es : List DictEntry} {kw : List (PySem.Str × Value)} {Q : Args → Shared → Prop} (hT : T = "list" ∨ T = "tuple") (hk : KwOf es kw)
    (F : Fr h₀ L s.heap m) (N : News h₀ L s.heap news) (hC : (C, (⟨.type T, none, .seq vs.toArray n, #[]⟩ : Obj)) ∈ news) (hD : (D, dictOf es nn) ∈ news) (hm : (D == sysModules) = false) (hlen : vs.length ≤ 1000)
    (hx : wpAny (model prog w) A x (fun v s₁ => v = .ref C ∧ s₁ = s) E s)
    (hy : ∀ h', Fr h₀ L h' m → ∀ tk, wpAny (model prog w) A y (fun v s₁ => v = .ref D ∧ s₁ = { s with heap := h', toks := tk }) E { s with heap := h', toks := tk })
    (h : ∀ h', Fr h₀ L h' m → News h₀ L h' news → Q ⟨vs, kw⟩ { s with heap := h' }) :
    wpAny (model prog w) A (evalArgs f true [(true, x)] [(none, y)]) Q E s := by
  cases hk with
  | nil => exact evalArgs_star0 hT F N hC hD hm hlen hx hy h
  | one => exact evalArgs_star1 hT F N hC hD hm hlen hx hy h
  | two hkk => exact evalArgs_star2 hT F N hC hD hm hlen hkk hx hy h
end
end Mine
end

-- part W19
section
open PySem PySem.W PySem.Calls PyProof.Rows
namespace Mine
abbrev prg4 : Program := PySem.Challenge.rw_dm0089_04.row.prog
theorem keeps_cls {M : Model} {h : Heap} {C : Addr} (X : MakesX M h C) : Looks M h (keeperOf (.ref C)) .machine := by
  obtain ⟨oc, od, cd, sl, hg, _, _⟩ := X.obj
  refine (Looks.ld (part := none) hg).andThen ?_
  exact X.call.andThen .now
section
variable {w : World} {A₀ A : Around} {E : Value → Shared → Prop} {s : Shared} {h₀ base : Heap} {L : Addr} {m mg mb : Str → Option Value} {news : List (Addr × Obj)} {p : Program} {loose : List Str} {mean : ExcName → Option Value} {env : Env} {Q : Value → Shared → Prop}
  {C fI vl dn : Addr} {vs : List Value} {n nn : Nat} {es : List DictEntry} {kw : List (PySem.Str × Value)}
set_option maxHeartbeats 4000000 in
theorem lawCall_refused {oc : Value} {od : Option Addr} {fd : FuncData} {osl : Array (Option Value)} {body : List Stmt} (B : Below A₀ base [] h₀) (F : Fr h₀ L s.heap m) (XB : (hd.heap_39 w.params).In base) (N : News h₀ L s.heap news) (TB : Top p loose mean mg mb base)
    (hA : A.frames = some [env]) (hf : env.frame = some L) (hke : env.scope.kind = .function) (hh : A.handled = none) (hroom : A.depth + 10 < recursionLimit)
    (hv : (vl, (⟨.type "list", none, .seq vs.toArray n, #[]⟩ : Obj)) ∈ news) (hdn : (dn, dictOf es nn) ∈ news) (hk : KwOf es kw) (hlen : vs.length ≤ 1000) (hdm : (dn == sysModules) = false)
    (hm : ∀ h, (hd.heap_39 w.params).In h → MakesX (model prg4 w) h C)
    (hi : findIn (hd.heap_39 w.params) (.ref C) "__init__" = some (some (.ref fI))) (hfn : isFn (hd.heap_39 w.params) (.ref fI) = true)
    (ho : (hd.heap_39 w.params).lookup fI = some ⟨oc, od, .func fd, osl⟩) (hco : fd.scope.isCoroutine = false) (hgen : fd.scope.isGenerator = false) (hbody : fd.body = .stmts body) (hcd : codeIn (hd.heap_39 w.params) fd.code fd.qualname = true)
    (hb : ∀ x (s' : Shared), (hd.heap_39 w.params).In s'.heap → Refuse (model prg4 w) s' fd ⟨.ref x :: vs, kw⟩)
    (h : ∀ r h' tk, Fr h₀ L h' m → News h₀ L h' ((r, (⟨.type "list", none, .seq #[] 0, #[]⟩ : Obj)) :: news) → Q (.ref r) { s with heap := h', toks := tk }) :
    wpC (model prg4 w) A (call (.ref 160) [.ref C, .ref vl, .ref dn]) Q E s := by
  have X₀ := XB.keeps B.stays
  refine wpC_call (def_S0C (binds := [(PySem.Str.ofString "kind", .ref C), (PySem.Str.ofString "values", .ref vl), (PySem.Str.ofString "named", .ref dn)]) B F X₀ N (TB.keeps B.stays) hA hf hke rfl (by kernel_rfl) (by omega) rfl (by intro y hy; simp only [List.mem_cons, List.not_mem_nil, or_false] at hy; rcases hy with rfl | rfl | rfl <;> rfl) (fun g L' h₁ FG F1 N1 BG XG TG DG => ?_) rfl rfl rfl (by decide))
  refine wpC_execs_cons (wpC_Try (wpC_execs_cons (wpC_Return (wpC_List1 rfl (wpC_CallName ?_)))))
  refine wpAny_Name (wpAny_loadName_local rfl rfl (Fr.ns F1) rfl ?_) (by decide)
  refine callWithC (k := .machine) (evalArgs_starK (.inl rfl) hk F1 N1 hv hdn hdm hlen ?x ?y fun h2 F2 N2 => ⟨?l, ?_⟩)
  case x => exact wpAny_bind (wpAny_Name (wpAny_loadName_local rfl rfl (Fr.ns F1) rfl (wpAny_bind (wpAny_standAt (wpAny_pure ⟨rfl, rfl⟩)))) (by decide))
  case y => intro hh' FF' tk'; exact wpAny_bind (wpAny_Name (wpAny_loadName_local rfl rfl (Fr.ns FF') rfl (wpAny_bind (wpAny_standAt (wpAny_pure ⟨rfl, rfl⟩)))) (by decide))
  case l => exact keeps_cls (hm _ (XG.keeps F2.keep))
  refine class_refusedR F2 XG N2 hm hi hfn hlen ho hco hgen hbody hcd (by show A.depth + 1 + 1 < _; omega) hh hb fun h3 tk3 e z => ?_
  refine caught_new z F2 N2 BG XB TB DG (by kernel_rfl) rfl (by decide) (by kernel_rfl) (by kernel_rfl) (by kernel_rfl) fun h4 g4 T4 F4 N4 B4 X4 TT4 D4 => ?_
  refine wpAny_execs_cons (wpAny_Return_some (wpAny_List (wpAny_pure ⟨Nat.zero_le _, ?_⟩)))
  refine leaveS0_ (F4.push _) (N4.push F4 _) T4 fun F5 N5 => ?_
  exact h _ _ _ F5 N5
end
end Mine
end

-- part W20
section
open PySem PySem.W PySem.Calls PyProof.Rows
open Sem (wp)
namespace Mine
/-- at a code, under the claim's caller -/
def wpAtC {α : Type} (M : Model) (A : Around) (c : Code) (t : Sem α) (Q : α → Shared → Prop) (E : Value → Shared → Prop) (s : Shared) : Prop :=
  ∀ Γ p, Γ.code = c → Γ.In A → Under Γ → wp M Γ t (fun a _ s' => Q a s') (fun e _ s' => E e s') p s
section
variable {α β : Type} {prog : Program} {w : World} {M : Model} {A : Around} {c : Code} {E : Value → Shared → Prop} {s : Shared} {env : Env} {R : Result → Shared → Prop}
theorem wpAtC_at {t : Sem α} {Q : α → Shared → Prop} (h : PySem.wpAt M A c t Q E s) : wpAtC M A c t Q E s := fun Γ p hc hΓ _ => h Γ p hc hΓ
theorem wpAtC_C {t : Sem α} {Q : α → Shared → Prop} (h : wpC M A t Q E s) : wpAtC M A c t Q E s := fun Γ p _ hΓ hU => h Γ p hΓ hU
theorem wpAtC_mono {t : Sem α} {Q Q' : α → Shared → Prop} {E' : Value → Shared → Prop} (h : wpAtC M A c t Q E s) (hQ : ∀ a s, Q a s → Q' a s) (hE : ∀ e s, E e s → E' e s) : wpAtC M A c t Q' E' s :=
  fun Γ p hc hΓ hU => Sem.wp_mono M Γ t (fun a _ s => hQ a s) (fun e _ s => hE e s) p s (h Γ p hc hΓ hU)
theorem wpAtC_bind {m : Sem α} {f : α → Sem β} {Q : β → Shared → Prop} (h : wpAtC M A c m (fun a s' => wpAtC M A c (f a) Q E s') E s) : wpAtC M A c (m >>= f) Q E s := fun Γ p hc hΓ hU => by
  rw [Sem.wp_bind']
  exact Sem.wp_mono M Γ m (fun a p' s' h' => h' Γ p' hc hΓ hU) (fun _ _ _ h' => h') p s (h Γ p hc hΓ hU)
theorem wpAtC_onRaise {m : Sem α} {k : Value → Sem Unit} {Q : α → Shared → Prop} (h : wpAtC M A c m Q (fun e s' => wpAny M A (k e) (fun _ s'' => E e s'') E s') s) : wpAtC M A c (m.onRaise k) Q E s := fun Γ p hc hΓ hU => by
  rw [Sem.wp_onRaise]
  exact Sem.wp_mono M Γ m (fun _ _ _ h' => h') (fun e p' s' h' => h' Γ p' hΓ) p s (h Γ p hc hΓ hU)
theorem codeC_treeAt {c : Code} {R : Result → Shared → Prop}
    (h : wpAtC M (A.under c) c (M.den c) (fun fin s' => match fin with | .done f => R (.ok f) s' | .again c' => c'.quiet = true ∧ codeC M A c' R s') (fun e s' => R (.error e) s') s) : codeC M A c R s := fun Γ p hc hΓ hU => by
  rw [wpCode_iff_wp, hc]
  refine Sem.wp_mono M Γ _ (fun fin p' s' h' => ?_) (fun _ _ _ h' => h') p s (h Γ p hc (hc ▸ hΓ.in) (by unfold Under; rw [hU, Bool.or_true]))
  cases fin with
  | done f => exact h'
  | again c' => exact ⟨h'.1, h'.2 (Γ.goto c') p' rfl (hΓ.goto c') hU⟩
theorem codeC_funcAt {body : List Stmt}
    (h : wpAtC (model prog w) (A.deeper env) (.func body env) (execs body env) (fun f s' => R (.ok (.ret (match f with | .ret v => v | _ => .none))) s')
      (fun e s' => wpAny (model prog w) (A.deeper env) (leaving env e) (fun _ s'' => R (.error e) s'') (fun e' s'' => R (.error e') s'') s') s) : codeC (model prog w) A (.func body env) R s := by
  refine codeC_treeAt ?_
  show wpAtC _ (A.deeper env) _ (do point; match ← (execs body env).onRaise (leaving env) with | .ret v => ret v | _ => ret .none) _ _ s
  refine wpAtC_bind (wpAtC_C (wpC_any (wpAny_point (wpAtC_bind (wpAtC_onRaise (wpAtC_mono h (fun f s' h' => ?_) fun _ _ h' => h'))))))
  cases f <;> exact wpAtC_C (wpC_pure h')
theorem wpAtC_execs_cons {st : Stmt} {rest : List Stmt} {Q : Flow → Shared → Prop} (h : wpAtC M A c (exec st env) (fun f s' => match f with | .next => wpAtC M A c (execs rest env) Q E s' | f => Q f s') E s) :
    wpAtC M A c (execs (st :: rest) env) Q E s := fun Γ p hc hΓ hU => by
  rw [execs_cons, Sem.wp_bind']
  refine Sem.wp_mono M Γ _ (fun f p' s' h' => ?_) (fun _ _ _ h' => h') _ _ (h Γ p hc hΓ hU)
  cases f <;> first | exact h' Γ p' hc hΓ hU | exact h'
theorem wpAtC_Expr {e : Expr} {pos : Pos} {Q : Flow → Shared → Prop} (h : wpAtC (model prog w) A c (eval e env) (fun _ => Q .next) E s)
    (hi : interactive env = false := by rfl) (hs : swapsWith e none pos.line env = pure false := by rfl) : wpAtC (model prog w) A c (exec (.Expr e pos) env) Q E s := by
  rw [exec_Expr env e pos hi hs]
  exact wpAtC_bind (wpAtC_C (wpC_any (wpAny_standAt (wpAtC_bind (wpAtC_mono h (fun v s' h' => wpAtC_C (wpC_any (wpAny_dropValue h'))) fun _ _ x => x)))))
theorem wpAtC_MethodCallStar {o : Expr} {name : Str} {apos pos : Pos} {args : List Expr} {kws : List Keyword} {Q : Value → Shared → Prop}
    (h : PySem.wpAt M A c (attributeBase o name env (eval o env)) (fun ov s₁ => wpAny M A (getAttr ov name true) (fun f s₂ => wpC M A (callWith pos f [] (backTo pos (starEach args env)) (backToKw pos (keywordEach kws env))) Q E s₂) E s₁) E s)
    (hform : methodCallForm (args.length + kws.length) (backTo pos (starEach args env)) (backToKw pos (keywordEach kws env)) = false := by rfl) :
    wpAtC M A c (eval (.Call (.Attribute o name apos) args kws pos) env) Q E s := by
  rw [arm_eval_Call]
  refine wpAtC_bind (wpAtC_mono (wpAtC_at h) (fun ov s₁ h₁ => wpAtC_C (wpC_then (wpAny_standAt ?_))) fun _ _ x => x)
  unfold methodCall
  rw [hform]
  refine wpC_then (wpAny_holding ?_)
  show wpAny M A (getAttr ov name true >>= fun f => pure (f, [])) _ _ _
  refine wpAny_bind (wpAny_mono h₁ (fun f s₂ h₂ => wpAny_pure ?_) fun _ _ x => x)
  dsimp only
  refine wpC_then (m := methodCallPos false o env apos pos) (wpAny_pure ?_)
  exact h₂
end
end Mine
end

-- part W21
section
open PySem PySem.W PySem.Calls PyProof.Rows
namespace Mine
section
variable {M : Model} {A : Around} {E : Value → Shared → Prop} {s' : Shared} {base g g₂ h : Heap} {outer : List Env} {L e : Addr} {m : Str → Option Value} {env : Env} {Q : Unit → Shared → Prop} {news : List (Addr × Obj)}
theorem kts_memX {b : Addr} (hf : env.frame = some L) (hm : b ∈ (env :: outer).filterMap (·.frame)) : b = L ∨ b ∈ outer.filterMap (·.frame) := by
  obtain ⟨env', he, hf'⟩ := List.mem_filterMap.mp hm
  rcases List.mem_cons.mp he with rfl | he
  · exact .inl (Option.some.inj (hf'.symm.trans hf))
  · exact .inr (List.mem_filterMap.mpr ⟨env', he, hf'⟩)
/-- a frame (of any env) left by a new exception -/
theorem leave_newX {cls : String} (K : Below A base outer g) (hx : Heap.NewExc h s'.heap e cls) (F : Fr g L h m) (N : News g L h news) (hf : env.frame = some L) (hk : env.scope.kind = .function)
    (hQ : ∀ h', RaisedSN base g outer e (.type cls) news h' → g.UpToSlots h' → Q () { s' with heap := h' }) :
    wpAny M (A.deeper env) (leaving env (.ref e)) Q E s' := by
  have K' := pushX K F hf hk
  have hin : ∀ env' ∈ (env :: outer), ∀ b, env'.frame = some b → b ∈ (env :: outer).filterMap (·.frame) := fun env' he b hb => List.mem_filterMap.mpr ⟨env', he, hb⟩
  have st : base.StaysIn (hideAll h ((env :: outer).filterMap (·.frame))) := fun b o q => hideAll_get _ (K'.stays b o q) fun hm => by
    rw [(K'.frames.mem hm).1] at q; cases q
  have sg : ∀ b o, g.get? b = some o → b ∉ outer.filterMap (·.frame) → (hideAll h ((env :: outer).filterMap (·.frame))).get? b = some o := fun b o q nm => hideAll_get _ (F.keep b o q) fun hm => by
    rcases kts_memX hf hm with z | z
    · rw [z, kts_self F] at q
      cases q
    · exact nm z
  have hl : ∀ q ∈ news, (hideAll h ((env :: outer).filterMap (·.frame))).get? q.1 = some q.2 ∧ g.get? q.1 = none ∧ base.get? q.1 = none := fun q hq => by
    refine ⟨hideAll_get _ (N q hq).1 fun hm => ?_, (N q hq).2.2, fresh_of_stays K.stays (N q hq).2.2⟩
    rcases kts_memX hf hm with z | z
    · exact (N q hq).2.1 z
    · obtain ⟨o, ho, _⟩ := (K.frames.mem z).2
      rw [(N q hq).2.2] at ho; cases ho
  obtain ⟨ob, tp, he, hcls, hd⟩ := hx.there
  have hen : (hideAll h ((env :: outer).filterMap (·.frame))).get? e = none := by
    cases q : (hideAll h ((env :: outer).filterMap (·.frame))).get? e with
    | none => rfl
    | some o => have := of_hideAll _ q; rw [hx.new] at this; cases this
  refine wpAny_leaving_firstW (a0 := tp) K'.stack ((funFrames_hide K'.frames hin).of_keeps fun b o hb _ => ⟨o, hx.keeps b o hb, rfl⟩) hf he (fun b o hb => hx.keeps b o (of_hideAll _ hb)) hen hd rfl rfl fun h' hL => ?_
  obtain ⟨k1, ⟨_, _, k2⟩, k3, k4⟩ := hL
  have R : RaisedSN base g outer e (.type cls) news h' := ⟨_, tp, st, sg, hl, k1, hen, k2, by rw [← hcls]; exact k3⟩
  exact hQ h' R (((Heap.UpToSlots.of_keeps F.keep).trans (Heap.UpToSlots.of_keeps hx.keeps)).trans k4)
end
end Mine
end

-- part W22
section
open PySem PySem.W PySem.Calls PyProof.Rows Builtin Builtin.ObjectAttr
namespace Mine
section
variable {prog : Program} {w : World} {A₀ A : Around} {s : Shared} {base h₀ : Heap} {outer : List Env} {L : Addr} {m mg mb : Str → Option Value} {env : Env} {news : List (Addr × Obj)} {K : Frag} {p : Program} {loose : List Str} {mean : ExcName → Option Value}
  {R : Result → Shared → Prop} {name qual : Str} {params : Arguments} {body : List Stmt} {scope : Scope} {dV kV doc pm cdv ct oc : Value} {an od : Option Addr} {osl : Array (Option Value)} {f cc : Addr} {args : Args} {binds : List (Str × Value)}

theorem frameAtC {E : Value → Shared → Prop} (B : Below A₀ base outer h₀) (F : Fr h₀ L s.heap m) (N : News h₀ L s.heap news) (hlim : h₀.NoLimit) (hA : A.frames = some (env :: outer)) (hf : env.frame = some L) (hke : env.scope.kind = .function)
    (hloc : ∀ y ∈ binds, scope.names.lookup y.1 = some .local)
    (h : ∀ g L' h₁, Fr h₀ L g m → Fr g L' h₁ (fun y => binds.reverse.lookup y) → News g L' h₁ news → Below A base (env :: outer) g → h₀.StaysIn g → (∀ p ∈ news, p.1 < L') →
      wpAtC (model prog w) (A.deeper (ksEnv qual scope L' f cdv cc)) (.func body (ksEnv qual scope L' f cdv cc)) (execs body (ksEnv qual scope L' f cdv cc))
        (fun fl s' => LeaveK h₀ L m g R (match fl with | .ret v => v | _ => .none) s')
        (fun e s' => wpAny (model prog w) (A.deeper (ksEnv qual scope L' f cdv cc)) (leaving (ksEnv qual scope L' f cdv cc) e) (fun _ s'' => R (.error e) s'') (fun e' s'' => R (.error e') s'') s')
        { s with heap := h₁, toks := s.toks + binds.length })
    (hcell : ∀ x ∈ scope.names, x.2 ≠ .cell) (hk : scope.kind = .function) :
    wpC (model prog w) A.in1 (newFunctionEnv scope mainGlobals [("__class__", cc)] binds (qual ++ ".<locals>.") (some f) cdv none builtinsNs) (fun env' s₂ => s₂.heap.NoLimit ∧ codeC (model prog w) A (.func body env') R s₂) E s := by
  obtain ⟨FG, BG, st, lv⟩ := groundX (R := R) B F N hA hf hke
  refine wpC_any (wpAny_newFunctionEnv hcell hloc (fun h₁ hns hsb => ⟨(hlim.keeps F.keep).fresh _ hsb, codeC_funcAt ?_⟩) hk)
  have hk₁ : ∀ b o, s.heap.get? b = some o → h₁.get? b = some o := fun b o e => hsb.extBut b o (Nat.ne_of_lt (Heap.lt_size e)) (Heap.get?_push_of_some _ e)
  exact wpAtC_mono (h _ s.heap.objs.size h₁ FG ⟨hns, fun b o e => hk₁ b o (of_hideAll _ e), Nat.le_of_eq (hideAll_size _ _)⟩
    (fun p hp => ⟨hk₁ _ _ (N p hp).1, Nat.ne_of_lt (Heap.lt_size (N p hp).1), hideAll_none _ (List.mem_map_of_mem hp)⟩) BG st (fun p hp => Heap.lt_size (N p hp).1)) (fun fl s' hl => lv _ _ hl) fun _ _ y => y

theorem code_bothC {vs : List Value} {nm nr : Str} {ex front : List (Str × Value)} {g₁ : Addr → Sem (List (Str × Value))} {g₂ : Addr → Addr → Sem (List (Str × Value))}
    (B : Below A₀ base outer h₀) (F : Fr h₀ L s.heap m) (X₀ : K.In h₀) (N : News h₀ L s.heap news) (T : Top p loose mean mg mb h₀) (hA : A.frames = some (env :: outer)) (hf : env.frame = some L) (hke : env.scope.kind = .function)
    (ho : K.lookup f = some ⟨oc, od, .func (ksFn name qual params body scope dV kV doc pm an cdv ct cc), osl⟩) (hcd : codeIn K cdv qual = true) (hroom : A.depth < recursionLimit) (hn : kwDistinct ex = true)
    (hp : peekA K ⟨prog, w.params⟩ (bindArgs (ksFn name qual params body scope dV kV doc pm an cdv ct cc) args) = some (tupOf vs, g₁))
    (hp₂ : ∀ D, peekA K ⟨prog, w.params⟩ (g₁ D) = some (dictOf [] 0, g₂ D))
    (hk₂ : ∀ C D, g₂ C D = (forIn ex PUnit.unit (fun x _ => (nsSet D x.1 x.2 >>= fun _ => pure (ForInStep.yield PUnit.unit))) >>= fun _ => pure (front ++ [(nr, Value.ref C)] ++ [(nm, Value.ref D)])))
    (hloc : ∀ C D, ∀ y ∈ front ++ [(nr, Value.ref C)] ++ [(nm, Value.ref D)], scope.names.lookup y.1 = some .local)
    (h : ∀ C D g L' h₁ tk tk', (∀ p ∈ news, p.1 < C) → C < D → (D == sysModules) = false → Fr h₀ L g m → Fr g L' h₁ (fun y => (front ++ [(nr, Value.ref C)] ++ [(nm, Value.ref D)]).reverse.lookup y) →
      News g L' h₁ ((D, dictOf (kwEs w.params tk' ex) ex.length) :: (C, tupOf vs) :: news) → Below A base (env :: outer) g → K.In g → Top p loose mean mg mb g → D < L' →
      wpAtC (model prog w) (A.deeper (ksEnv qual scope L' f cdv cc)) (.func body (ksEnv qual scope L' f cdv cc)) (execs body (ksEnv qual scope L' f cdv cc))
        (fun fl s' => LeaveK h₀ L m g R (match fl with | .ret v => v | _ => .none) s')
        (fun e s' => wpAny (model prog w) (A.deeper (ksEnv qual scope L' f cdv cc)) (leaving (ksEnv qual scope L' f cdv cc) e) (fun _ s'' => R (.error e) s'') (fun e' s'' => R (.error e') s'') s')
        { s with heap := h₁, toks := tk })
    (hco : scope.isCoroutine = false) (hgen : scope.isGenerator = false) (hk : scope.kind = .function)
    (hcell : ∀ x ∈ scope.names, x.2 ≠ .cell) : codeC (model prog w) A (.call (.ref f) args) R s := by
  refine codeC_call_function (fd := ksFn name qual params body scope dV kV doc pm an cdv ct cc) (body := body) hroom ((X₀.keeps F.keep) _ _ ho) rfl hco hgen rfl (codeRec_of (X₀.keeps F.keep) hcd) ?_
  refine wpC_any ?_
  refine wp_of_peekA (o := tupOf vs) F N (X₀.keeps F.keep) rfl _ g₁ hp fun h' F' N' l => ?_
  refine wp_of_peekA (s := { s with heap := h' }) (o := dictOf [] 0) F' N' (X₀.keeps F'.keep) rfl _ (g₂ s.heap.objs.size) (hp₂ _) fun h'' F'' N'' l' => ?_
  rw [hk₂]
  refine wpAny_bind (kp_fill ex { s with heap := h'' } [] 0 F'' N'' (fun p hp => Nat.ne_of_lt (l' p hp)) (fun _ he => nomatch he) (fun _ he => nomatch he) (kwDistinct_nodup hn) fun h₃ F₃ N₃ => wpAny_pure ?_)
  rw [Nat.zero_add, List.nil_append] at N₃
  exact frameAtC (s := { s with heap := h₃, toks := s.toks + ex.length }) B F₃ N₃ T.nolimit hA hf hke (hloc _ _)
    (fun g L' h₁ FG FL NG BG st ll => h _ _ g L' h₁ _ _ l (l' _ (.head _)) (F'.notModules (modules_low T.nolimit)) FG FL NG BG (X₀.keeps st) (T.keeps st) (ll _ (.head _))) hcell hk

theorem frameAtW {E : Value → Shared → Prop} (B : Below A₀ base outer h₀) (F : Fr h₀ L s.heap m) (N : News h₀ L s.heap news) (hlim : h₀.NoLimit) (hA : A.frames = some (env :: outer)) (hf : env.frame = some L) (hke : env.scope.kind = .function)
    (hloc : ∀ y ∈ binds, scope.names.lookup y.1 = some .local)
    (h : ∀ g L' h₁, Fr h₀ L g m → Fr g L' h₁ (fun y => binds.reverse.lookup y) → News g L' h₁ news → Below A base (env :: outer) g → h₀.StaysIn g → (∀ p ∈ news, p.1 < L') →
      PySem.wpAt (model prog w) (A.deeper (ksEnv qual scope L' f cdv cc)) (.func body (ksEnv qual scope L' f cdv cc)) (execs body (ksEnv qual scope L' f cdv cc))
        (fun fl s' => LeaveK h₀ L m g R (match fl with | .ret v => v | _ => .none) s')
        (fun e s' => wpAny (model prog w) (A.deeper (ksEnv qual scope L' f cdv cc)) (leaving (ksEnv qual scope L' f cdv cc) e) (fun _ s'' => R (.error e) s'') (fun e' s'' => R (.error e') s'') s')
        { s with heap := h₁, toks := s.toks + binds.length })
    (hcell : ∀ x ∈ scope.names, x.2 ≠ .cell) (hk : scope.kind = .function) :
    wpAny (model prog w) A.in1 (newFunctionEnv scope mainGlobals [("__class__", cc)] binds (qual ++ ".<locals>.") (some f) cdv none builtinsNs) (fun env' s₂ => s₂.heap.NoLimit ∧ codeAny (model prog w) A (.func body env') R s₂) E s := by
  obtain ⟨FG, BG, st, lv⟩ := groundX (R := R) B F N hA hf hke
  refine wpAny_newFunctionEnv hcell hloc (fun h₁ hns hsb => ⟨(hlim.keeps F.keep).fresh _ hsb, ks_codeAny_funcAt ?_⟩) hk
  have hk₁ : ∀ b o, s.heap.get? b = some o → h₁.get? b = some o := fun b o e => hsb.extBut b o (Nat.ne_of_lt (Heap.lt_size e)) (Heap.get?_push_of_some _ e)
  exact ks_wpAt_mono (h _ s.heap.objs.size h₁ FG ⟨hns, fun b o e => hk₁ b o (of_hideAll _ e), Nat.le_of_eq (hideAll_size _ _)⟩
    (fun p hp => ⟨hk₁ _ _ (N p hp).1, Nat.ne_of_lt (Heap.lt_size (N p hp).1), hideAll_none _ (List.mem_map_of_mem hp)⟩) BG st (fun p hp => Heap.lt_size (N p hp).1)) (fun fl s' hl => lv _ _ hl) fun _ _ y => y

theorem code_bothW {vs : List Value} {nm nr : Str} {ex front : List (Str × Value)} {g₁ : Addr → Sem (List (Str × Value))} {g₂ : Addr → Addr → Sem (List (Str × Value))}
    (B : Below A₀ base outer h₀) (F : Fr h₀ L s.heap m) (X₀ : K.In h₀) (N : News h₀ L s.heap news) (T : Top p loose mean mg mb h₀) (hA : A.frames = some (env :: outer)) (hf : env.frame = some L) (hke : env.scope.kind = .function)
    (ho : K.lookup f = some ⟨oc, od, .func (ksFn name qual params body scope dV kV doc pm an cdv ct cc), osl⟩) (hcd : codeIn K cdv qual = true) (hroom : A.depth < recursionLimit) (hn : kwDistinct ex = true)
    (hp : peekA K ⟨prog, w.params⟩ (bindArgs (ksFn name qual params body scope dV kV doc pm an cdv ct cc) args) = some (tupOf vs, g₁))
    (hp₂ : ∀ D, peekA K ⟨prog, w.params⟩ (g₁ D) = some (dictOf [] 0, g₂ D))
    (hk₂ : ∀ C D, g₂ C D = (forIn ex PUnit.unit (fun x _ => (nsSet D x.1 x.2 >>= fun _ => pure (ForInStep.yield PUnit.unit))) >>= fun _ => pure (front ++ [(nr, Value.ref C)] ++ [(nm, Value.ref D)])))
    (hloc : ∀ C D, ∀ y ∈ front ++ [(nr, Value.ref C)] ++ [(nm, Value.ref D)], scope.names.lookup y.1 = some .local)
    (h : ∀ C D g L' h₁ tk tk', (∀ p ∈ news, p.1 < C) → C < D → (D == sysModules) = false → Fr h₀ L g m → Fr g L' h₁ (fun y => (front ++ [(nr, Value.ref C)] ++ [(nm, Value.ref D)]).reverse.lookup y) →
      News g L' h₁ ((D, dictOf (kwEs w.params tk' ex) ex.length) :: (C, tupOf vs) :: news) → Below A base (env :: outer) g → K.In g → Top p loose mean mg mb g → D < L' →
      PySem.wpAt (model prog w) (A.deeper (ksEnv qual scope L' f cdv cc)) (.func body (ksEnv qual scope L' f cdv cc)) (execs body (ksEnv qual scope L' f cdv cc))
        (fun fl s' => LeaveK h₀ L m g R (match fl with | .ret v => v | _ => .none) s')
        (fun e s' => wpAny (model prog w) (A.deeper (ksEnv qual scope L' f cdv cc)) (leaving (ksEnv qual scope L' f cdv cc) e) (fun _ s'' => R (.error e) s'') (fun e' s'' => R (.error e') s'') s')
        { s with heap := h₁, toks := tk })
    (hco : scope.isCoroutine = false) (hgen : scope.isGenerator = false) (hk : scope.kind = .function)
    (hcell : ∀ x ∈ scope.names, x.2 ≠ .cell) : codeAny (model prog w) A (.call (.ref f) args) R s := by
  refine codeAny_call_function (fd := ksFn name qual params body scope dV kV doc pm an cdv ct cc) (body := body) hroom ((X₀.keeps F.keep) _ _ ho) rfl hco hgen rfl (codeRec_of (X₀.keeps F.keep) hcd) ?_
  skip
  refine wp_of_peekA (o := tupOf vs) F N (X₀.keeps F.keep) rfl _ g₁ hp fun h' F' N' l => ?_
  refine wp_of_peekA (s := { s with heap := h' }) (o := dictOf [] 0) F' N' (X₀.keeps F'.keep) rfl _ (g₂ s.heap.objs.size) (hp₂ _) fun h'' F'' N'' l' => ?_
  rw [hk₂]
  refine wpAny_bind (kp_fill ex { s with heap := h'' } [] 0 F'' N'' (fun p hp => Nat.ne_of_lt (l' p hp)) (fun _ he => nomatch he) (fun _ he => nomatch he) (kwDistinct_nodup hn) fun h₃ F₃ N₃ => wpAny_pure ?_)
  rw [Nat.zero_add, List.nil_append] at N₃
  exact frameAtW (s := { s with heap := h₃, toks := s.toks + ex.length }) B F₃ N₃ T.nolimit hA hf hke (hloc _ _)
    (fun g L' h₁ FG FL NG BG st ll => h _ _ g L' h₁ _ _ l (l' _ (.head _)) (F'.notModules (modules_low T.nolimit)) FG FL NG BG (X₀.keeps st) (T.keeps st) (ll _ (.head _))) hcell hk
end
end Mine
end

-- part W23
section
open PySem PySem.W PySem.Calls PyProof.Rows Builtin Builtin.ObjectAttr
namespace Mine
section
variable {prog : Program} {w : World} {A : Around} {E : Value → Shared → Prop} {s : Shared} {h₀ : Heap} {L : Addr} {m : Str → Option Value} {news news' : List (Addr × Obj)} {K : Frag} {Q : Value → Shared → Prop} {R : Result → Shared → Prop}
theorem method_callC {p : Addr} {f self : Value} {pos : List Value} {kw : List (Str × Value)} (ho : s.heap.get? p = some (methodObj f self))
    (h : codeC (model prog w) A (.call f ⟨self :: pos, kw⟩) R s) : codeC (model prog w) A (.call (.ref p) ⟨pos, kw⟩) R s := by
  refine codeC_of_tree ?_
  have pre : wpAny (model prog w) (A.under (.call (.ref p) ⟨pos, kw⟩)) ((model prog w).den (.call (.ref p) ⟨pos, kw⟩)) (fun fin s' => fin = Fin.again (.call f ⟨self :: pos, kw⟩) ∧ s' = s) (fun _ _ => False) s := by
    obtain ⟨hh, g, dr, t, os⟩ := s
    show wpAny _ _ (callAny (.ref p) _) _ _ _
    dsimp only at ho
    refine nd_load ho ?_
    cases f <;> exact wpAny_pure ⟨rfl, rfl⟩
  refine wpC_mono (wpC_any pre) (fun fin s' z => ?_) fun _ _ z => z.elim
  obtain ⟨rfl, rfl⟩ := z
  exact ⟨rfl, h⟩
/-- call of a bound method with (*args, **kw), the call itself in the caller's logic -/
theorem callWithC_meth {pos : Pos} {x y : Sem Value} {q gf C D : Addr} {self : Value} {T : String} {vs : List Value} {n nn : Nat} {es : List DictEntry} {kw : List (PySem.Str × Value)} (hT : T = "list" ∨ T = "tuple") (hk : KwOf es kw)
    (F : Fr h₀ L s.heap m) (X₀ : K.In h₀) (N : News h₀ L s.heap news) (hq : (q, methodObj (.ref gf) self) ∈ news) (hf : fnIn K gf = true)
    (hC : (C, (⟨.type T, none, .seq vs.toArray n, #[]⟩ : Obj)) ∈ news) (hD : (D, dictOf es nn) ∈ news) (hm : (D == sysModules) = false) (hlen : vs.length ≤ 1000)
    (hx : wpAny (model prog w) A x (fun v s₁ => v = .ref C ∧ s₁ = s) E s)
    (hy : ∀ h', Fr h₀ L h' m → ∀ tk, wpAny (model prog w) A y (fun v s₁ => v = .ref D ∧ s₁ = { s with heap := h', toks := tk }) E { s with heap := h', toks := tk })
    (h : ∀ h', Fr h₀ L h' m → News h₀ L h' news → codeC (model prog w) A (.call (.ref gf) ⟨self :: vs, kw⟩) (fun r s' => match r with | .ok (.ret v) => Q v s' | .ok _ => False | .error e => E e s') { s with heap := h' }) :
    wpC (model prog w) A (callWith pos (.ref q) [] [(true, x)] [(none, y)]) Q E s := by
  unfold callWith
  refine wpC_then (wpAny_holding (evalArgs_starK hT hk F N hC hD hm hlen hx hy fun h' F' N' => ?_))
  refine wpC_then (wpAny_standAt ?_)
  have X' : K.In h' := X₀.keeps F'.keep
  obtain ⟨k, hk, hl⟩ := keeps_M (M := model prog w) hf h' ⟨(N' _ hq).1, X'⟩
  dsimp only
  refine wpC_then (hl _ _ _ _ (fun _ _ e => e) ?_)
  have tail : ∀ {t : Sem Value}, wpC (model prog w) A t Q E { s with heap := h' } → wpC (model prog w) A (t >>= fun r => holding [r] point >>= fun _ => pure r) Q E { s with heap := h' } :=
    fun ht => wpC_bind (wpC_mono ht (fun r s₂ hr => wpC_then (wpAny_holding (wpAny_point (wpC_pure hr)))) fun _ _ x => x)
  have fin : wpC (model prog w) A (call (.ref q) vs kw) Q E { s with heap := h' } := wpC_call (method_callC (N' _ hq).1 (h h' F' N'))
  rcases hk with rfl | rfl | rfl
  · exact tail (by unfold callMarked; exact wpC_keep fin)
  · exact tail (wpC_operate fin)
  · exact tail (wpC_operate fin)
end
def gOf (r : Option (Obj × (Addr → Sem (List (PySem.Str × Value))))) : Addr → Sem (List (PySem.Str × Value)) := match r with | some (_, g) => g | none => fun _ => pure []
/-- how HeaderDefect.__init__ binds these -/
def HdrB (P : Params) (prog : Program) (vs : List Value) (kw : List (PySem.Str × Value)) : Prop :=
  kwDistinct kw = true ∧ ∀ x : Addr, ∃ (g₁ : Addr → Sem (List (PySem.Str × Value))) (g₂ : Addr → Addr → Sem (List (PySem.Str × Value))), peekA (hd.heap_39 P) ⟨prog, P⟩ (bindArgs (fdOf (hd.heap_39 P) 53) ⟨.ref x :: vs, kw⟩) = some (tupOf vs, g₁) ∧ (∀ D, peekA (hd.heap_39 P) ⟨prog, P⟩ (g₁ D) = some (dictOf [] 0, g₂ D)) ∧
    ∀ C D, g₂ C D = (forIn kw PUnit.unit (fun x _ => (nsSet D x.1 x.2 >>= fun _ => pure (ForInStep.yield PUnit.unit))) >>= fun _ => pure ([(PySem.Str.ofString "self", Value.ref x)] ++ [(PySem.Str.ofString "args", Value.ref C)] ++ [(PySem.Str.ofString "kw", Value.ref D)]))
section
variable {P : Params} {prog : Program} {v v' : Value}
theorem hdrB_0 : HdrB P prog [v] [] := ⟨by kernel_rfl, fun x => ⟨gOf (peekA (hd.heap_39 P) ⟨prog, P⟩ (bindArgs (fdOf (hd.heap_39 P) 53) ⟨.ref x :: [v], []⟩)), fun C => gOf (peekA (hd.heap_39 P) ⟨prog, P⟩ (gOf (peekA (hd.heap_39 P) ⟨prog, P⟩ (bindArgs (fdOf (hd.heap_39 P) 53) ⟨.ref x :: [v], []⟩)) C)), by kernel_rfl, fun _ => by kernel_rfl, fun _ _ => by kernel_rfl⟩⟩
theorem hdrB_1 : HdrB P prog [] [(kLine, v)] := ⟨by kernel_rfl, fun x => ⟨gOf (peekA (hd.heap_39 P) ⟨prog, P⟩ (bindArgs (fdOf (hd.heap_39 P) 53) ⟨.ref x :: [], [(kLine, v)]⟩)), fun C => gOf (peekA (hd.heap_39 P) ⟨prog, P⟩ (gOf (peekA (hd.heap_39 P) ⟨prog, P⟩ (bindArgs (fdOf (hd.heap_39 P) 53) ⟨.ref x :: [], [(kLine, v)]⟩)) C)), by kernel_rfl, fun _ => by kernel_rfl, fun _ _ => by kernel_rfl⟩⟩
theorem hdrB_2 : HdrB P prog [] [(kNp, v)] := ⟨by kernel_rfl, fun x => ⟨gOf (peekA (hd.heap_39 P) ⟨prog, P⟩ (bindArgs (fdOf (hd.heap_39 P) 53) ⟨.ref x :: [], [(kNp, v)]⟩)), fun C => gOf (peekA (hd.heap_39 P) ⟨prog, P⟩ (gOf (peekA (hd.heap_39 P) ⟨prog, P⟩ (bindArgs (fdOf (hd.heap_39 P) 53) ⟨.ref x :: [], [(kNp, v)]⟩)) C)), by kernel_rfl, fun _ => by kernel_rfl, fun _ _ => by kernel_rfl⟩⟩
theorem hdrB_3 : HdrB P prog [] [] := ⟨by kernel_rfl, fun x => ⟨gOf (peekA (hd.heap_39 P) ⟨prog, P⟩ (bindArgs (fdOf (hd.heap_39 P) 53) ⟨.ref x :: [], []⟩)), fun C => gOf (peekA (hd.heap_39 P) ⟨prog, P⟩ (gOf (peekA (hd.heap_39 P) ⟨prog, P⟩ (bindArgs (fdOf (hd.heap_39 P) 53) ⟨.ref x :: [], []⟩)) C)), by kernel_rfl, fun _ => by kernel_rfl, fun _ _ => by kernel_rfl⟩⟩
theorem hdrB_4 : HdrB P prog [v'] [(kLine, v)] := ⟨by kernel_rfl, fun x => ⟨gOf (peekA (hd.heap_39 P) ⟨prog, P⟩ (bindArgs (fdOf (hd.heap_39 P) 53) ⟨.ref x :: [v'], [(kLine, v)]⟩)), fun C => gOf (peekA (hd.heap_39 P) ⟨prog, P⟩ (gOf (peekA (hd.heap_39 P) ⟨prog, P⟩ (bindArgs (fdOf (hd.heap_39 P) 53) ⟨.ref x :: [v'], [(kLine, v)]⟩)) C)), by kernel_rfl, fun _ => by kernel_rfl, fun _ _ => by kernel_rfl⟩⟩
theorem hdrB_5 : HdrB P prog [v', v] [] := ⟨by kernel_rfl, fun x => ⟨gOf (peekA (hd.heap_39 P) ⟨prog, P⟩ (bindArgs (fdOf (hd.heap_39 P) 53) ⟨.ref x :: [v', v], []⟩)), fun C => gOf (peekA (hd.heap_39 P) ⟨prog, P⟩ (gOf (peekA (hd.heap_39 P) ⟨prog, P⟩ (bindArgs (fdOf (hd.heap_39 P) 53) ⟨.ref x :: [v', v], []⟩)) C)), by kernel_rfl, fun _ => by kernel_rfl, fun _ _ => by kernel_rfl⟩⟩
theorem hdrB_6 : HdrB P prog [v'] [(kNp, v)] := ⟨by kernel_rfl, fun x => ⟨gOf (peekA (hd.heap_39 P) ⟨prog, P⟩ (bindArgs (fdOf (hd.heap_39 P) 53) ⟨.ref x :: [v'], [(kNp, v)]⟩)), fun C => gOf (peekA (hd.heap_39 P) ⟨prog, P⟩ (gOf (peekA (hd.heap_39 P) ⟨prog, P⟩ (bindArgs (fdOf (hd.heap_39 P) 53) ⟨.ref x :: [v'], [(kNp, v)]⟩)) C)), by kernel_rfl, fun _ => by kernel_rfl, fun _ _ => by kernel_rfl⟩⟩
theorem hdrB_7 : HdrB P prog [] [(kLine, v), (kLines, v')] := ⟨by kernel_rfl, fun x => ⟨gOf (peekA (hd.heap_39 P) ⟨prog, P⟩ (bindArgs (fdOf (hd.heap_39 P) 53) ⟨.ref x :: [], [(kLine, v), (kLines, v')]⟩)), fun C => gOf (peekA (hd.heap_39 P) ⟨prog, P⟩ (gOf (peekA (hd.heap_39 P) ⟨prog, P⟩ (bindArgs (fdOf (hd.heap_39 P) 53) ⟨.ref x :: [], [(kLine, v), (kLines, v')]⟩)) C)), by kernel_rfl, fun _ => by kernel_rfl, fun _ _ => by kernel_rfl⟩⟩
end
end Mine
end

-- part W24
section
open PySem PySem.W PySem.Calls PyProof.Rows Builtin Builtin.ObjectAttr
namespace Mine
section
variable {w : World} {A₀ A : Around} {s : Shared} {base h₀ : Heap} {outer : List Env} {L : Addr} {m mg mb : Str → Option Value} {env : Env} {news : List (Addr × Obj)} {p : Program} {loose : List Str} {mean : ExcName → Option Value}
  {R : Result → Shared → Prop} {C x tu : Addr} {vs : List Value} {kw : List (Str × Value)}
set_option maxHeartbeats 4000000 in
/-- HeaderDefect.__init__, the call of MessageDefect.__init__ in it refused -/
theorem header_refused (B : Below A₀ base outer h₀) (F : Fr h₀ L s.heap m) (X₀ : (hd.heap_39 w.params).In h₀) (N : News h₀ L s.heap news) (T : Top p loose mean mg mb h₀)
    (hA : A.frames = some (env :: outer)) (hf : env.frame = some L) (hke : env.scope.kind = .function) (hh : A.handled = none) (hroom : A.depth + 5 < recursionLimit)
    (hx : (x, excOf0 C tu) ∈ news) (hlen : vs.length ≤ 1000) (hB : HdrB w.params prg4 vs kw) (hkw : ∀ tk, KwOf (kwEs w.params tk kw) kw)
    (hsub : mroIn (hd.heap_39 w.params) C (.ref 56) = some true) (hsup : ks_superIn (hd.heap_39 w.params) C 56 "__init__" = some (some (.ref 31)))
    (hb : ∀ x (s' : Shared), (hd.heap_39 w.params).In s'.heap → Refuse (model prg4 w) s' (fdOf (hd.heap_39 w.params) 31) ⟨.ref x :: vs, kw⟩)
    (h : ∀ g h' tk e, Fr h₀ L g m → RaisedSN base g (env :: outer) e (.type "TypeError") news h' → g.UpToSlots h' → R (.error (.ref e)) { s with heap := h', toks := tk }) :
    codeC (model prg4 w) A (.call (.ref 53) ⟨.ref x :: vs, kw⟩) R s := by
  obtain ⟨hn, hB⟩ := hB
  obtain ⟨g₁, g₂, hp, hp₂, hk₂⟩ := hB x
  refine code_bothC (vs := vs) (ex := kw) (front := [(PySem.Str.ofString "self", Value.ref x)]) (nr := PySem.Str.ofString "args") (nm := PySem.Str.ofString "kw") B F X₀ N T hA hf hke rfl (by kernel_rfl) (by omega) hn hp hp₂ hk₂ (fun C D => ?_) (fun C' D' g L' h₁ tk tk' l1 l2 hdm FG F1 N1 BG XG TG l3 => ?_) rfl rfl rfl (by decide)
  · exact locs rfl
  refine wpAtC_execs_cons (wpAtC_Expr (wpAtC_MethodCallStar ?_))
  have hx' : (x, excOf0 C tu) ∈ ((D', dictOf (kwEs w.params tk' kw) kw.length) :: (C', tupOf vs) :: news) := .tail _ (.tail _ hx)
  refine ks_node F1 XG N1 TG rfl rfl rfl (inst_exc0 N1 hx') rfl rfl (by first | rfl | decide +kernel) rfl rfl hsub (by kernel_rfl) (by decide) rfl rfl rfl rfl (by decide +kernel) (by first | rfl | kernel_rfl) fun so h2 F2 N2 l4 => ?_
  refine getAttr_superK F2 XG N2 (.head _) (inst_exc0 N2 (.tail _ hx')) (by kernel_rfl) hsup (by kernel_rfl) (by decide) fun q h3 F3 N3 l5 => ?_
  refine callWithC_meth (T := "tuple") (.inr rfl) (hkw tk') F3 XG N3 (.head _) (by kernel_rfl) (.tail _ (.tail _ (.tail _ (.head _)))) (.tail _ (.tail _ (.head _))) hdm hlen ?x ?y fun h4 F4 N4 => ?_
  case x => exact wpAny_bind (wpAny_Name (wpAny_loadName_local rfl rfl (Fr.ns F3) rfl (wpAny_bind (wpAny_standAt (wpAny_pure ⟨rfl, rfl⟩)))) (by decide))
  case y => intro hh' FF' tk'; exact wpAny_bind (wpAny_Name (wpAny_loadName_local rfl rfl (Fr.ns FF') rfl (wpAny_bind (wpAny_standAt (wpAny_pure ⟨rfl, rfl⟩)))) (by decide))
  have X4 := XG.keeps F4.keep
  refine refusedR (by show A.depth + 1 < _; omega) hh (X4 31 _ rfl) rfl rfl rfl rfl (codeRec_of X4 (by kernel_rfl)) (hb x _ X4) fun h5 tk5 e z => ?_
  refine leave_newX BG z F4 N4 rfl rfl fun h6 R6 U6 => ?_
  refine h g h6 tk5 e FG ?_ U6
  obtain ⟨b, a0, q1, q2, q3, q4⟩ := R6
  exact ⟨b, a0, q1, q2, fun p hp => q3 p (.tail _ (.tail _ (.tail _ (.tail _ hp)))), q4⟩
end
end Mine
end

-- part W25
section
open PySem PySem.W PySem.Calls PyProof.Rows
namespace Mine
section
variable {w : World} {A₀ A : Around} {E : Value → Shared → Prop} {s : Shared} {h₀ base : Heap} {L : Addr} {m mg mb : Str → Option Value} {news : List (Addr × Obj)} {p : Program} {loose : List Str} {mean : ExcName → Option Value} {env : Env} {Q : Value → Shared → Prop}
  {C vl dn : Addr} {vs : List Value} {n nn : Nat} {es : List DictEntry} {kw : List (PySem.Str × Value)}
set_option maxHeartbeats 4000000 in
theorem lawCall_refusedH (B : Below A₀ base [] h₀) (F : Fr h₀ L s.heap m) (XB : (hd.heap_39 w.params).In base) (N : News h₀ L s.heap news) (TB : Top p loose mean mg mb base)
    (hA : A.frames = some [env]) (hf : env.frame = some L) (hke : env.scope.kind = .function) (hh : A.handled = none) (hroom : A.depth + 10 < recursionLimit)
    (hv : (vl, (⟨.type "list", none, .seq vs.toArray n, #[]⟩ : Obj)) ∈ news) (hdn : (dn, dictOf es nn) ∈ news) (hk : KwOf es kw) (hlen : vs.length ≤ 1000) (hdm : (dn == sysModules) = false)
    (hm : ∀ h, (hd.heap_39 w.params).In h → MakesX (model prg4 w) h C)
    (hi : findIn (hd.heap_39 w.params) (.ref C) "__init__" = some (some (.ref 53)))
    (hB : HdrB w.params prg4 vs kw) (hkw : ∀ tk, KwOf (kwEs w.params tk kw) kw)
    (hsub : mroIn (hd.heap_39 w.params) C (.ref 56) = some true) (hsup : ks_superIn (hd.heap_39 w.params) C 56 "__init__" = some (some (.ref 31)))
    (hb : ∀ x (s' : Shared), (hd.heap_39 w.params).In s'.heap → Refuse (model prg4 w) s' (fdOf (hd.heap_39 w.params) 31) ⟨.ref x :: vs, kw⟩)
    (h : ∀ r h' tk, Fr h₀ L h' m → News h₀ L h' ((r, (⟨.type "list", none, .seq #[] 0, #[]⟩ : Obj)) :: news) → Q (.ref r) { s with heap := h', toks := tk }) :
    wpC (model prg4 w) A (call (.ref 160) [.ref C, .ref vl, .ref dn]) Q E s := by
  have X₀ := XB.keeps B.stays
  refine wpC_call (def_S0C (binds := [(PySem.Str.ofString "kind", .ref C), (PySem.Str.ofString "values", .ref vl), (PySem.Str.ofString "named", .ref dn)]) B F X₀ N (TB.keeps B.stays) hA hf hke rfl (by kernel_rfl) (by omega) rfl (by intro y hy; simp only [List.mem_cons, List.not_mem_nil, or_false] at hy; rcases hy with rfl | rfl | rfl <;> rfl) (fun g L' h₁ FG F1 N1 BG XG TG DG => ?_) rfl rfl rfl (by decide))
  refine wpC_execs_cons (wpC_Try (wpC_execs_cons (wpC_Return (wpC_List1 rfl (wpC_CallName ?_)))))
  refine wpAny_Name (wpAny_loadName_local rfl rfl (Fr.ns F1) rfl ?_) (by decide)
  refine callWithC (k := .machine) (evalArgs_starK (.inl rfl) hk F1 N1 hv hdn hdm hlen ?x ?y fun h2 F2 N2 => ⟨?l, ?_⟩)
  case x => exact wpAny_bind (wpAny_Name (wpAny_loadName_local rfl rfl (Fr.ns F1) rfl (wpAny_bind (wpAny_standAt (wpAny_pure ⟨rfl, rfl⟩)))) (by decide))
  case y => intro hh' FF' tk'; exact wpAny_bind (wpAny_Name (wpAny_loadName_local rfl rfl (Fr.ns FF') rfl (wpAny_bind (wpAny_standAt (wpAny_pure ⟨rfl, rfl⟩)))) (by decide))
  case l => exact keeps_cls (hm _ (XG.keeps F2.keep))
  refine call_excC F2 XG N2 hm hi (by kernel_rfl) hlen fun x tu h3 F3 N3 l1 l2 k3 => ?_
  refine header_refused BG F3 XG N3 TG (Around.frames_deeper BG.stack) rfl rfl hh (by show A.depth + 1 + 1 + 5 < _; omega) (.head _) hlen hB hkw hsub hsup hb fun g4 h4 tk4 e FG4 R4 U4 => ?_
  refine caught_SN0 R4 FG4 BG U4 XB TB DG KtsTurn.refl (by kernel_rfl) rfl (by decide) (by kernel_rfl) (by kernel_rfl) (by kernel_rfl) fun h5 g5 T5 F5 N5 B5 X5 TT5 D5 => ?_
  refine wpAny_execs_cons (wpAny_Return_some (wpAny_List (wpAny_pure ⟨Nat.zero_le _, ?_⟩)))
  refine leaveS0_ (F5.push _) (N5.push F5 _) T5 fun F6 N6 => ?_
  exact h _ _ _ F6 fun p hp => N6 p (by
    rcases List.mem_cons.mp hp with rfl | hp
    · exact .head _
    · exact .tail _ (.tail _ (.tail _ hp)))
end
end Mine
end

-- part W26
section
open PySem PySem.W PySem.Calls PyProof.Rows Builtin Builtin.ObjectAttr
namespace Mine
/-- what a class of the kin gives MessageDefect.__init__ -/
structure Kin (K : Frag) (C : Addr) : Prop where
  set : findIn K (.ref C) "__setattr__" = some (some (.builtin "object.__setattr__"))
  cls : ∃ cd, clsIn K C = some cd ∧ overVal cd.mro = true ∧ cd.hasDict = true
  line : takerIn K C "line" = some none
  sub : mroIn K C (.ref 34) = some true
  sup : ks_superIn K C 34 "__init__" = some (some (.builtin "ValueError.__init__"))
  val : mroIn K C (.type "ValueError") = some true
abbrev lineD (P : Params) (t : Tok) (v : Value) : Obj := dictOf [⟨PyData.keyHash P kLine, .str kLine t, v⟩] 1
section
variable {w : World} {A₀ A : Around} {s : Shared} {base h₀ : Heap} {outer : List Env} {L : Addr} {m mg mb : Str → Option Value} {env : Env} {news : List (Addr × Obj)} {p : Program} {loose : List Str} {mean : ExcName → Option Value}
  {R : Result → Shared → Prop} {C x tu : Addr} {args : Args} {v : Value}
set_option maxHeartbeats 4000000 in
theorem init31_some (B : Below A₀ base outer h₀) (F : Fr h₀ L s.heap m) (X₀ : (hd.heap_39 w.params).In h₀) (N : News h₀ L s.heap ((x, excOf0 C tu) :: news)) (T : Top p loose mean mg mb h₀)
    (hA : A.frames = some (env :: outer)) (hf : env.frame = some L) (hke : env.scope.kind = .function) (hroom : A.depth + 5 < recursionLimit)
    (hne : ∀ p ∈ news, p.1 ≠ x) (kin : Kin (hd.heap_39 w.params) C) (hv : v ≠ .none)
    (hb : ∀ s' : Shared, (hd.heap_39 w.params).In s'.heap → BindsTo s' (fdOf (hd.heap_39 w.params) 31) args [(PySem.Str.ofString "self", .ref x), (kLine, v)])
    (h : ∀ dx tu' h' t tk, Fr h₀ L h' m → News h₀ L h' ((dx, lineD w.params t v) :: (tu', tupOf [v]) :: (x, excOf C dx tu') :: news) → tu' < dx → (∀ p ∈ (x, excOf0 C tu) :: news, p.1 < tu') → R (.ok (.ret .none)) { s with heap := h', toks := tk }) :
    codeAny (model prg4 w) A (.call (.ref 31) args) R s := by
  refine ks_code_super B F X₀ N T hA hf hke rfl (by kernel_rfl) (by omega) (hb s (X₀.keeps F.keep)) (locs rfl) fun g L' h₁ FG F1 N1 BG XG TG l1 => ?_
  refine ks_wpAt_execs_cons (ks_wpAt_If (PySem.wpAt_of_wpAny ?_))
  w_strict k_steps
  refine isnot_none_ne hv ?_
  refine wpAny_of_eq (a := true) rfl ?_
  rw [if_pos rfl]
  refine ks_wpAt_execs_cons (ks_wpAt_Expr_any (ks_wpAt_MethodCall (pl := _) ?_ (by first | rfl | with_unfolding_all rfl)) rfl rfl)
  refine ks_node F1 XG N1 TG rfl rfl rfl (inst_exc0 N1 (.head _)) rfl rfl (by first | rfl | decide +kernel) rfl rfl kin.sub (by kernel_rfl) (by decide) rfl rfl rfl rfl (by decide +kernel) (by first | rfl | kernel_rfl) fun so h2 F2 N2 l4 => ?_
  refine methodB F2 XG N2 (.head _) (inst_exc0 N2 (.tail _ (.head _))) (by kernel_rfl) kin.sup kin.val (by decide) fun q h3 F3 N3 l5 => ?_
  refine callWith_mw N3 (.head _) ?_
  w_strict k_steps
  · exact mwP N3 (.head _)
  obtain ⟨cd, hcd, hov, hhd⟩ := kin.cls
  have q1 : q ≠ x := Nat.ne_of_gt (l5 _ (.tail _ (.head _)))
  have q2 : so ≠ x := Nat.ne_of_gt (l4 _ (.head _))
  refine call_mwK F3 XG N3 hcd (.head _) (.tail q1 (.tail q2 (.head hne))) (Nat.le_of_ble_eq_true rfl) fun h4 F4 N4 l6 => ?_
  refine PySem.wpAt_of_wpAny (wpAny_execs_nil ?_)
  refine ks_wpAt_execs_cons (ks_wpAt_Assign_Attr ?_)
  refine PySem.wpAt_of_wpAny ?_
  w_strict k_steps
  have r1 : h3.objs.size ≠ x := Nat.ne_of_gt (l6 _ (.tail _ (.tail _ (.head _))))
  refine set_exc0K F4 XG N4 (inst_exc0 N4 (.tail _ (.tail _ (.tail _ (.head _))))) kin.set hcd hov kin.line hhd (.tail r1 (.tail q1 (.tail q2 (.head hne)))) fun h5 F5 N5 l7 => ?_
  refine PySem.wpAt_of_wpAny (wpAny_execs_nil ?_)
  refine leaveK_ F5 N5 fun F6 N6 => ?_
  refine h h4.objs.size h3.objs.size h5 (s.toks + 2 + 1 + 1) _ F6 (fun p hp => N6 p ?_) (l7 _ (.head _)) fun p hp => Nat.lt_trans (l5 p (.tail _ hp)) (l6 (q, _) (.head _))
  rcases List.mem_cons.mp hp with rfl | hp
  · exact .head _
  rcases List.mem_cons.mp hp with rfl | hp
  · exact .tail _ (.head _)
  rcases List.mem_cons.mp hp with rfl | hp
  · exact .tail _ (.tail _ (.tail _ (.tail _ (.head _))))
  · exact .tail _ (.tail _ (.tail _ (.tail _ (.tail _ hp))))
set_option maxHeartbeats 4000000 in
theorem init31_none (B : Below A₀ base outer h₀) (F : Fr h₀ L s.heap m) (X₀ : (hd.heap_39 w.params).In h₀) (N : News h₀ L s.heap ((x, excOf0 C tu) :: news)) (T : Top p loose mean mg mb h₀)
    (hA : A.frames = some (env :: outer)) (hf : env.frame = some L) (hke : env.scope.kind = .function) (hroom : A.depth + 5 < recursionLimit)
    (hne : ∀ p ∈ news, p.1 ≠ x) (kin : Kin (hd.heap_39 w.params) C)
    (hb : ∀ s' : Shared, (hd.heap_39 w.params).In s'.heap → BindsTo s' (fdOf (hd.heap_39 w.params) 31) args [(PySem.Str.ofString "self", .ref x), (kLine, .none)])
    (h : ∀ dx h' t tk, Fr h₀ L h' m → News h₀ L h' ((dx, lineD w.params t .none) :: (x, excOf C dx tu) :: news) → (∀ p ∈ (x, excOf0 C tu) :: news, p.1 < dx) → R (.ok (.ret .none)) { s with heap := h', toks := tk }) :
    codeAny (model prg4 w) A (.call (.ref 31) args) R s := by
  refine ks_code_super B F X₀ N T hA hf hke rfl (by kernel_rfl) (by omega) (hb s (X₀.keeps F.keep)) (locs rfl) fun g L' h₁ FG F1 N1 BG XG TG l1 => ?_
  refine ks_wpAt_execs_cons (ks_wpAt_If (PySem.wpAt_of_wpAny ?_))
  w_strict k_steps
  obtain ⟨cd, hcd, hov, hhd⟩ := kin.cls
  refine set_exc0K F1 XG N1 (inst_exc0 N1 (.head _)) kin.set hcd hov kin.line hhd (.head hne) fun h5 F5 N5 l7 => ?_
  refine wpAny_execs_nil ?_
  refine leaveK_ F5 N5 fun F6 N6 => ?_
  exact h _ _ _ _ F6 N6 l7
end
end Mine
end

-- part W27
section
open PySem PySem.W PySem.Calls PyProof.Rows Builtin Builtin.ObjectAttr
namespace Mine
/-- the arguments that stay -/
def tsOf (v : Value) (pos : List Value) : List Value := match v with | .none => pos | v => [v]
/-- what an __init__ leaves behind -/
abbrev InitK (P : Params) (h₀ : Heap) (L : Addr) (m : Str → Option Value) (R : Result → Shared → Prop) (s : Shared) (C x tu : Addr) (pos : List Value) (v : Value) (news : List (Addr × Obj)) : Prop :=
  ∀ dx tu' h' t tk, Fr h₀ L h' m → News h₀ L h' ((dx, lineD P t v) :: (tu', tupOf (tsOf v pos)) :: (x, excOf C dx tu') :: news) → tu ≤ tu' → tu' < dx → (∀ p ∈ (x, excOf0 C tu) :: news, p.1 < dx) → R (.ok (.ret .none)) { s with heap := h', toks := tk }
section
variable {w : World} {A₀ A : Around} {s : Shared} {base h₀ : Heap} {outer : List Env} {L : Addr} {m mg mb : Str → Option Value} {env : Env} {news : List (Addr × Obj)} {p : Program} {loose : List Str} {mean : ExcName → Option Value}
  {R : Result → Shared → Prop} {C x tu : Addr} {args : Args} {v : Value} {pos vs : List Value} {kw : List (Str × Value)}
def Binds31 (w : World) (args : Args) (x : Addr) (v : Value) : Prop := ∀ s' : Shared, (hd.heap_39 w.params).In s'.heap → BindsTo s' (fdOf (hd.heap_39 w.params) 31) args [(PySem.Str.ofString "self", .ref x), (kLine, v)]
theorem init31 (B : Below A₀ base outer h₀) (F : Fr h₀ L s.heap m) (X₀ : (hd.heap_39 w.params).In h₀) (N : News h₀ L s.heap ((x, excOf0 C tu) :: news)) (T : Top p loose mean mg mb h₀)
    (hA : A.frames = some (env :: outer)) (hf : env.frame = some L) (hke : env.scope.kind = .function) (hroom : A.depth + 5 < recursionLimit)
    (hne : ∀ p ∈ news, p.1 ≠ x) (kin : Kin (hd.heap_39 w.params) C) (htu : (tu, tupOf pos) ∈ news) (hb : Binds31 w args x v) (h : InitK w.params h₀ L m R s C x tu pos v news) :
    codeAny (model prg4 w) A (.call (.ref 31) args) R s := by
  by_cases hv : v = .none
  · subst hv
    refine init31_none B F X₀ N T hA hf hke hroom hne kin hb fun dx h' t tk F' N' l => ?_
    refine h dx tu h' t tk F' (fun p hp => N' p ?_) (Nat.le_refl _) (l _ (.tail _ htu)) l
    rcases List.mem_cons.mp hp with rfl | hp
    · exact .head _
    rcases List.mem_cons.mp hp with rfl | hp
    · exact .tail _ (.tail _ htu)
    · exact .tail _ hp
  · refine init31_some B F X₀ N T hA hf hke hroom hne kin hv hb fun dx tu' h' t tk F' N' l1 l2 => ?_
    have e : tsOf v pos = [v] := by unfold tsOf; cases v <;> first | rfl | exact absurd rfl hv
    have N2 : News h₀ L h' ((dx, lineD w.params t v) :: (tu', tupOf (tsOf v pos)) :: (x, excOf C dx tu') :: news) := by rw [e]; exact N'
    exact h dx tu' h' t tk F' N2 (Nat.le_of_lt (l2 _ (.tail _ htu))) l1 fun p hp => Nat.lt_trans (l2 p hp) l1
theorem binds_peek {K : Frag} {fd : FuncData} {binds : List (Str × Value)} (X : K.In s.heap) (e : ∀ S : Setting, peek K S (bindArgs fd args) = some binds) : BindsTo s fd args binds :=
  fun M A E Q hq => Looks.of_peek X (e _) A Q E s (fun _ _ e => e) hq
theorem binds31_0 : Binds31 w ⟨[.ref x, v], []⟩ x v := fun s' X' => binds_peek X' fun S => by kernel_rfl
theorem binds31_1 : Binds31 w ⟨[.ref x], [(kLine, v)]⟩ x v := fun s' X' => binds_peek X' fun S => by kernel_rfl
theorem binds31_3 : Binds31 w ⟨[.ref x], []⟩ x .none := fun s' X' => binds_peek X' fun S => by kernel_rfl
/-- call of a bound method with (*args, **kw) -/
theorem callWith_methK {prog : Program} {E : Value → Shared → Prop} {Q : Value → Shared → Prop} {K : Frag} {ps : Pos} {x y : Sem Value} {q gf C D : Addr} {self : Value} {T : String} {n nn : Nat} {es : List DictEntry} (hT : T = "list" ∨ T = "tuple") (hk : KwOf es kw)
    (F : Fr h₀ L s.heap m) (X₀ : K.In h₀) (N : News h₀ L s.heap news) (hq : (q, methodObj (.ref gf) self) ∈ news) (hf : fnIn K gf = true)
    (hC : (C, (⟨.type T, none, .seq vs.toArray n, #[]⟩ : Obj)) ∈ news) (hD : (D, dictOf es nn) ∈ news) (hm : (D == sysModules) = false) (hlen : vs.length ≤ 1000)
    (hx : wpAny (model prog w) A x (fun v s₁ => v = .ref C ∧ s₁ = s) E s)
    (hy : ∀ h', Fr h₀ L h' m → ∀ tk, wpAny (model prog w) A y (fun v s₁ => v = .ref D ∧ s₁ = { s with heap := h', toks := tk }) E { s with heap := h', toks := tk })
    (h : ∀ h', Fr h₀ L h' m → News h₀ L h' news → codeAny (model prog w) A (.call (.ref gf) ⟨self :: vs, kw⟩) (fun r s' => match r with | .ok (.ret v) => Q v s' | .ok _ => False | .error e => E e s') { s with heap := h' }) :
    wpAny (model prog w) A (callWith ps (.ref q) [] [(true, x)] [(none, y)]) Q E s := by
  unfold callWith
  refine wpAny_bind (wpAny_holding (evalArgs_starK hT hk F N hC hD hm hlen hx hy fun h' F' N' => ?_))
  refine wpAny_bind (wpAny_standAt ?_)
  have X' : K.In h' := X₀.keeps F'.keep
  obtain ⟨k, hk, hl⟩ := keeps_M (M := model prog w) hf h' ⟨(N' _ hq).1, X'⟩
  dsimp only
  refine wpAny_bind (hl _ _ _ _ (fun _ _ e => e) ?_)
  have tail : ∀ {t : Sem Value}, wpAny (model prog w) A t Q E { s with heap := h' } → wpAny (model prog w) A (t >>= fun r => holding [r] point >>= fun _ => pure r) Q E { s with heap := h' } :=
    fun ht => wpAny_bind (wpAny_mono ht (fun r s₂ hr => wpAny_bind (wpAny_holding (wpAny_point (wpAny_pure hr)))) fun _ _ x => x)
  have fin : wpAny (model prog w) A (call (.ref q) vs kw) Q E { s with heap := h' } := wpAny_call (method_call (N' _ hq).1 (h h' F' N'))
  rcases hk with rfl | rfl | rfl
  · exact tail (by unfold callMarked; exact Calls.wpAny_keep fin)
  · exact tail (wpAny_operate' fin)
  · exact tail (wpAny_operate' fin)
/-- what HeaderDefect.__init__ asks of a class besides -/
structure KinH (K : Frag) (C : Addr) : Prop extends Kin K C where
  sub56 : mroIn K C (.ref 56) = some true
  sup31 : ks_superIn K C 56 "__init__" = some (some (.ref 31))
set_option maxHeartbeats 4000000 in
theorem init53 (B : Below A₀ base outer h₀) (F : Fr h₀ L s.heap m) (X₀ : (hd.heap_39 w.params).In h₀) (N : News h₀ L s.heap ((x, excOf0 C tu) :: news)) (T : Top p loose mean mg mb h₀)
    (hA : A.frames = some (env :: outer)) (hf : env.frame = some L) (hke : env.scope.kind = .function) (hroom : A.depth + 8 < recursionLimit)
    (hne : ∀ p ∈ news, p.1 ≠ x) (kin : KinH (hd.heap_39 w.params) C) (htu : (tu, tupOf pos) ∈ news) (hlen : vs.length ≤ 1000) (hB : HdrB w.params prg4 vs kw) (hkw : ∀ tk, KwOf (kwEs w.params tk kw) kw) (hb : Binds31 w ⟨.ref x :: vs, kw⟩ x v) (h : InitK w.params h₀ L m R s C x tu pos v news) :
    codeAny (model prg4 w) A (.call (.ref 53) ⟨.ref x :: vs, kw⟩) R s := by
  obtain ⟨hn, hB⟩ := hB
  obtain ⟨g₁, g₂, hp, hp₂, hk₂⟩ := hB x
  refine code_bothW (vs := vs) (ex := kw) (front := [(PySem.Str.ofString "self", Value.ref x)]) (nr := PySem.Str.ofString "args") (nm := PySem.Str.ofString "kw") B F X₀ N T hA hf hke rfl (by kernel_rfl) (by omega) hn hp hp₂ hk₂ (fun C D => ?_) (fun C' D' g L' h₁ tk tk' l1 l2 hdm FG F1 N1 BG XG TG l3 => ?_) rfl rfl rfl (by decide)
  · exact locs rfl
  refine ks_wpAt_execs_cons (ks_wpAt_Expr_any (wpAt_MethodCallStar ?_) rfl rfl)
  have hx' : (x, excOf0 C tu) ∈ ((D', dictOf (kwEs w.params tk' kw) kw.length) :: (C', tupOf vs) :: (x, excOf0 C tu) :: news) := .tail _ (.tail _ (.head _))
  refine ks_node F1 XG N1 TG rfl rfl rfl (inst_exc0 N1 hx') rfl rfl (by first | rfl | decide +kernel) rfl rfl kin.sub56 (by kernel_rfl) (by decide) rfl rfl rfl rfl (by decide +kernel) (by first | rfl | kernel_rfl) fun so h2 F2 N2 l4 => ?_
  refine getAttr_superK F2 XG N2 (.head _) (inst_exc0 N2 (.tail _ hx')) (by kernel_rfl) kin.sup31 (by kernel_rfl) (by decide) fun q h3 F3 N3 l5 => ?_
  refine callWith_methK (T := "tuple") (.inr rfl) (hkw tk') F3 XG N3 (.head _) (by kernel_rfl) (.tail _ (.tail _ (.tail _ (.head _)))) (.tail _ (.tail _ (.head _))) hdm hlen ?x ?y fun h4 F4 N4 => ?_
  case x => exact wpAny_bind (wpAny_Name (wpAny_loadName_local rfl rfl (Fr.ns F3) rfl (wpAny_bind (wpAny_standAt (wpAny_pure ⟨rfl, rfl⟩)))) (by decide))
  case y => intro hh' FF' tk'; exact wpAny_bind (wpAny_Name (wpAny_loadName_local rfl rfl (Fr.ns FF') rfl (wpAny_bind (wpAny_standAt (wpAny_pure ⟨rfl, rfl⟩)))) (by decide))
  have lx : x < C' := l1 _ (.head _)
  have lD : x < D' := Nat.lt_trans lx l2
  have lso : x < so := l4 _ hx'
  have lq : x < q := l5 _ (.tail _ hx')
  have N4' : News g L' h4 ((x, excOf0 C tu) :: (q, methodObj (.ref 31) (.ref x)) :: (so, ks_superObj 56 x C) :: (D', dictOf (kwEs w.params tk' kw) kw.length) :: (C', tupOf vs) :: news) := fun p hp => N4 p (by
    rcases List.mem_cons.mp hp with rfl | hp
    · exact .tail _ (.tail _ (.tail _ (.tail _ (.head _))))
    rcases List.mem_cons.mp hp with rfl | hp
    · exact .head _
    rcases List.mem_cons.mp hp with rfl | hp
    · exact .tail _ (.head _)
    rcases List.mem_cons.mp hp with rfl | hp
    · exact .tail _ (.tail _ (.head _))
    rcases List.mem_cons.mp hp with rfl | hp
    · exact .tail _ (.tail _ (.tail _ (.head _)))
    · exact .tail _ (.tail _ (.tail _ (.tail _ (.tail _ hp)))))
  refine init31 (pos := pos) BG F4 XG N4' TG (Around.frames_deeper BG.stack) rfl rfl (by show A.depth + 1 + 5 < _; omega) (fun p hp => ?_) kin.toKin (.tail _ (.tail _ (.tail _ (.tail _ htu)))) hb fun dx tu' h5 t5 tk5 F5 N5 l6 l7 l8 => ?_
  · rcases List.mem_cons.mp hp with rfl | hp
    · exact Nat.ne_of_gt lq
    rcases List.mem_cons.mp hp with rfl | hp
    · exact Nat.ne_of_gt lso
    rcases List.mem_cons.mp hp with rfl | hp
    · exact Nat.ne_of_gt lD
    rcases List.mem_cons.mp hp with rfl | hp
    · exact Nat.ne_of_gt lx
    · exact hne p hp
  refine PySem.wpAt_of_wpAny (wpAny_execs_nil ?_)
  refine leaveK_ F5 N5 fun F6 N6 => ?_
  refine h dx tu' h5 t5 tk5 F6 (fun p hp => N6 p ?_) l6 l7 fun p hp => l8 p ?_
  · rcases List.mem_cons.mp hp with rfl | hp
    · exact .head _
    rcases List.mem_cons.mp hp with rfl | hp
    · exact .tail _ (.head _)
    rcases List.mem_cons.mp hp with rfl | hp
    · exact .tail _ (.tail _ (.head _))
    · exact .tail _ (.tail _ (.tail _ (.tail _ (.tail _ (.tail _ (.tail _ hp))))))
  · rcases List.mem_cons.mp hp with rfl | hp
    · exact .head _
    · exact .tail _ (.tail _ (.tail _ (.tail _ (.tail _ hp))))
end
end Mine
end

-- part W28
section
open PySem PySem.W PySem.Calls PyProof.Rows Builtin Builtin.ObjectAttr
namespace Mine
abbrev bothD (P : Params) (t t2 : Tok) (v : Value) : Obj := dictOf [⟨PyData.keyHash P kLine, .str kLine t, v⟩, ⟨PyData.keyHash P kNp, .str kNp t2, v⟩] 2
section
variable {w : World} {A₀ A : Around} {s : Shared} {base h₀ : Heap} {outer : List Env} {L : Addr} {m mg mb : Str → Option Value} {env : Env} {news : List (Addr × Obj)} {p : Program} {loose : List Str} {mean : ExcName → Option Value}
  {R : Result → Shared → Prop} {x tu : Addr} {args : Args} {v : Value} {pos vs : List Value} {kw : List (Str × Value)}
theorem kin108 (P : Params) : KinH (hd.heap_39 P) 108 := ⟨⟨by kernel_rfl, ⟨_, rfl, rfl, rfl⟩, by kernel_rfl, by kernel_rfl, by kernel_rfl, by kernel_rfl⟩, by kernel_rfl, by kernel_rfl⟩
def BindsF (w : World) (fd : FuncData) (args : Args) (l : List (PySem.Str × Value)) : Prop := ∀ s' : Shared, (hd.heap_39 w.params).In s'.heap → BindsTo s' fd args l
theorem BindsF.of {fd : FuncData} {args : Args} {l : List (PySem.Str × Value)} (h : ∀ S, peek (hd.heap_39 w.params) S (bindArgs fd args) = some l) : BindsF w fd args l := fun s' X' => binds_peek X' h
abbrev Binds98 (w : World) (args : Args) (x : Addr) (v : Value) : Prop := BindsF w (fdOf (hd.heap_39 w.params) 98) args [(PySem.Str.ofString "self", .ref x), (kNp, v)]
theorem pk98_0 (P : Params) (S : Setting) : peek (hd.heap_39 P) S (bindArgs (fdOf (hd.heap_39 P) 98) ⟨[.ref x, v], []⟩) = some [(PySem.Str.ofString "self", .ref x), (kNp, v)] := by kernel_rfl
theorem pk98_2 (P : Params) (S : Setting) : peek (hd.heap_39 P) S (bindArgs (fdOf (hd.heap_39 P) 98) ⟨[.ref x], [(kNp, v)]⟩) = some [(PySem.Str.ofString "self", .ref x), (kNp, v)] := by kernel_rfl
theorem binds98_0 : Binds98 w ⟨[.ref x, v], []⟩ x v := by
  refine BindsF.of ?_
  intro S
  exact pk98_0 w.params S
theorem binds98_2 : Binds98 w ⟨[.ref x], [(kNp, v)]⟩ x v := by
  refine BindsF.of ?_
  intro S
  exact pk98_2 w.params S
set_option maxHeartbeats 4000000 in
theorem init98 (B : Below A₀ base outer h₀) (F : Fr h₀ L s.heap m) (X₀ : (hd.heap_39 w.params).In h₀) (N : News h₀ L s.heap ((x, excOf0 108 tu) :: news)) (T : Top p loose mean mg mb h₀)
    (hA : A.frames = some (env :: outer)) (hf : env.frame = some L) (hke : env.scope.kind = .function) (hroom : A.depth + 11 < recursionLimit)
    (hne : ∀ p ∈ news, p.1 ≠ x) (htu : (tu, tupOf pos) ∈ news) (hb : Binds98 w args x v)
    (h : ∀ dx tu' h' t t2 tk, Fr h₀ L h' m → News h₀ L h' ((dx, bothD w.params t t2 v) :: (tu', tupOf (tsOf v pos)) :: (x, excOf 108 dx tu') :: news) → tu ≤ tu' → tu' < dx → (∀ p ∈ (x, excOf0 108 tu) :: news, p.1 < dx) → R (.ok (.ret .none)) { s with heap := h', toks := tk }) :
    codeAny (model prg4 w) A (.call (.ref 98) args) R s := by
  refine ks_code_super B F X₀ N T hA hf hke rfl (by kernel_rfl) (by omega) (hb s (X₀.keeps F.keep)) (locs rfl) fun g L' h₁ FG F1 N1 BG XG TG l1 => ?_
  refine ks_wpAt_execs_cons (ks_wpAt_Expr_any (ks_wpAt_MethodCall (pl := _) ?_ (by first | rfl | with_unfolding_all rfl)) rfl rfl)
  refine ks_node F1 XG N1 TG rfl rfl rfl (inst_exc0 N1 (.head _)) rfl rfl (by first | rfl | decide +kernel) rfl rfl (by kernel_rfl) (by kernel_rfl) (by decide) rfl rfl rfl rfl (by decide +kernel) (by first | rfl | kernel_rfl) fun so h2 F2 N2 l4 => ?_
  refine ks_method (f2 := 53) F2 XG N2 (.head _) (inst_exc0 N2 (.tail _ (.head _))) (by kernel_rfl) (by kernel_rfl) (by kernel_rfl) (by decide) fun q h3 F3 N3 l5 => ?_
  refine callWith_M XG N3 (.head _) (by kernel_rfl) ?_
  w_strict k_steps
  refine wpAny_call (method_call (N3 _ (.head _)).1 ?_)
  have N3' : News g L' h3 ((x, excOf0 108 tu) :: (q, methodObj (.ref 53) (.ref x)) :: (so, ks_superObj 108 x 108) :: news) := fun p hp => N3 p (by
    rcases List.mem_cons.mp hp with rfl | hp
    · exact .tail _ (.tail _ (.head _))
    rcases List.mem_cons.mp hp with rfl | hp
    · exact .head _
    rcases List.mem_cons.mp hp with rfl | hp
    · exact .tail _ (.head _)
    · exact .tail _ (.tail _ (.tail _ hp)))
  have lso : x < so := l4 _ (.head _)
  have lq : x < q := l5 _ (.tail _ (.head _))
  refine init53 (v := v) (vs := [v]) (kw := []) BG F3 XG N3' TG (Around.frames_deeper BG.stack) rfl rfl (by show A.depth + 1 + 8 < _; omega) (fun p hp => ?_) (kin108 _) (.tail _ (.tail _ htu)) (Nat.le_of_ble_eq_true rfl) hdrB_0 (fun _ => .nil) binds31_0 fun dx tu' h5 t5 tk5 F5 N5 l6 l7 l8 => ?_
  · rcases List.mem_cons.mp hp with rfl | hp
    · exact Nat.ne_of_gt lq
    rcases List.mem_cons.mp hp with rfl | hp
    · exact Nat.ne_of_gt lso
    · exact hne p hp
  refine ks_wpAt_execs_cons (ks_wpAt_Assign_Attr ?_)
  refine PySem.wpAt_of_wpAny ?_
  w_strict k_steps
  obtain ⟨cd, hcd, hov, hhd⟩ := (kin108 w.params).cls
  have e1 : ∀ p ∈ (tu', tupOf (tsOf v pos)) :: (x, excOf 108 dx tu') :: (q, methodObj (.ref 53) (.ref x)) :: (so, ks_superObj 108 x 108) :: news, p.1 ≠ dx := fun p hp => by
    rcases List.mem_cons.mp hp with rfl | hp
    · exact Nat.ne_of_lt l7
    rcases List.mem_cons.mp hp with rfl | hp
    · exact Nat.ne_of_lt (l8 (x, excOf0 108 tu) (.head _))
    · exact Nat.ne_of_lt (l8 p (.tail _ hp))
  refine set_exc1K F5 XG N5 (inst_exc N5 (.tail _ (.tail _ (.head _))) (.head _)) (kin108 _).set hcd hov (by kernel_rfl) hhd (by first | rfl | kernel_rfl) (es' := [⟨PyData.keyHash w.params kLine, .str kLine t5, v⟩, ⟨PyData.keyHash w.params kNp, .str kNp (tk5 + 1), v⟩]) (n' := 2) (by first | rfl | kernel_rfl) (.head e1) (Nat.le_of_ble_eq_true rfl) fun h6 F6 N6 => ?_
  refine PySem.wpAt_of_wpAny (wpAny_execs_nil ?_)
  refine leaveK_ F6 N6 fun F7 N7 => ?_
  refine h dx tu' h6 t5 (tk5 + 1) _ F7 (fun p hp => N7 p ?_) l6 l7 fun p hp => l8 p ?_
  · rcases List.mem_cons.mp hp with rfl | hp
    · exact .head _
    rcases List.mem_cons.mp hp with rfl | hp
    · exact .tail _ (.head _)
    rcases List.mem_cons.mp hp with rfl | hp
    · exact .tail _ (.tail _ (.head _))
    · exact .tail _ (.tail _ (.tail _ (.tail _ (.tail _ hp))))
  · rcases List.mem_cons.mp hp with rfl | hp
    · exact .head _
    · exact .tail _ (.tail _ (.tail _ hp))
end
end Mine
end

-- part W29
section
open PySem PySem.W PySem.Calls PyProof.Rows Builtin Builtin.ObjectAttr
namespace Mine
/-- the __init__ fI, called with these on a new object of C, leaves the dict D and the arguments ts behind -/
def InitOk (w : World) (C fI : Addr) (vs : List Value) (kw : List (Str × Value)) (D : Tok → Tok → Obj) (ts : List Value) : Prop :=
  ∀ {A₀ A : Around} {s : Shared} {base h₀ : Heap} {outer : List Env} {L : Addr} {m mg mb : Str → Option Value} {env : Env} {news : List (Addr × Obj)} {p : Program} {loose : List Str} {mean : ExcName → Option Value} {R : Result → Shared → Prop} {x tu : Addr},
    Below A₀ base outer h₀ → Fr h₀ L s.heap m → (hd.heap_39 w.params).In h₀ → News h₀ L s.heap ((x, excOf0 C tu) :: news) → Top p loose mean mg mb h₀ →
    A.frames = some (env :: outer) → env.frame = some L → env.scope.kind = .function → A.depth + 11 < recursionLimit → (∀ p ∈ news, p.1 ≠ x) → (tu, tupOf vs) ∈ news →
    (∀ dx tu' h' t t2 tk, Fr h₀ L h' m → News h₀ L h' ((dx, D t t2) :: (tu', tupOf ts) :: (x, excOf C dx tu') :: news) → tu ≤ tu' → tu' < dx → (∀ p ∈ (x, excOf0 C tu) :: news, p.1 < dx) → R (.ok (.ret .none)) { s with heap := h', toks := tk }) →
    codeAny (model prg4 w) A (.call (.ref fI) ⟨.ref x :: vs, kw⟩) R s
section
variable {w : World} {C : Addr} {v : Value} {vs : List Value} {kw : List (Str × Value)}
theorem ok31 (kin : Kin (hd.heap_39 w.params) C) (hb : ∀ x, Binds31 w ⟨.ref x :: vs, kw⟩ x v) : InitOk w C 31 vs kw (fun t _ => lineD w.params t v) (tsOf v vs) :=
  fun B F X N T hA hf hk hr hne htu h => init31 B F X N T hA hf hk (by omega) hne kin htu (hb _) fun dx tu' h' t tk F' N' a b c => h dx tu' h' t 0 tk F' N' a b c
theorem ok53 (kin : KinH (hd.heap_39 w.params) C) (hlen : vs.length ≤ 1000) (hB : HdrB w.params prg4 vs kw) (hkw : ∀ tk, KwOf (kwEs w.params tk kw) kw) (hb : ∀ x, Binds31 w ⟨.ref x :: vs, kw⟩ x v) : InitOk w C 53 vs kw (fun t _ => lineD w.params t v) (tsOf v vs) :=
  fun B F X N T hA hf hk hr hne htu h => init53 B F X N T hA hf hk (by omega) hne kin htu hlen hB hkw (hb _) fun dx tu' h' t tk F' N' a b c => h dx tu' h' t 0 tk F' N' a b c
theorem ok98 (hb : ∀ x, Binds98 w ⟨.ref x :: vs, kw⟩ x v) : InitOk w 108 98 vs kw (fun t t2 => bothD w.params t t2 v) (tsOf v vs) :=
  fun B F X N T hA hf hk hr hne htu h => init98 B F X N T hA hf hk hr hne htu (hb _) h
end
section
variable {w : World} {A₀ A : Around} {E : Value → Shared → Prop} {s : Shared} {h₀ base : Heap} {L : Addr} {m mg mb : Str → Option Value} {news : List (Addr × Obj)} {p : Program} {loose : List Str} {mean : ExcName → Option Value} {env : Env} {Q : Value → Shared → Prop}
  {C fI vl dn : Addr} {vs ts : List Value} {n nn : Nat} {es : List DictEntry} {kw : List (PySem.Str × Value)} {D : Tok → Tok → Obj}
set_option maxHeartbeats 4000000 in
theorem lawCall_taken (B : Below A₀ base [] h₀) (F : Fr h₀ L s.heap m) (XB : (hd.heap_39 w.params).In base) (N : News h₀ L s.heap news) (TB : Top p loose mean mg mb base)
    (hA : A.frames = some [env]) (hf : env.frame = some L) (hke : env.scope.kind = .function) (hroom : A.depth + 20 < recursionLimit)
    (hv : (vl, (⟨.type "list", none, .seq vs.toArray n, #[]⟩ : Obj)) ∈ news) (hdn : (dn, dictOf es nn) ∈ news) (hk : KwOf es kw) (hlen : vs.length ≤ 1000) (hdm : (dn == sysModules) = false)
    (hm : ∀ h, (hd.heap_39 w.params).In h → MakesX (model prg4 w) h C)
    (hi : findIn (hd.heap_39 w.params) (.ref C) "__init__" = some (some (.ref fI))) (hfn : isFn (hd.heap_39 w.params) (.ref fI) = true)
    (hI : InitOk w C fI vs kw D ts)
    (h : ∀ r x dx tu h' t t2 tk, Fr h₀ L h' m → News h₀ L h' ((r, (⟨.type "list", none, .seq #[.ref x] 0, #[]⟩ : Obj)) :: (dx, D t t2) :: (tu, tupOf ts) :: (x, excOf C dx tu) :: news) → (∀ p ∈ news, p.1 < tu ∧ p.1 < x) → tu < dx → x < dx → dx < r → Q (.ref r) { s with heap := h', toks := tk }) :
    wpC (model prg4 w) A (call (.ref 160) [.ref C, .ref vl, .ref dn]) Q E s := by
  have X₀ := XB.keeps B.stays
  refine wpC_call (def_S0C (binds := [(PySem.Str.ofString "kind", .ref C), (PySem.Str.ofString "values", .ref vl), (PySem.Str.ofString "named", .ref dn)]) B F X₀ N (TB.keeps B.stays) hA hf hke rfl (by kernel_rfl) (by omega) rfl (by intro y hy; simp only [List.mem_cons, List.not_mem_nil, or_false] at hy; rcases hy with rfl | rfl | rfl <;> rfl) (fun g L' h₁ FG F1 N1 BG XG TG DG => ?_) rfl rfl rfl (by decide))
  refine wpC_execs_cons (wpC_Try (wpC_execs_cons (wpC_Return (wpC_List1 rfl (wpC_CallName ?_)))))
  refine wpAny_Name (wpAny_loadName_local rfl rfl (Fr.ns F1) rfl ?_) (by decide)
  refine callWithC (k := .machine) (evalArgs_starK (.inl rfl) hk F1 N1 hv hdn hdm hlen ?x ?y fun h2 F2 N2 => ⟨?l, ?_⟩)
  case x => exact wpAny_bind (wpAny_Name (wpAny_loadName_local rfl rfl (Fr.ns F1) rfl (wpAny_bind (wpAny_standAt (wpAny_pure ⟨rfl, rfl⟩)))) (by decide))
  case y => intro hh' FF' tk'; exact wpAny_bind (wpAny_Name (wpAny_loadName_local rfl rfl (Fr.ns FF') rfl (wpAny_bind (wpAny_standAt (wpAny_pure ⟨rfl, rfl⟩)))) (by decide))
  case l => exact keeps_cls (hm _ (XG.keeps F2.keep))
  refine wpC_any (call_excK F2 XG N2 hm hi hfn hlen fun x tu h3 F3 N3 l1 l2 => ?_)
  refine hI BG F3 XG N3 TG (Around.frames_deeper BG.stack) rfl rfl (by show A.depth + 1 + 1 + 11 < _; omega) (fun p hp => ?_) (.head _) fun dx tu' h4 t t2 tk F4 N4 l3 l4 l5 => ?_
  · rcases List.mem_cons.mp hp with rfl | hp
    · exact Nat.ne_of_lt l2
    · exact Nat.ne_of_lt (Nat.lt_trans (l1 p hp) l2)
  refine ⟨rfl, ?_⟩
  have N5 := N4.push F4 (⟨.type "list", none, .seq #[.ref x] 0, #[]⟩ : Obj)
  refine leaveS0_ (F4.push _) N5 KtsTurn.refl fun F6 N6 => ?_
  refine h h4.objs.size x dx tu' _ t t2 tk F6 (fun p hp => N6 p ?_) (fun p hp => ⟨Nat.lt_of_lt_of_le (l1 p hp) l3, Nat.lt_trans (l1 p hp) l2⟩) l4 (l5 _ (.head _)) (Heap.lt_size (N4 _ (.head _)).1)
  rcases List.mem_cons.mp hp with rfl | hp
  · exact .head _
  rcases List.mem_cons.mp hp with rfl | hp
  · exact .tail _ (.head _)
  rcases List.mem_cons.mp hp with rfl | hp
  · exact .tail _ (.tail _ (.head _))
  rcases List.mem_cons.mp hp with rfl | hp
  · exact .tail _ (.tail _ (.tail _ (.head _)))
  · exact .tail _ (.tail _ (.tail _ (.tail _ (.tail _ hp))))
end
end Mine
end

-- part W30
section
open PySem PySem.W PySem.Calls PyProof.Rows Builtin Builtin.ObjectAttr
namespace Mine
theorem makes34 (w : World) (h : Heap) (X : (hd.heap_39 w.params).In h) : MakesX (model prg4 w) h 34 where
  obj := ⟨_, _, _, _, X 34 _ rfl, rfl, rfl⟩
  isT := Looks.of_peek X (by kernel_rfl)
  made := Looks.of_peek X (by kernel_rfl)
  base := Looks.of_peek X (by kernel_rfl)
  self := Looks.of_peek X (by kernel_rfl)
  val := Looks.of_peek X (by kernel_rfl)
  nA := Looks.of_peek X (by kernel_rfl)
  nN := Looks.of_peek X (by kernel_rfl)
  call := Looks.of_peek X (by kernel_rfl)
  typ := Looks.of_peek X (by kernel_rfl)
theorem makes56 (w : World) (h : Heap) (X : (hd.heap_39 w.params).In h) : MakesX (model prg4 w) h 56 where
  obj := ⟨_, _, _, _, X 56 _ rfl, rfl, rfl⟩
  isT := Looks.of_peek X (by kernel_rfl)
  made := Looks.of_peek X (by kernel_rfl)
  base := Looks.of_peek X (by kernel_rfl)
  self := Looks.of_peek X (by kernel_rfl)
  val := Looks.of_peek X (by kernel_rfl)
  nA := Looks.of_peek X (by kernel_rfl)
  nN := Looks.of_peek X (by kernel_rfl)
  call := Looks.of_peek X (by kernel_rfl)
  typ := Looks.of_peek X (by kernel_rfl)
theorem makes68 (w : World) (h : Heap) (X : (hd.heap_39 w.params).In h) : MakesX (model prg4 w) h 68 where
  obj := ⟨_, _, _, _, X 68 _ rfl, rfl, rfl⟩
  isT := Looks.of_peek X (by kernel_rfl)
  made := Looks.of_peek X (by kernel_rfl)
  base := Looks.of_peek X (by kernel_rfl)
  self := Looks.of_peek X (by kernel_rfl)
  val := Looks.of_peek X (by kernel_rfl)
  nA := Looks.of_peek X (by kernel_rfl)
  nN := Looks.of_peek X (by kernel_rfl)
  call := Looks.of_peek X (by kernel_rfl)
  typ := Looks.of_peek X (by kernel_rfl)
theorem makes80 (w : World) (h : Heap) (X : (hd.heap_39 w.params).In h) : MakesX (model prg4 w) h 80 where
  obj := ⟨_, _, _, _, X 80 _ rfl, rfl, rfl⟩
  isT := Looks.of_peek X (by kernel_rfl)
  made := Looks.of_peek X (by kernel_rfl)
  base := Looks.of_peek X (by kernel_rfl)
  self := Looks.of_peek X (by kernel_rfl)
  val := Looks.of_peek X (by kernel_rfl)
  nA := Looks.of_peek X (by kernel_rfl)
  nN := Looks.of_peek X (by kernel_rfl)
  call := Looks.of_peek X (by kernel_rfl)
  typ := Looks.of_peek X (by kernel_rfl)
theorem makes120 (w : World) (h : Heap) (X : (hd.heap_39 w.params).In h) : MakesX (model prg4 w) h 120 where
  obj := ⟨_, _, _, _, X 120 _ rfl, rfl, rfl⟩
  isT := Looks.of_peek X (by kernel_rfl)
  made := Looks.of_peek X (by kernel_rfl)
  base := Looks.of_peek X (by kernel_rfl)
  self := Looks.of_peek X (by kernel_rfl)
  val := Looks.of_peek X (by kernel_rfl)
  nA := Looks.of_peek X (by kernel_rfl)
  nN := Looks.of_peek X (by kernel_rfl)
  call := Looks.of_peek X (by kernel_rfl)
  typ := Looks.of_peek X (by kernel_rfl)
theorem makes132 (w : World) (h : Heap) (X : (hd.heap_39 w.params).In h) : MakesX (model prg4 w) h 132 where
  obj := ⟨_, _, _, _, X 132 _ rfl, rfl, rfl⟩
  isT := Looks.of_peek X (by kernel_rfl)
  made := Looks.of_peek X (by kernel_rfl)
  base := Looks.of_peek X (by kernel_rfl)
  self := Looks.of_peek X (by kernel_rfl)
  val := Looks.of_peek X (by kernel_rfl)
  nA := Looks.of_peek X (by kernel_rfl)
  nN := Looks.of_peek X (by kernel_rfl)
  call := Looks.of_peek X (by kernel_rfl)
  typ := Looks.of_peek X (by kernel_rfl)
theorem makes144 (w : World) (h : Heap) (X : (hd.heap_39 w.params).In h) : MakesX (model prg4 w) h 144 where
  obj := ⟨_, _, _, _, X 144 _ rfl, rfl, rfl⟩
  isT := Looks.of_peek X (by kernel_rfl)
  made := Looks.of_peek X (by kernel_rfl)
  base := Looks.of_peek X (by kernel_rfl)
  self := Looks.of_peek X (by kernel_rfl)
  val := Looks.of_peek X (by kernel_rfl)
  nA := Looks.of_peek X (by kernel_rfl)
  nN := Looks.of_peek X (by kernel_rfl)
  call := Looks.of_peek X (by kernel_rfl)
  typ := Looks.of_peek X (by kernel_rfl)
theorem makes108 (w : World) (h : Heap) (X : (hd.heap_39 w.params).In h) : MakesX (model prg4 w) h 108 where
  obj := ⟨_, _, _, _, X 108 _ rfl, rfl, rfl⟩
  isT := Looks.of_peek X (by kernel_rfl)
  made := Looks.of_peek X (by kernel_rfl)
  base := Looks.of_peek X (by kernel_rfl)
  self := Looks.of_peek X (by kernel_rfl)
  val := Looks.of_peek X (by kernel_rfl)
  nA := Looks.of_peek X (by kernel_rfl)
  nN := Looks.of_peek X (by kernel_rfl)
  call := Looks.of_peek X (by kernel_rfl)
  typ := Looks.of_peek X (by kernel_rfl)
theorem kin56 (P : Params) : KinH (hd.heap_39 P) 56 := ⟨⟨by kernel_rfl, ⟨_, rfl, rfl, rfl⟩, by kernel_rfl, by kernel_rfl, by kernel_rfl, by kernel_rfl⟩, by kernel_rfl, by kernel_rfl⟩
theorem kin68 (P : Params) : KinH (hd.heap_39 P) 68 := ⟨⟨by kernel_rfl, ⟨_, rfl, rfl, rfl⟩, by kernel_rfl, by kernel_rfl, by kernel_rfl, by kernel_rfl⟩, by kernel_rfl, by kernel_rfl⟩
theorem kin80 (P : Params) : KinH (hd.heap_39 P) 80 := ⟨⟨by kernel_rfl, ⟨_, rfl, rfl, rfl⟩, by kernel_rfl, by kernel_rfl, by kernel_rfl, by kernel_rfl⟩, by kernel_rfl, by kernel_rfl⟩
theorem kin120 (P : Params) : KinH (hd.heap_39 P) 120 := ⟨⟨by kernel_rfl, ⟨_, rfl, rfl, rfl⟩, by kernel_rfl, by kernel_rfl, by kernel_rfl, by kernel_rfl⟩, by kernel_rfl, by kernel_rfl⟩
theorem kin132 (P : Params) : KinH (hd.heap_39 P) 132 := ⟨⟨by kernel_rfl, ⟨_, rfl, rfl, rfl⟩, by kernel_rfl, by kernel_rfl, by kernel_rfl, by kernel_rfl⟩, by kernel_rfl, by kernel_rfl⟩
theorem kin144 (P : Params) : KinH (hd.heap_39 P) 144 := ⟨⟨by kernel_rfl, ⟨_, rfl, rfl, rfl⟩, by kernel_rfl, by kernel_rfl, by kernel_rfl, by kernel_rfl⟩, by kernel_rfl, by kernel_rfl⟩
theorem kin34 (P : Params) : Kin (hd.heap_39 P) 34 := ⟨by kernel_rfl, ⟨_, rfl, rfl, rfl⟩, by kernel_rfl, by kernel_rfl, by kernel_rfl, by kernel_rfl⟩
abbrev lstO (xs : List Value) : Obj := ⟨.type "list", none, .seq xs.toArray 0, #[]⟩
def clsAt (c : Nat) : Addr := match c with | 0 => 34 | 1 => 56 | 2 => 68 | 3 => 80 | 4 => 120 | 5 => 132 | 6 => 144 | _ => 108
def vsAt (k : Nat) (v : Value) : List Value := match k with | 0 => [v] | 4 => [v] | 5 => [v, v] | 6 => [v] | _ => []
def kwAt (k : Nat) (v : Value) : List (Str × Value) := match k with | 1 => [(kLine, v)] | 2 => [(kNp, v)] | 4 => [(kLine, v)] | 6 => [(kNp, v)] | 7 => [(kLine, v), (kLines, v)] | _ => []
def rightAt (c k : Nat) : Bool := if c = 7 then (k == 0 || k == 2) else (k == 0 || k == 1 || k == 3)
def valAt (k : Nat) (v : Value) : Value := if k = 3 then .none else v
def dictAt (P : Params) (c : Nat) (v : Value) (t t2 : Tok) : Obj := if c = 7 then bothD P t t2 v else lineD P t v
section
variable {P : Params} {v : Value}
theorem kwOk (k : Nat) (hk : k < 8) (tk : Tok) : KwOf (kwEs P tk (kwAt k v)) (kwAt k v) := by
  rcases k with _ | _ | _ | _ | _ | _ | _ | _ | k
  · exact .nil
  · exact .one
  · exact .one
  · exact .nil
  · exact .one
  · exact .nil
  · exact .one
  · exact .two (by kernel_rfl)
  · omega
theorem vsLen (k : Nat) : (vsAt k v).length ≤ 1000 := by unfold vsAt; split <;> exact Nat.le_of_ble_eq_true rfl
theorem hdrOk {prog : Program} (k : Nat) (hk : k < 8) : HdrB P prog (vsAt k v) (kwAt k v) := by
  have hk' : k = 0 ∨ k = 1 ∨ k = 2 ∨ k = 3 ∨ k = 4 ∨ k = 5 ∨ k = 6 ∨ k = 7 := by omega
  rcases hk' with rfl | rfl | rfl | rfl | rfl | rfl | rfl | rfl
  · rw [show vsAt 0 v = [v] from rfl, show kwAt 0 v = [] from rfl]; exact hdrB_0
  · rw [show vsAt 1 v = [] from rfl, show kwAt 1 v = [(kLine, v)] from rfl]; exact hdrB_1
  · rw [show vsAt 2 v = [] from rfl, show kwAt 2 v = [(kNp, v)] from rfl]; exact hdrB_2
  · rw [show vsAt 3 v = [] from rfl, show kwAt 3 v = [] from rfl]; exact hdrB_3
  · rw [show vsAt 4 v = [v] from rfl, show kwAt 4 v = [(kLine, v)] from rfl]; exact hdrB_4
  · rw [show vsAt 5 v = [v, v] from rfl, show kwAt 5 v = [] from rfl]; exact hdrB_5
  · rw [show vsAt 6 v = [v] from rfl, show kwAt 6 v = [(kNp, v)] from rfl]; exact hdrB_6
  · rw [show vsAt 7 v = [] from rfl, show kwAt 7 v = [(kLine, v), (kLines, v)] from rfl]; exact hdrB_7
theorem ref31 {M : Model} (k : Nat) (hk : k < 8) (h0 : k ≠ 0) (h1 : k ≠ 1) (h3 : k ≠ 3) (x : Addr) (s' : Shared) (X : (hd.heap_39 P).In s'.heap) : Refuse M s' (fdOf (hd.heap_39 P) 31) ⟨.ref x :: vsAt k v, kwAt k v⟩ := by
  have hk' : k = 2 ∨ k = 4 ∨ k = 5 ∨ k = 6 ∨ k = 7 := by omega
  rcases hk' with rfl | rfl | rfl | rfl | rfl
  · rw [show vsAt 2 v = [] from rfl, show kwAt 2 v = [(kNp, v)] from rfl]; exact @r31_2 P M s' (.ref x) v
  · rw [show vsAt 4 v = [v] from rfl, show kwAt 4 v = [(kLine, v)] from rfl]; exact @r31_4 P M s' (.ref x) v v
  · rw [show vsAt 5 v = [v, v] from rfl, show kwAt 5 v = [] from rfl]; exact @r31_5 P M s' (.ref x) v v X
  · rw [show vsAt 6 v = [v] from rfl, show kwAt 6 v = [(kNp, v)] from rfl]; exact @r31_6 P M s' (.ref x) v v
  · rw [show vsAt 7 v = [] from rfl, show kwAt 7 v = [(kLine, v), (kLines, v)] from rfl]; exact @r31_7 P M s' (.ref x) v
theorem ref98 {M : Model} (k : Nat) (hk : k < 8) (h0 : k ≠ 0) (h2 : k ≠ 2) (x : Addr) (s' : Shared) (_X : (hd.heap_39 P).In s'.heap) : Refuse M s' (fdOf (hd.heap_39 P) 98) ⟨.ref x :: vsAt k v, kwAt k v⟩ := by
  have hk' : k = 1 ∨ k = 3 ∨ k = 4 ∨ k = 5 ∨ k = 6 ∨ k = 7 := by omega
  rcases hk' with rfl | rfl | rfl | rfl | rfl | rfl
  · rw [show vsAt 1 v = [] from rfl, show kwAt 1 v = [(kLine, v)] from rfl]; exact @r98_1 P M s' (.ref x) v
  · rw [show vsAt 3 v = [] from rfl, show kwAt 3 v = [] from rfl]; exact @r98_3 P M s' (.ref x) 
  · rw [show vsAt 4 v = [v] from rfl, show kwAt 4 v = [(kLine, v)] from rfl]; exact @r98_4 P M s' (.ref x) v v
  · rw [show vsAt 5 v = [v, v] from rfl, show kwAt 5 v = [] from rfl]; exact @r98_5 P M s' (.ref x) v v
  · rw [show vsAt 6 v = [v] from rfl, show kwAt 6 v = [(kNp, v)] from rfl]; exact @r98_6 P M s' (.ref x) v v
  · rw [show vsAt 7 v = [] from rfl, show kwAt 7 v = [(kLine, v), (kLines, v)] from rfl]; exact @r98_7 P M s' (.ref x) v
theorem b31 {w : World} (k : Nat) (h : k = 0 ∨ k = 1 ∨ k = 3) (x : Addr) : Binds31 w ⟨.ref x :: vsAt k v, kwAt k v⟩ x (valAt k v) := by
  rcases h with rfl | rfl | rfl
  · rw [show vsAt 0 v = [v] from rfl, show kwAt 0 v = [] from rfl, show valAt 0 v = v from rfl]; exact @binds31_0 w x v
  · rw [show vsAt 1 v = [] from rfl, show kwAt 1 v = [(kLine, v)] from rfl, show valAt 1 v = v from rfl]; exact @binds31_1 w x v
  · rw [show vsAt 3 v = [] from rfl, show kwAt 3 v = [] from rfl, show valAt 3 v = .none from rfl]; exact @binds31_3 w x
theorem b98 {w : World} (k : Nat) (h : k = 0 ∨ k = 2) (x : Addr) : Binds98 w ⟨.ref x :: vsAt k v, kwAt k v⟩ x (valAt k v) := by
  rcases h with rfl | rfl
  · rw [show vsAt 0 v = [v] from rfl, show kwAt 0 v = [] from rfl, show valAt 0 v = v from rfl]; exact @binds98_0 w x v
  · rw [show vsAt 2 v = [] from rfl, show kwAt 2 v = [(kNp, v)] from rfl, show valAt 2 v = v from rfl]; exact @binds98_2 w x v
end
/-- what is asked of a class, and its __init__ -/
structure Cls (w : World) (C fI : Addr) : Prop where
  makes : ∀ h, (hd.heap_39 w.params).In h → MakesX (model prg4 w) h C
  find : findIn (hd.heap_39 w.params) (.ref C) "__init__" = some (some (.ref fI))
theorem cls34 (w : World) : Cls w 34 31 := ⟨makes34 w, by kernel_rfl⟩
theorem cls56 (w : World) : Cls w 56 53 := ⟨makes56 w, by kernel_rfl⟩
theorem cls68 (w : World) : Cls w 68 53 := ⟨makes68 w, by kernel_rfl⟩
theorem cls80 (w : World) : Cls w 80 53 := ⟨makes80 w, by kernel_rfl⟩
theorem cls120 (w : World) : Cls w 120 53 := ⟨makes120 w, by kernel_rfl⟩
theorem cls132 (w : World) : Cls w 132 53 := ⟨makes132 w, by kernel_rfl⟩
theorem cls144 (w : World) : Cls w 144 53 := ⟨makes144 w, by kernel_rfl⟩
theorem cls108 (w : World) : Cls w 108 98 := ⟨makes108 w, by kernel_rfl⟩
section
variable {w : World} {A₀ A : Around} {E : Value → Shared → Prop} {s : Shared} {h₀ base : Heap} {L : Addr} {m mg mb : Str → Option Value} {news : List (Addr × Obj)} {p : Program} {loose : List Str} {mean : ExcName → Option Value} {env : Env} {Q : Value → Shared → Prop}
  {vl dn : Addr} {n nn : Nat} {es : List DictEntry} {v : Value}
/-- what _law_call gives back -/
def CallBack (w : World) (h₀ : Heap) (L : Addr) (m : Str → Option Value) (s : Shared) (Q : Value → Shared → Prop) (c k : Nat) (v : Value) (news : List (Addr × Obj)) : Prop :=
  (rightAt c k = false → ∀ r h' tk, Fr h₀ L h' m → News h₀ L h' ((r, lstO []) :: news) → Q (.ref r) { s with heap := h', toks := tk }) ∧
  (rightAt c k = true → ∀ r x dx tu h' t t2 tk, Fr h₀ L h' m → News h₀ L h' ((r, lstO [.ref x]) :: (dx, dictAt w.params c (valAt k v) t t2) :: (tu, tupOf (tsOf (valAt k v) (vsAt k v))) :: (x, excOf (clsAt c) dx tu) :: news) →
    (∀ p ∈ news, p.1 < tu ∧ p.1 < x) → tu < dx → x < dx → dx < r → Q (.ref r) { s with heap := h', toks := tk })
theorem law_H {k : Nat} {C : Addr} (hk8 : k < 8) (cls : Cls w C 53) (kin : KinH (hd.heap_39 w.params) C) (B : Below A₀ base [] h₀) (F : Fr h₀ L s.heap m) (XB : (hd.heap_39 w.params).In base) (N : News h₀ L s.heap news) (TB : Top p loose mean mg mb base)
    (hA : A.frames = some [env]) (hf : env.frame = some L) (hke : env.scope.kind = .function) (hh : A.handled = none) (hroom : A.depth + 20 < recursionLimit)
    (hv : (vl, (⟨.type "list", none, .seq (vsAt k v).toArray n, #[]⟩ : Obj)) ∈ news) (hdn : (dn, dictOf es nn) ∈ news) (hk : KwOf es (kwAt k v)) (hdm : (dn == sysModules) = false)
    (h0 : (k == 0 || k == 1 || k == 3) = false → ∀ r h' tk, Fr h₀ L h' m → News h₀ L h' ((r, lstO []) :: news) → Q (.ref r) { s with heap := h', toks := tk })
    (h1 : (k == 0 || k == 1 || k == 3) = true → ∀ r x dx tu h' t tk, Fr h₀ L h' m → News h₀ L h' ((r, lstO [.ref x]) :: (dx, lineD w.params t (valAt k v)) :: (tu, tupOf (tsOf (valAt k v) (vsAt k v))) :: (x, excOf C dx tu) :: news) → (∀ p ∈ news, p.1 < tu ∧ p.1 < x) → tu < dx → x < dx → dx < r → Q (.ref r) { s with heap := h', toks := tk }) :
    wpC (model prg4 w) A (call (.ref 160) [.ref C, .ref vl, .ref dn]) Q E s := by
  cases hr : (k == 0 || k == 1 || k == 3) with
  | false =>
    have q : k ≠ 0 ∧ k ≠ 1 ∧ k ≠ 3 := by simpa [and_assoc] using hr
    exact lawCall_refusedH B F XB N TB hA hf hke hh (by omega) hv hdn hk (vsLen k) hdm cls.makes cls.find (hdrOk k hk8) (kwOk k hk8) kin.sub56 kin.sup31 (fun x s' X => ref31 k hk8 q.1 q.2.1 q.2.2 x s' X) fun r h' tk F' N' => h0 hr r h' tk F' N'
  | true =>
    have q : k = 0 ∨ k = 1 ∨ k = 3 := by simpa [or_assoc] using hr
    exact lawCall_taken B F XB N TB hA hf hke hroom hv hdn hk (vsLen k) hdm cls.makes cls.find (by kernel_rfl) (ok53 kin (vsLen k) (hdrOk k hk8) (kwOk k hk8) (b31 k q)) fun r x dx tu h' t t2 tk F' N' a b c d => h1 hr r x dx tu h' t tk F' N' a b c d
theorem lawCall {c k : Nat} (hc8 : c < 8) (hk8 : k < 8) (B : Below A₀ base [] h₀) (F : Fr h₀ L s.heap m) (XB : (hd.heap_39 w.params).In base) (N : News h₀ L s.heap news) (TB : Top p loose mean mg mb base)
    (hA : A.frames = some [env]) (hf : env.frame = some L) (hke : env.scope.kind = .function) (hh : A.handled = none) (hroom : A.depth + 20 < recursionLimit)
    (hv : (vl, (⟨.type "list", none, .seq (vsAt k v).toArray n, #[]⟩ : Obj)) ∈ news) (hdn : (dn, dictOf es nn) ∈ news) (hk : KwOf es (kwAt k v)) (hdm : (dn == sysModules) = false)
    (h : CallBack w h₀ L m s Q c k v news) :
    wpC (model prg4 w) A (call (.ref 160) [.ref (clsAt c), .ref vl, .ref dn]) Q E s := by
  obtain ⟨h0, h1⟩ := h
  rcases c with _ | _ | _ | _ | _ | _ | _ | _ | c
  · cases hr : (k == 0 || k == 1 || k == 3) with
    | false =>
      have q : k ≠ 0 ∧ k ≠ 1 ∧ k ≠ 3 := by simpa [and_assoc] using hr
      exact lawCall_refused B F XB N TB hA hf hke hh (by omega) hv hdn hk (vsLen k) hdm (cls34 w).makes (cls34 w).find (by kernel_rfl) rfl rfl rfl rfl (by kernel_rfl) (fun x s' X => ref31 k hk8 q.1 q.2.1 q.2.2 x s' X) fun r h' tk F' N' => h0 hr r h' tk F' N'
    | true =>
      have q : k = 0 ∨ k = 1 ∨ k = 3 := by simpa [or_assoc] using hr
      exact lawCall_taken B F XB N TB hA hf hke hroom hv hdn hk (vsLen k) hdm (cls34 w).makes (cls34 w).find (by kernel_rfl) (ok31 (kin34 _) (b31 k q)) fun r x dx tu h' t t2 tk F' N' a b c d => h1 hr r x dx tu h' t t2 tk F' N' a b c d
  · exact law_H hk8 (cls56 w) (kin56 _) B F XB N TB hA hf hke hh hroom hv hdn hk hdm (fun hr => h0 hr) fun hr r x dx tu h' t tk F' N' a b c d => h1 hr r x dx tu h' t 0 tk F' N' a b c d
  · exact law_H hk8 (cls68 w) (kin68 _) B F XB N TB hA hf hke hh hroom hv hdn hk hdm (fun hr => h0 hr) fun hr r x dx tu h' t tk F' N' a b c d => h1 hr r x dx tu h' t 0 tk F' N' a b c d
  · exact law_H hk8 (cls80 w) (kin80 _) B F XB N TB hA hf hke hh hroom hv hdn hk hdm (fun hr => h0 hr) fun hr r x dx tu h' t tk F' N' a b c d => h1 hr r x dx tu h' t 0 tk F' N' a b c d
  · exact law_H hk8 (cls120 w) (kin120 _) B F XB N TB hA hf hke hh hroom hv hdn hk hdm (fun hr => h0 hr) fun hr r x dx tu h' t tk F' N' a b c d => h1 hr r x dx tu h' t 0 tk F' N' a b c d
  · exact law_H hk8 (cls132 w) (kin132 _) B F XB N TB hA hf hke hh hroom hv hdn hk hdm (fun hr => h0 hr) fun hr r x dx tu h' t tk F' N' a b c d => h1 hr r x dx tu h' t 0 tk F' N' a b c d
  · exact law_H hk8 (cls144 w) (kin144 _) B F XB N TB hA hf hke hh hroom hv hdn hk hdm (fun hr => h0 hr) fun hr r x dx tu h' t tk F' N' a b c d => h1 hr r x dx tu h' t 0 tk F' N' a b c d
  · cases hr : (k == 0 || k == 2) with
    | false =>
      have q : k ≠ 0 ∧ k ≠ 2 := by simpa [and_assoc] using hr
      exact lawCall_refused B F XB N TB hA hf hke hh (by omega) hv hdn hk (vsLen k) hdm (cls108 w).makes (cls108 w).find (by kernel_rfl) rfl rfl rfl rfl (by kernel_rfl) (fun x s' X => ref98 k hk8 q.1 q.2 x s' X) fun r h' tk F' N' => h0 hr r h' tk F' N'
    | true =>
      have q : k = 0 ∨ k = 2 := by simpa [or_assoc] using hr
      exact lawCall_taken B F XB N TB hA hf hke hroom hv hdn hk (vsLen k) hdm (cls108 w).makes (cls108 w).find (by kernel_rfl) (ok98 (b98 k q)) fun r x dx tu h' t t2 tk F' N' a b c d => h1 hr r x dx tu h' t t2 tk F' N' a b c d
  · omega
end
end Mine
end

-- part W31
section
open PySem PySem.W PySem.Calls PyProof.Rows Builtin Builtin.ObjectAttr
namespace Mine
/-- a value of the law, and what the ledger bears for it -/
inductive ValL : Value → List (Addr × Obj) → Prop
  | none : ValL .none []
  | int {i : Int} {t : Tok} : 0 ≤ i → i < 1000000 → ValL (.int i t) []
  | str {x : Str} {t : Tok} : x.length ≤ 20 → ValL (.str x t) []
  | list {a : Addr} : ValL (.ref a) [(a, W.listOf #[] 0)]
section
variable {w : World} {A₀ A : Around} {E : Value → Shared → Prop} {s : Shared} {h₀ base : Heap} {L : Addr} {m mg mb : Str → Option Value} {news : List (Addr × Obj)} {p : Program} {loose : List Str} {mean : ExcName → Option Value} {env : Env} {Q : Value → Shared → Prop} {outer : List Env}
local macro_rules | `(tactic| k_room) => `(tactic| ((try simp only [depth_under_make, depth_under_kw, depth_in1, depth_deeper, depth_caller]); (try simp only [recursionLimit]); omega))
set_option maxHeartbeats 4000000 in
theorem lawValue {n : Int} {t : Tok} (B : Below A₀ base outer h₀) (F : Fr h₀ L s.heap m) (X₀ : (hd.heap_39 w.params).In h₀) (N : News h₀ L s.heap news) (T : Top p loose mean mg mb h₀)
    (hA : A.frames = some (env :: outer)) (hf : env.frame = some L) (hke : env.scope.kind = .function) (hroom : A.depth + 5 < 1000) (hh : A.handled = none)
    (h : ∀ v nl h' tk, ValL v nl → Fr h₀ L h' m → News h₀ L h' (nl ++ news) → (∀ q ∈ nl, ∀ p ∈ news, p.1 < q.1) → Q v { s with heap := h', toks := tk }) :
    wpAny (model prg4 w) A (call (.ref 153) [.int n t]) Q E s := by
  have : PySem.Challenge.rw_dm0089_04 = PySem.Challenge.rw_dm0089_04 ∧ hd.heap_39 = hd.heap_39 := by (k_fill; exact ⟨rfl, rfl⟩)
  clear this
  refine wpAny_call (code_def (binds := [(PySem.Str.ofString "n", .int n t)]) B F X₀ N T hA hf hke rfl (by kernel_rfl) (by rw [show recursionLimit = 1000 from rfl]; omega) (BindsTo.of_eq rfl) (locs rfl) (fun g L' h₁ FG F1 N1 BG XG TG => ?_) rfl rfl rfl (by decide))
  clear F N
  w_strict k_steps
  rename News g L' _ _ => NN
  rename Fr g L' _ _ => FF
  rename (∀ p ∈ news, p.1 < _) => LT
  have e6 : n.fmod 6 = 0 ∨ n.fmod 6 = 1 ∨ n.fmod 6 = 2 ∨ n.fmod 6 = 3 ∨ n.fmod 6 = 4 ∨ n.fmod 6 = 5 := by
    rw [Int.fmod_eq_emod_of_nonneg n (by decide)]; omega
  have e2 : 0 ≤ n.fmod 1000000 ∧ n.fmod 1000000 < 1000000 := by rw [Int.fmod_eq_emod_of_nonneg n (by decide)]; omega
  have e1 : 0 ≤ n.fmod 1000 ∧ n.fmod 1000 < 1000 := by rw [Int.fmod_eq_emod_of_nonneg n (by decide)]; omega
  have fin : ∀ (vv : Value) (nl : List (Addr × Obj)) (hp : Heap) (tk : Nat), Fr h₀ L hp m → News h₀ L hp (nl ++ news) → (∀ q ∈ nl, ∀ p ∈ news, p.1 < q.1) → ValL vv nl → Q vv { s with heap := hp, toks := tk } := fun vv nl hp tk a b c d => h vv nl hp tk d a b c
  rcases e6 with e | e | e | e | e | e <;> rw [e]
  · refine item_listR ⟨_, (NN _ (.head _)).1, rfl, _, rfl⟩ (by decide) (by decide) (x := .none) rfl ?_
    refine leaveK_ FF NN fun F2 N2 => fin _ [] _ _ F2 (fun p hp => N2 p (.tail _ (.tail _ hp))) (fun _ hq => nomatch hq) .none
  · refine item_listR ⟨_, (NN _ (.head _)).1, rfl, _, rfl⟩ (by decide) (by decide) rfl ?_
    refine leaveK_ FF NN fun F2 N2 => fin _ [] _ _ F2 (fun p hp => N2 p (.tail _ (.tail _ hp))) (fun _ hq => nomatch hq) (.int (by decide) (by decide))
  · refine item_listR ⟨_, (NN _ (.head _)).1, rfl, _, rfl⟩ (by decide) (by decide) rfl ?_
    refine leaveK_ FF NN fun F2 N2 => fin _ [] _ _ F2 (fun p hp => N2 p (.tail _ (.tail _ hp))) (fun _ hq => nomatch hq) (.str (by decide))
  · refine item_listR ⟨_, (NN _ (.head _)).1, rfl, _, rfl⟩ (by decide) (by decide) rfl ?_
    refine leaveK_ FF NN fun F2 N2 => fin _ [_] _ _ F2 (fun p hp => N2 p (.tail _ hp)) (fun q hq => ?_) .list
    rw [List.mem_singleton.mp hq]; exact LT
  · refine item_listR ⟨_, (NN _ (.head _)).1, rfl, _, rfl⟩ (by decide) (by decide) rfl ?_
    refine leaveK_ FF NN fun F2 N2 => fin _ [] _ _ F2 (fun p hp => N2 p (.tail _ (.tail _ hp))) (fun _ hq => nomatch hq) (.str ?_)
    have z := PyProof.Rows.toString_length_le e1.1 (k := 3) (by decide) (by omega)
    rw [PySem.Str.length_append]
    have z2 : (PySem.Str.ofString "Subject: ").length = 9 := by decide
    omega
  · refine item_listR ⟨_, (NN _ (.head _)).1, rfl, _, rfl⟩ (by decide) (by decide) rfl ?_
    refine leaveK_ FF NN fun F2 N2 => fin _ [] _ _ F2 (fun p hp => N2 p (.tail _ (.tail _ hp))) (fun _ hq => nomatch hq) (.int e2.1 e2.2)
end
end Mine
end

-- part W32
section
open PySem PySem.W PySem.Calls PyProof.Rows Builtin Builtin.ObjectAttr
namespace Mine
def lawBody (K : Frag) : List Stmt := match List.lookup 165 K with | some ⟨_, _, .func fd, _⟩ => (match fd.body with | .stmts b => b | _ => []) | _ => []
def lawScope (K : Frag) : Scope := match List.lookup 165 K with | some ⟨_, _, .func fd, _⟩ => fd.scope | _ => default
def lawFor (K : Frag) : List Stmt := match lawBody K with | [_, _, _, _, .For _ _ b _ _, _, _] => b | _ => []
noncomputable abbrev env4 (P : Params) (L fa : Addr) (cd : Value) : Env := envOfC (PySem.Str.ofString "law") (lawScope (hd.heap_39 P)) L fa cd
/-- the law's fixed objects -/
structure Fx where
  R : Addr
  H : Addr
  S : Addr
  Ki : Addr
  ca : Addr
  T : Nat → Addr
  Nm : Nat → Addr
  tp : Nat → Tok
  ta : Nat → Tok
  tb : Nat → Tok
  ws : List Value
def plcAt (k : Nat) : Int := match k with | 0 => 1 | 4 => 1 | 5 => 2 | 6 => 1 | _ => 0
def nmAt (x : Fx) (k : Nat) : List Value := match k with | 1 => [.str kLine (x.ta 1)] | 2 => [.str kNp (x.ta 2)] | 4 => [.str kLine (x.ta 4)] | 6 => [.str kNp (x.ta 6)] | 7 => [.str kLine (x.ta 7), .str kLines (x.tb 7)] | _ => []
abbrev kindsO : Obj := W.listOf #[.ref 34, .ref 56, .ref 68, .ref 80, .ref 120, .ref 132, .ref 144, .ref 108] 0
abbrev shapesO (x : Fx) : Obj := W.listOf #[.ref (x.T 0), .ref (x.T 1), .ref (x.T 2), .ref (x.T 3), .ref (x.T 4), .ref (x.T 5), .ref (x.T 6), .ref (x.T 7)] 0
abbrev tupO (x : Fx) (k : Nat) : Obj := tupOf [.int (plcAt k) (x.tp k), .ref (x.Nm k)]
abbrev nmO (x : Fx) (k : Nat) : Obj := W.listOf (nmAt x k).toArray 0
abbrev mB (x : Fx) (rest : Str → Option Value) : Str → Option Value := fun y => if y = PySem.Str.ofString "run" then some (.ref x.R) else if y = PySem.Str.ofString "held" then some (.ref x.H) else if y = PySem.Str.ofString "shapes" then some (.ref x.S) else if y = PySem.Str.ofString "kinds" then some (.ref x.Ki) else rest y
abbrev mA (x : Fx) (rest : Str → Option Value) (i : Nat) (t : Tok) (c : Nat) (tc : Tok) (k : Nat) (v : Value) : Str → Option Value := fun y =>
  if y = PySem.Str.ofString "value" then some v else if y = PySem.Str.ofString "names" then some (.ref (x.Nm k)) else if y = PySem.Str.ofString "places" then some (.int (plcAt k) (x.tp k)) else if y = PySem.Str.ofString "c" then some (.int (c : Int) tc) else if y = PySem.Str.ofString "at" then some (.int (i : Int) t) else mB x rest y
theorem shapes_get {x : Fx} {k : Nat} (h : k < 8) : (#[.ref (x.T 0), .ref (x.T 1), .ref (x.T 2), .ref (x.T 3), .ref (x.T 4), .ref (x.T 5), .ref (x.T 6), .ref (x.T 7)] : Array Value)[((k : Nat) : Int).toNat]? = some (.ref (x.T k)) := by
  have hk : k = 0 ∨ k = 1 ∨ k = 2 ∨ k = 3 ∨ k = 4 ∨ k = 5 ∨ k = 6 ∨ k = 7 := by omega
  rcases hk with rfl | rfl | rfl | rfl | rfl | rfl | rfl | rfl <;> rfl
theorem fmod8 (a : Int) : ∃ k : Nat, k < 8 ∧ a.fmod 8 = (k : Int) := ⟨(a.fmod 8).toNat, by rw [Int.fmod_eq_emod_of_nonneg a (by decide)]; omega, by rw [Int.fmod_eq_emod_of_nonneg a (by decide)]; omega⟩
def Halt (p : Prop) : Prop := p
theorem Halt.out {p : Prop} (h : Halt p) : p := h
theorem Halt.go {p : Prop} (h : p) : Halt p := h
section
variable {w : World} {E : Value → Shared → Prop} {s : Shared} {h₀ : Heap} {L fa : Addr} {cd : Value} {mg mb : Str → Option Value} {p : Program} {loose : List Str} {mean : ExcName → Option Value} {Q : Flow → Shared → Prop} {x : Fx} {rest : Str → Option Value} {news : List (Addr × Obj)} {ns : List Int} {i : Nat} {t : Tok} {oH oc : Obj}
local macro_rules | `(tactic| walk_at "call ref") => `(tactic| (k_here; (with_reducible show wpAny _ _ (call (Value.ref 153) _) _ _ _); refine Halt.out ?_))
local macro_rules | `(tactic| k_all) => `(tactic| assumption)
set_option maxHeartbeats 4000000 in
theorem blockA (B : Below callerA h₀ [] h₀) (X₀ : (hd.heap_39 w.params).In h₀) (T : Top p loose mean mg mb h₀)
    (F : Fr h₀ L s.heap (fun y => if y = PySem.Str.ofString "at" then some (.int (i : Int) t) else mB x rest y)) (N : News h₀ L s.heap ((x.ca, oc) :: (x.H, oH) :: (x.R, W.listOf x.ws.toArray 0) :: (x.Ki, kindsO) :: (x.S, shapesO x) :: news))
    (hI : IntsAre x.ws ns) (hi : i < ns.length) (hn : ns.length ≤ 64) (hT : ∀ k, k < 8 → (x.T k, tupO x k) ∈ news ∧ (x.Nm k, nmO x k) ∈ news)
    (h : ∀ (c k : Nat) (tc : Tok) (v : Value) (nl : List (Addr × Obj)) (h' : Heap) (tk : Nat), c < 8 → k < 8 → ValL v nl → Fr h₀ L h' (mA x rest i t c tc k v) →
      News h₀ L h' (nl ++ ((x.ca, oc) :: (x.H, oH) :: (x.R, W.listOf x.ws.toArray 0) :: (x.Ki, kindsO) :: (x.S, shapesO x) :: news)) → (∀ q ∈ nl, ∀ p ∈ ((x.ca, oc) :: (x.H, oH) :: (x.R, W.listOf x.ws.toArray 0) :: (x.Ki, kindsO) :: (x.S, shapesO x) :: news), p.1 < q.1) →
      wpC (model prg4 w) (callerA.deeper (env4 w.params L fa cd)) (execs ((lawFor (hd.heap_39 w.params)).drop 3) (env4 w.params L fa cd)) Q E { s with heap := h', toks := tk }) :
    wpC (model prg4 w) (callerA.deeper (env4 w.params L fa cd)) (execs (lawFor (hd.heap_39 w.params)) (env4 w.params L fa cd)) Q E s := by
  have : PySem.Challenge.rw_dm0089_04 = PySem.Challenge.rw_dm0089_04 ∧ hd.heap_39 = hd.heap_39 := by (k_fill; exact ⟨rfl, rfl⟩)
  clear this
  have e1 : lawFor (hd.heap_39 w.params) = lawFor (hd.heap_39 w.params) := rfl
  have e2 : lawScope (hd.heap_39 w.params) = lawScope (hd.heap_39 w.params) := rfl
  conv at e1 => rhs; whnf
  conv at e2 => rhs; whnf
  dsimp only [env4]
  dsimp only [env4] at h
  rw [e1, e2] at h ⊢
  clear e1 e2
  dsimp only [List.drop] at h
  refine execsA ?_
  w_strict k_steps
  obtain ⟨c, hc8, hc⟩ := fmod8 (ns.getD (i : Int).toNat 0)
  rename Fr h₀ L _ _ => F1
  rename News h₀ L _ _ => N1
  rw [hc] at F1
  refine execsA ?_
  w_strict k_steps
  obtain ⟨k, hk8, hk⟩ := fmod8 ((ns.getD (i : Int).toNat 0).fdiv 8)
  rw [hk]
  refine item_listR ⟨_, (N1 _ (.tail _ (.tail _ (.tail _ (.tail _ (.head _)))))).1, rfl, _, rfl⟩ (by omega) (by omega) (shapes_get hk8) ?_
  rename Fr h₀ L _ _ => F2
  have N2 := kst_newsOf N1 (List.forall_mem_cons.mpr ⟨.tail _ (.tail _ (.tail _ (.tail _ (.tail _ (hT k hk8).1)))), fun p hp => hp⟩)
  clear N1
  w_strict k_steps
  rename Fr h₀ L _ _ => F3
  rename News h₀ L _ _ => N3
  refine execsA ?_
  w_strict k_steps
  refine Halt.go ?_
  refine lawValue B F3 X₀ N3 T rfl rfl rfl (by simp only [depth_deeper, depth_caller]; decide) rfl fun v nl h4 tk4 hv F4 N4 l4 => ?_
  w_strict k_steps
  all_goals first | (with_reducible exact True.intro) | skip
  rename Fr h₀ L _ _ => F5
  rename News h₀ L _ _ => N5
  refine h c k _ v nl _ _ hc8 hk8 hv F5 (fun p hp => N5 p ?_) fun q hq p hp => l4 q hq p (.tail _ hp)
  rcases List.mem_append.mp hp with hp | hp
  · exact List.mem_append.mpr (.inl hp)
  · exact List.mem_append.mpr (.inr (.tail _ hp))
end
end Mine
end

-- part W33
section
open PySem PySem.W PySem.Calls PyProof.Rows PyProof.V PySem.Spec
namespace Mine
section
variable {prog : Program} {w : World} {A : Around} {E : Value → Shared → Prop} {s : Shared} {env : Env} {h₀ : Heap} {target : Expr} {body : List Stmt} {Q : Flow → Shared → Prop}
/-- for over a made list in the caller's logic, any target, with a ledger that may grow -/
theorem loopC_list {l : Addr} {vs : List Value} {nn : Nat} {m₀ : PySem.Str → Option Value} {news : List (Addr × Obj)} (J : Nat → (PySem.Str → Option Value) → List (Addr × Obj) → Prop)
    (hh : A.handled = none) (hl : (l, listOf vs.toArray nn) ∈ news) (F : Fr h₀ env.locals s.heap m₀) (N : News h₀ env.locals s.heap news) (hj : J 0 m₀ news)
    (hkeep : ∀ i m nx, J i m nx → (l, listOf vs.toArray nn) ∈ nx) (ht : ∀ it v, letOwnedTupleGo target (.ref it) v = pure ())
    (turn : ∀ (i : Nat) (v : Value) (m₁ : PySem.Str → Option Value) (nx : List (Addr × Obj)) (h : Heap) (tk : Nat) (own : List (Addr × Obj)), vs[i]? = some v → TbOff own nx → J i m₁ nx → Fr h₀ env.locals h m₁ → News h₀ env.locals h (nx ++ own) →
      wpAny (model prog w) A (assign target env v) (fun _ s₂ => wpC (model prog w) A (execs body env) (TbPost h₀ env.locals (J (i + 1)) own { s with heap := h, toks := tk } Q) (fun _ _ => False) s₂) (fun _ _ => False) { s with heap := h, toks := tk })
    (done : ∀ m₁ nx h tk, J vs.length m₁ nx → Fr h₀ env.locals h m₁ → News h₀ env.locals h nx → Q .next { s with heap := h, toks := tk }) :
    wpAny (model prog w) A (pyIter (.ref l)) (fun it s₂ => codeC (model prog w) A (.forLoop target it body [] env) (fun r s' => match r with | .ok f => Q f s' | .error e => cameBackBy (model prog w) A env E e s') s₂) E s := by
  have hol : s.heap.get? l = some (listOf vs.toArray nn) := (N _ hl).1
  have hls : s.heap.IsList l vs.toArray := ⟨_, hol, rfl, nn, rfl⟩
  have hne : l ≠ s.heap.objs.size := Nat.ne_of_lt (Heap.lt_size hol)
  refine wpAny_pyIter_list hls ?_
  have W := Walks.list (prog := prog) (w := w) hh s.heap.objs.size l hne vs.toArray
  have hlen : vs.toArray.size = vs.length := by simp
  rw [hlen] at W
  have hL : env.locals ≠ s.heap.objs.size := Nat.ne_of_lt F.ns.lt
  have hI : h₀.get? s.heap.objs.size = none := next_is_new F
  have next : ∀ {h h₁ : Heap} {m : PySem.Str → Option Value} {nx : List (Addr × Obj)}, Fr h₀ env.locals h m → News h₀ env.locals h nx → (∀ p ∈ nx, p.1 ≠ s.heap.objs.size) → (∀ b o, b ∉ [s.heap.objs.size] → h.get? b = some o → h₁.get? b = some o) →
      Fr h₀ env.locals h₁ m ∧ News h₀ env.locals h₁ nx := fun F N off k =>
    ⟨⟨F.ns.at' fun o e => k _ o (by simpa using hL) e, fun b o e => k b o (fun hm => by rw [List.mem_singleton.mp hm, hI] at e; cases e) (F.keep b o e), F.above⟩, fun p hp => ⟨k _ _ (by simpa using off p hp) (N p hp).1, (N p hp).2⟩⟩
  refine codeC_forLoop (fun k s' => ∃ h tk m nx i, s' = { s with heap := h, toks := tk } ∧ h.IsListIter s.heap.objs.size l i ∧ Fr h₀ env.locals h m ∧ News h₀ env.locals h nx ∧ (∀ p ∈ nx, p.1 ≠ s.heap.objs.size) ∧ J i m nx ∧ i ≤ vs.length ∧ k = vs.length + 1 - i) ?_ (vs.length + 1)
    ⟨_, s.toks, m₀, news, 0, rfl, ⟨_, Heap.get?_push_size _ rfl, rfl, rfl⟩, F.push _, (fun p hp => ⟨Heap.get?_push_of_some _ (N p hp).1, (N p hp).2⟩), (fun p hp => Nat.ne_of_lt (Heap.lt_size (N p hp).1)), hj, Nat.zero_le _, rfl⟩
  rintro k s' ⟨h, tk, m, nx, i, rfl, hst, F', N', off, hJ, hi, rfl⟩
  have hlst : h.IsList l vs.toArray := ⟨_, (N' _ (hkeep i m nx hJ)).1, rfl, nn, rfl⟩
  by_cases hlt : i < vs.length
  · refine W.item i _ _ _ hlt ⟨hst, hlst⟩ fun v h₁ tk₁ hP hst₁ hk₁ => ?_
    obtain ⟨F₁, N₁⟩ := next F' N' off hk₁
    dsimp only
    refine wpAny_of_eq (a := ()) (ht _ _) ?_
    obtain ⟨⟨oi, hI₁, q1, q2⟩, _⟩ := hst₁
    refine wpAny_mono (turn i v m nx h₁ tk₁ [(s.heap.objs.size, oi)] (by simpa using hP) ?_ hJ F₁ (fun p hp => ?_)) (fun _ s₂ z => wpC_mono z (fun f s₃ z => ?_) fun _ _ z => z) fun _ _ z => z
    · intro p hp q hq
      rw [List.mem_singleton.mp hp]
      exact Ne.symm (off q hq)
    · rcases List.mem_append.mp hp with hp | hp
      · exact N₁ p hp
      · rw [List.mem_singleton.mp hp]; exact ⟨hI₁, Ne.symm hL, hI⟩
    · have fin : TbEnd h₀ env.locals (J (i + 1)) [(s.heap.objs.size, oi)] { s with heap := h₁, toks := tk₁ } s₃ → ∃ m', m' < vs.length + 1 - i ∧ ∃ h tk m nx i, s₃ = { s with heap := h, toks := tk } ∧ h.IsListIter s.heap.objs.size l i ∧ Fr h₀ env.locals h m ∧ News h₀ env.locals h nx ∧ (∀ p ∈ nx, p.1 ≠ s.heap.objs.size) ∧ J i m nx ∧ i ≤ vs.length ∧ m' = vs.length + 1 - i := by
        rintro ⟨h', tk', m', news', nx', e, F3, N3, hsub, hown, hoff, hJ'⟩
        exact ⟨vs.length + 1 - (i + 1), by omega, h', tk', m', nx', i + 1, e, ⟨oi, (N3 _ (hown _ (.head _))).1, q1, q2⟩, F3, fun p hp => N3 p (hsub p hp), fun p hp => Ne.symm (hoff _ (.head _) p hp), hJ', hlt, rfl⟩
      cases f with
      | next => exact fin z
      | cont => exact fin z
      | brk => exact z
      | ret v => exact z
  · have hin : i = vs.length := by omega
    subst hin
    refine W.done _ _ _ ⟨hst, hlst⟩ fun h₁ tk₁ hk₁ => ?_
    obtain ⟨F₁, N₁⟩ := next F' N' off hk₁
    exact done m nx h₁ tk₁ hJ F₁ N₁
end
end Mine
end

-- part W34
section
open PySem PySem.W PySem.Calls PyProof.Rows Builtin Builtin.ObjectAttr
namespace Mine
section
variable {prog : Program} {w : World} {A : Around} {E : Value → Shared → Prop} {s : Shared} {h₀ : Heap} {L d : Addr} {m : Str → Option Value} {news : List (Addr × Obj)} {o : Obj} {kvs : List (Str × Value)} {k : Str} {t : Tok} {v : Value}
theorem setItem_str {Q : Unit → Shared → Prop} (F : Fr h₀ L s.heap m) (N : News h₀ L s.heap ((d, o) :: news)) (h2 : ∀ p ∈ news, p.1 ≠ d) (hd : o.IsDictOf (PySem.strKind prog w) kvs) (hsz : kvs.length ≤ 1000)
    (h : ∀ h' o', Fr h₀ L h' m → News h₀ L h' ((d, o') :: news) → o'.IsDictOf (PySem.strKind prog w) (stored kvs k v) → Q () { s with heap := h', toks := s.toks + 1 }) :
    wpAny (model prog w) A (setItem (.ref d) (.str k t) v) Q E s := by
  have hm := N (d, o) (.head _)
  refine wpAny_setItem_pairs (knd := PySem.strKind prog w) (k := k) (hsz := by rw [sizeLine_eq]; omega) (by show Value.isStrOf k (.str k t) = true; simp [Value.isStrOf]) (Heap.dictOf_iff.mpr ⟨o, hm.1, hd⟩) fun h' hmm hs => ?_
  obtain ⟨o', ho', hd'⟩ := Heap.dictOf_iff.mp hmm
  exact h h' o' (F.change hs hm.2.1 hm.2.2) (News.setIn (own := []) N (fun _ hp => nomatch hp) h2 hs ho') hd'
theorem dict_empty : (dictOf [] 0).IsDictOf (PySem.strKind prog w) [] := ⟨#[], 0, ⟨rfl, rfl, rfl⟩, rfl, (fun e he => by simp at he), .nil, .nil⟩
theorem kw_of_dict (hd : o.IsDictOf (PySem.strKind prog w) kvs) (hlen : kvs.length ≤ 2) : ∃ es nn, o = dictOf es nn ∧ KwOf es kvs := by
  obtain ⟨es, ep, ⟨e1, e2, e3⟩, e4, _, hp, hnd⟩ := hd
  obtain ⟨oc, od, oda, osl⟩ := o
  dsimp only at e1 e2 e3 e4
  subst e1 e2 e3 e4
  refine ⟨es.toList, ep, rfl, ?_⟩
  generalize es.toList = l at hp
  cases hp with
  | nil => exact .nil
  | cons a b c =>
    rename_i e kv es' kvs'
    obtain ⟨hs, ky, vl⟩ := e
    obtain ⟨k1, v1⟩ := kv
    obtain ⟨t1, rfl⟩ := Value.isStrOf_shape a
    dsimp only at b
    subst b
    cases c with
    | nil => exact .one
    | cons a' b' c' =>
      rename_i e' kv' es'' kvs''
      obtain ⟨hs', ky', vl'⟩ := e'
      obtain ⟨k2, v2⟩ := kv'
      obtain ⟨t2, rfl⟩ := Value.isStrOf_shape a'
      dsimp only at b'
      subst b'
      cases c' with
      | nil =>
        refine .two ?_
        have hne : k1 ≠ k2 := by
          intro q
          simp [q] at hnd
        show (k1 == k2) = false
        exact beq_eq_false_iff_ne.mpr hne
      | cons _ _ _ => simp at hlen
end
theorem nm_turn {x : Fx} {k : Nat} (hk : k < 8) {v vv : Value} {i : Nat} (h : (nmAt x k)[i]? = some vv) : ∃ y t, vv = .str y t ∧ stored ((kwAt k v).take i) y v = (kwAt k v).take (i + 1) := by
  have hk' : k = 0 ∨ k = 1 ∨ k = 2 ∨ k = 3 ∨ k = 4 ∨ k = 5 ∨ k = 6 ∨ k = 7 := by omega
  have two : ∀ {y : Str} {t : Tok}, kwAt k v = [(y, v)] → nmAt x k = [.str y t] → ∃ y t, vv = .str y t ∧ stored ((kwAt k v).take i) y v = (kwAt k v).take (i + 1) := by
    intro y t e1 e2
    rw [e2] at h
    rw [e1]
    rcases i with _ | i
    · cases h; exact ⟨y, t, rfl, rfl⟩
    · simp at h
  rcases hk' with rfl | rfl | rfl | rfl | rfl | rfl | rfl | rfl
  · simp [nmAt] at h
  · exact two rfl rfl
  · exact two rfl rfl
  · simp [nmAt] at h
  · exact two rfl rfl
  · simp [nmAt] at h
  · exact two rfl rfl
  · rcases i with _ | _ | i
    · cases h; exact ⟨_, _, rfl, rfl⟩
    · cases h; exact ⟨_, _, rfl, by show stored [(kLine, v)] kLines v = _; rw [stored, if_neg (by show ¬ (decide (kLine = kLines) || false) = true; decide)]; rfl⟩
    · simp [nmAt] at h
theorem kw_len (k : Nat) (v : Value) : (kwAt k v).length ≤ 2 := by unfold kwAt; split <;> simp
theorem nm_len {x : Fx} {k : Nat} {v : Value} (hk : k < 8) : (nmAt x k).length = (kwAt k v).length := by
  have hk' : k = 0 ∨ k = 1 ∨ k = 2 ∨ k = 3 ∨ k = 4 ∨ k = 5 ∨ k = 6 ∨ k = 7 := by omega
  rcases hk' with rfl | rfl | rfl | rfl | rfl | rfl | rfl | rfl <;> rfl
theorem vs_rep {k : Nat} {v : Value} (hk : k < 8) : (List.replicate (plcAt k).toNat [v]).flatten = vsAt k v := by
  have hk' : k = 0 ∨ k = 1 ∨ k = 2 ∨ k = 3 ∨ k = 4 ∨ k = 5 ∨ k = 6 ∨ k = 7 := by omega
  rcases hk' with rfl | rfl | rfl | rfl | rfl | rfl | rfl | rfl <;> rfl
theorem plc_small (k : Nat) : 0 ≤ plcAt k ∧ plcAt k ≤ 2 := by unfold plcAt; split <;> decide
end Mine
end

-- part W35
section
open PySem PySem.W PySem.Calls PyProof.Rows Builtin Builtin.ObjectAttr
namespace Mine
abbrev mV (x : Fx) (rest : Str → Option Value) (i : Nat) (t : Tok) (c : Nat) (tc : Tok) (k : Nat) (v : Value) (vl dn : Addr) : Str → Option Value := fun y =>
  if y = PySem.Str.ofString "named" then some (.ref dn) else if y = PySem.Str.ofString "values" then some (.ref vl) else mA x rest i t c tc k v y
abbrev mN (x : Fx) (rest : Str → Option Value) (i : Nat) (t : Tok) (c : Nat) (tc : Tok) (k : Nat) (v : Value) (vl dn : Addr) (on : Option Value) : Str → Option Value := fun y =>
  if y = PySem.Str.ofString "name" then on else mV x rest i t c tc k v vl dn y
theorem allLt_mem {d : Nat} {l : List (Addr × Obj)} (h : AllLt d l) : ∀ p ∈ l, p.1 < d := by
  induction l with
  | nil => exact fun _ hp => nomatch hp
  | cons a l ih =>
    intro p hp
    rcases List.mem_cons.mp hp with e | hp
    · rw [e]; exact h.1
    · exact ih h.2 p hp
section
variable {w : World} {E : Value → Shared → Prop} {s : Shared} {h₀ : Heap} {L fa : Addr} {cd : Value} {mg mb : Str → Option Value} {p : Program} {loose : List Str} {mean : ExcName → Option Value} {Q : Flow → Shared → Prop} {x : Fx} {rest : Str → Option Value} {news : List (Addr × Obj)} {i : Nat} {t tc : Tok} {c k : Nat} {v : Value}
local macro_rules | `(tactic| k_all) => `(tactic| assumption)
set_option maxHeartbeats 4000000 in
theorem blockB2 {vl dn : Addr} {o : Obj} (B : Below callerA h₀ [] h₀) (X₀ : (hd.heap_39 w.params).In h₀) (T : Top p loose mean mg mb h₀) (hk8 : k < 8)
    (F : Fr h₀ L s.heap (mV x rest i t c tc k v vl dn)) (N : News h₀ L s.heap ((dn, o) :: news)) (hnm : (x.Nm k, nmO x k) ∈ news) (hd2 : o.IsDictOf (PySem.strKind prg4 w) []) (hne : ∀ p ∈ news, p.1 ≠ dn)
    (h : ∀ on es nn h' tk, KwOf es (kwAt k v) → Fr h₀ L h' (mN x rest i t c tc k v vl dn on) → News h₀ L h' ((dn, dictOf es nn) :: news) →
      wpC (model prg4 w) (callerA.deeper (env4 w.params L fa cd)) (execs ((lawFor (hd.heap_39 w.params)).drop 6) (env4 w.params L fa cd)) Q E { s with heap := h', toks := tk }) :
    wpC (model prg4 w) (callerA.deeper (env4 w.params L fa cd)) (execs ((lawFor (hd.heap_39 w.params)).drop 5) (env4 w.params L fa cd)) Q E s := by
  have : PySem.Challenge.rw_dm0089_04 = PySem.Challenge.rw_dm0089_04 ∧ hd.heap_39 = hd.heap_39 := by (k_fill; exact ⟨rfl, rfl⟩)
  clear this
  have e1 : lawFor (hd.heap_39 w.params) = lawFor (hd.heap_39 w.params) := rfl
  have e2 : lawScope (hd.heap_39 w.params) = lawScope (hd.heap_39 w.params) := rfl
  conv at e1 => rhs; whnf
  conv at e2 => rhs; whnf
  dsimp only [env4] at h ⊢
  rw [e1, e2] at h ⊢
  clear e1 e2
  dsimp only [List.drop] at h ⊢
  refine wpC_execs_cons (wpC_For ?_)
  refine wpAny_Name (wpAny_loadName_local rfl rfl (Fr.ns F) rfl ?_) (by decide)
  refine loopC_list (l := x.Nm k) (vs := nmAt x k) (nn := 0) (fun j m nx => ∃ o on, m = mN x rest i t c tc k v vl dn on ∧ nx = (dn, o) :: news ∧ o.IsDictOf (PySem.strKind prg4 w) ((kwAt k v).take j))
    rfl (.tail _ hnm) F N ⟨o, (mV x rest i t c tc k v vl dn) (PySem.Str.ofString "name"), ?m0, rfl, hd2⟩ ?keep (fun _ _ => rfl) ?turn ?done
  case m0 =>
    funext y
    dsimp only [mN]
    split
    · rename_i e; rw [e]
    · rfl
  case keep => rintro j m nx ⟨o, on, _, rfl, _⟩; exact .tail _ hnm
  case done =>
    rintro m1 nx h1 tk1 ⟨o1, on, rfl, rfl, hd1⟩ F1 N1
    rw [nm_len (v := v) hk8, List.take_length] at hd1
    obtain ⟨es, nn, rfl, hkw⟩ := kw_of_dict hd1 (kw_len k v)
    exact h on es nn h1 tk1 hkw F1 N1
  case turn =>
    rintro j vv m1 nx h1 tk1 own hvv off ⟨o1, on, rfl, rfl, hd1⟩ F1 N1
    obtain ⟨y, ty, rfl, hst⟩ := nm_turn (v := v) hk8 hvv
    refine wpAny_assign_Name (wpAny_storeName_local rfl F1.ns (fun h2 hn2 hs2 => ?_) rfl)
    have F2 := F1.set hn2 hs2
    have N2 := N1.set hs2
    clear F N F1 N1
    have hne2 : ∀ p ∈ news ++ own, p.1 ≠ dn := fun p hp => by
      rcases List.mem_append.mp hp with hp | hp
      · exact hne p hp
      · exact off p hp _ (.head _)
    refine execsA ?_
    w_strict k_steps
    refine setItem_str (news := news ++ own) F2 N2 hne2 hd1 (by rw [List.length_take]; have := kw_len k v; omega) fun h3 o3 F3 N3 hd3 => ?_
    rw [hst] at hd3
    refine ⟨rfl, wpC_any (wpAny_execs_nil ?_)⟩
    refine ⟨h3, _, _, (dn, o3) :: (news ++ own), (dn, o3) :: news, rfl, F3, N3, ?_, ?_, ?_, o3, some (.str y ty), ?_, rfl, hd3⟩
    · intro p hp
      rcases List.mem_cons.mp hp with rfl | hp
      · exact .head _
      · exact .tail _ (List.mem_append.mpr (.inl hp))
    · exact fun p hp => .tail _ (List.mem_append.mpr (.inr hp))
    · intro p hp q hq
      rcases List.mem_cons.mp hq with rfl | hq
      · exact off p hp (dn, o1) (.head _)
      · exact off p hp q (.tail _ hq)
    · funext z
      dsimp only [mN]
      split <;> rfl
set_option maxHeartbeats 4000000 in
theorem blockB (B : Below callerA h₀ [] h₀) (X₀ : (hd.heap_39 w.params).In h₀) (T : Top p loose mean mg mb h₀) (hk8 : k < 8)
    (F : Fr h₀ L s.heap (mA x rest i t c tc k v)) (N : News h₀ L s.heap news) (hnm : (x.Nm k, nmO x k) ∈ news)
    (h : ∀ on vl dn es nn h' tk, KwOf es (kwAt k v) → (dn == sysModules) = false → Fr h₀ L h' (mN x rest i t c tc k v vl dn on) → News h₀ L h' ((dn, dictOf es nn) :: (vl, (⟨.type "list", none, .seq (vsAt k v).toArray 0, #[]⟩ : Obj)) :: news) → (∀ p ∈ news, p.1 < vl) → vl < dn →
      wpC (model prg4 w) (callerA.deeper (env4 w.params L fa cd)) (execs ((lawFor (hd.heap_39 w.params)).drop 6) (env4 w.params L fa cd)) Q E { s with heap := h', toks := tk }) :
    wpC (model prg4 w) (callerA.deeper (env4 w.params L fa cd)) (execs ((lawFor (hd.heap_39 w.params)).drop 3) (env4 w.params L fa cd)) Q E s := by
  have : PySem.Challenge.rw_dm0089_04 = PySem.Challenge.rw_dm0089_04 ∧ hd.heap_39 = hd.heap_39 := by (k_fill; exact ⟨rfl, rfl⟩)
  clear this
  have e1 : lawFor (hd.heap_39 w.params) = lawFor (hd.heap_39 w.params) := rfl
  have e2 : lawScope (hd.heap_39 w.params) = lawScope (hd.heap_39 w.params) := rfl
  conv at e1 => rhs; whnf
  conv at e2 => rhs; whnf
  dsimp only [env4] at h ⊢
  rw [e1, e2] at h ⊢
  clear e1 e2
  dsimp only [List.drop] at h ⊢
  refine execsA ?_
  w_strict k_steps
  rename Fr h₀ L _ _ => F1
  rename News h₀ L _ _ => N1
  refine KMa.mul (vs := [v]) (ws := vsAt k v) F1 N1 ⟨_, (N1 _ (.head _)).1, rfl, _, rfl⟩ (by have := plc_small k; omega) (by have := plc_small k; omega) (by show 1 * _ ≤ 256; have := plc_small k; omega) (vs_rep hk8) fun D1 h1 F1' N1' l1 => ?_
  clear F1 N1
  w_strict k_steps
  all_goals first | (with_reducible exact True.intro) | skip
  refine execsA ?_
  w_strict k_steps
  rename Fr h₀ L _ _ => F2
  rename News h₀ L _ _ => N2
  rename Obj.IsDictOf (PySem.strKind prg4 w) _ [] => hd2
  rename (_ == sysModules) = false => ld2
  rename _ ∧ _ ∧ AllLt _ news => lt2
  refine blockB2 (news := _ :: _ :: news) B X₀ T hk8 F2 N2 (.tail _ (.tail _ hnm)) hd2 (fun p hp => ?_) fun on es nn h3 tk3 hkw F3 N3 => ?_
  · rcases List.mem_cons.mp hp with rfl | hp
    · exact Nat.ne_of_lt lt2.1
    rcases List.mem_cons.mp hp with rfl | hp
    · exact Nat.ne_of_lt lt2.2.1
    · exact Nat.ne_of_lt (allLt_mem lt2.2.2 p hp)
  · refine h on D1 _ es nn h3 tk3 hkw ld2 F3 (fun p hp => N3 p ?_) (fun p hp => l1 p (.tail _ hp)) lt2.1
    rcases List.mem_cons.mp hp with rfl | hp
    · exact .head _
    rcases List.mem_cons.mp hp with rfl | hp
    · exact .tail _ (.head _)
    · exact .tail _ (.tail _ (.tail _ hp))
end
end Mine
end

-- part W36
section
open PySem PySem.W PySem.Calls PyProof.Rows Builtin Builtin.ObjectAttr
namespace Mine
section
variable {M : Model} {A : Around} {E : Value → Shared → Prop} {s : Shared} {env : Env}
theorem wpC_Assign_Name {x : Str} {pos' pos : Pos} {value : Expr} {Q : Flow → Shared → Prop}
    (h : wpC M A (eval value env) (fun v s₁ => wpAny M A (storeName env x v) (fun _ => Q .next) E s₁) E s)
    (hs : swapsWith value (some (.Name x pos')) pos.line env = pure false := by rfl) : wpC M A (exec (.Assign [.Name x pos'] value pos) env) Q E s := fun Γ p hΓ hU => by
  simp only [exec_Assign_Name env x pos' value pos hs, Sem.wp_bind', Sem.wp_cmd_standAt, Sem.wp_bindName, Sem.wp_pure']
  exact Sem.wp_mono M Γ _ (fun v _ s₁ h₁ => h₁ Γ _ hΓ) (fun _ _ _ h' => h') _ _ (h Γ _ hΓ hU)
theorem callWithC_K {K : Frag} {pos : Pos} {f : Value} {first : List Value} {e : Expr} {rest : List Expr} {Q : Value → Shared → Prop} (hk : keepIn K f = true)
    (h : wpAny M A (spliced (backTo pos (starEach (e :: rest) env))) (fun vs s₁ => K.In s₁.heap ∧ wpC M A (call f (first ++ vs)) Q E s₁) E s)
    (he : starEach (e :: rest) env = (false, eval e env) :: starEach rest env := by rfl) (hplain : (backTo pos (starEach rest env)).any (·.1) = false := by rfl) :
    wpC M A (callWith pos f first (backTo pos (starEach (e :: rest) env)) []) Q E s := by
  rw [he] at h ⊢
  unfold callWith
  refine wpC_then (wpAny_holding (evalArgs_plain (wpAny_mono h (fun vs s₁ z => ?_) fun _ _ e => e)))
  obtain ⟨hl, z⟩ := z
  obtain ⟨k, hkk, hl⟩ := keeps_K (M := M) hk _ hl
  refine wpC_then (wpAny_standAt ?_)
  dsimp only
  refine wpC_then (hl _ _ _ _ (fun _ _ e => e) ?_)
  have tail : ∀ {t : Sem Value}, wpC M A t Q E s₁ → wpC M A (t >>= fun r => holding [r] point >>= fun _ => pure r) Q E s₁ :=
    fun ht => wpC_bind (wpC_mono ht (fun r s₂ hr => wpC_then (wpAny_holding (wpAny_point (wpC_pure hr)))) fun _ _ x => x)
  generalize (((backTo pos ((false, eval e env) :: starEach rest env)).any (·.1)) || ([] : List (Option PySem.Str × Sem Value)).any (·.1.isNone)) = st
  rcases hkk with rfl | rfl | rfl <;> cases st <;> first
    | exact tail z
    | exact tail (wpC_operate z)
    | exact tail (by unfold callMarked; exact wpC_keep z)
    | (dsimp only; split <;> first | exact tail z | exact tail (by unfold callMarked; exact wpC_keep z))
end
theorem kinds_get {c : Nat} (h : c < 8) : (#[.ref 34, .ref 56, .ref 68, .ref 80, .ref 120, .ref 132, .ref 144, .ref 108] : Array Value)[((c : Nat) : Int).toNat]? = some (.ref (clsAt c)) := by
  have hk : c = 0 ∨ c = 1 ∨ c = 2 ∨ c = 3 ∨ c = 4 ∨ c = 5 ∨ c = 6 ∨ c = 7 := by omega
  rcases hk with rfl | rfl | rfl | rfl | rfl | rfl | rfl | rfl <;> rfl
section
variable {w : World} {E : Value → Shared → Prop} {s : Shared} {h₀ : Heap} {L fa : Addr} {cd : Value} {mg mb : Str → Option Value} {p : Program} {loose : List Str} {mean : ExcName → Option Value} {Q : Flow → Shared → Prop} {x : Fx} {rest : Str → Option Value} {news : List (Addr × Obj)} {i : Nat} {t tc : Tok} {c k : Nat} {v : Value} {vl dn : Addr} {on : Option Value} {es : List DictEntry} {nn : Nat}
local macro_rules | `(tactic| k_all) => `(tactic| assumption)
abbrev mG (x : Fx) (rest : Str → Option Value) (i : Nat) (t : Tok) (c : Nat) (tc : Tok) (k : Nat) (v : Value) (vl dn : Addr) (on : Option Value) (r : Addr) : Str → Option Value := fun y =>
  if y = PySem.Str.ofString "got" then some (.ref r) else mN x rest i t c tc k v vl dn on y
set_option maxHeartbeats 4000000 in
theorem blockC (B : Below callerA h₀ [] h₀) (X₀ : (hd.heap_39 w.params).In h₀) (T : Top p loose mean mg mb h₀) (hc8 : c < 8) (hk8 : k < 8)
    (F : Fr h₀ L s.heap (mN x rest i t c tc k v vl dn on)) (N : News h₀ L s.heap news) (hKi : (x.Ki, kindsO) ∈ news) (hvl : (vl, (⟨.type "list", none, .seq (vsAt k v).toArray 0, #[]⟩ : Obj)) ∈ news) (hdn : (dn, dictOf es nn) ∈ news) (hkw : KwOf es (kwAt k v)) (hdm : (dn == sysModules) = false)
    (h0 : rightAt c k = false → ∀ r h' tk, Fr h₀ L h' (mG x rest i t c tc k v vl dn on r) → News h₀ L h' ((r, lstO []) :: news) →
      wpC (model prg4 w) (callerA.deeper (env4 w.params L fa cd)) (execs ((lawFor (hd.heap_39 w.params)).drop 7) (env4 w.params L fa cd)) Q E { s with heap := h', toks := tk })
    (h1 : rightAt c k = true → ∀ r o dx tu h' t1 t2 tk, Fr h₀ L h' (mG x rest i t c tc k v vl dn on r) → News h₀ L h' ((r, lstO [.ref o]) :: (dx, dictAt w.params c (valAt k v) t1 t2) :: (tu, tupOf (tsOf (valAt k v) (vsAt k v))) :: (o, excOf (clsAt c) dx tu) :: news) → (∀ p ∈ news, p.1 < tu ∧ p.1 < o) → tu < dx → o < dx → dx < r →
      wpC (model prg4 w) (callerA.deeper (env4 w.params L fa cd)) (execs ((lawFor (hd.heap_39 w.params)).drop 7) (env4 w.params L fa cd)) Q E { s with heap := h', toks := tk }) :
    wpC (model prg4 w) (callerA.deeper (env4 w.params L fa cd)) (execs ((lawFor (hd.heap_39 w.params)).drop 6) (env4 w.params L fa cd)) Q E s := by
  have : PySem.Challenge.rw_dm0089_04 = PySem.Challenge.rw_dm0089_04 ∧ hd.heap_39 = hd.heap_39 := by (k_fill; exact ⟨rfl, rfl⟩)
  clear this
  have e1 : lawFor (hd.heap_39 w.params) = lawFor (hd.heap_39 w.params) := rfl
  have e2 : lawScope (hd.heap_39 w.params) = lawScope (hd.heap_39 w.params) := rfl
  conv at e1 => rhs; whnf
  conv at e2 => rhs; whnf
  dsimp only [env4] at h0 h1 ⊢
  rw [e1, e2] at h0 h1 ⊢
  clear e1 e2
  dsimp only [List.drop] at h0 h1 ⊢
  refine wpC_execs_cons (wpC_Assign_Name (wpC_CallName ?_))
  w_strict k_steps
  refine callWithC_K (K := hd.heap_39 w.params) (by kernel_rfl) ?_
  w_strict k_steps
  refine item_listR ⟨_, (N _ hKi).1, rfl, _, rfl⟩ (by omega) (by omega) (kinds_get hc8) ?_
  w_strict k_steps
  refine lawCall hc8 hk8 B F X₀ N T rfl rfl rfl rfl (by simp only [depth_deeper, depth_caller]; decide) hvl hdn hkw hdm ⟨fun hr r h' tk F' N' => ?_, fun hr r o dx tu h' t1 t2 tk F' N' l1 l2 l3 l4 => ?_⟩
  · refine wpAny_storeName_local rfl F'.ns (fun h2 hn2 hs2 => ?_) rfl
    exact h0 hr r h2 _ (F'.set hn2 hs2) (N'.set hs2)
  · refine wpAny_storeName_local rfl F'.ns (fun h2 hn2 hs2 => ?_) rfl
    exact h1 hr r o dx tu h2 t1 t2 _ (F'.set hn2 hs2) (N'.set hs2) l1 l2 l3 l4
end
end Mine
end

-- part W37
section
open PySem PySem.W PySem.Calls PyProof.Rows Builtin Builtin.ObjectAttr
namespace Mine
def totAt (k : Nat) : Int := match k with | 0 => 1 | 1 => 1 | 2 => 1 | 3 => 0 | _ => 2
abbrev mR (x : Fx) (rest : Str → Option Value) (i : Nat) (t : Tok) (c : Nat) (tc : Tok) (k : Nat) (v : Value) (vl dn : Addr) (on : Option Value) (r : Addr) (tt : Tok) : Str → Option Value := fun y =>
  if y = PySem.Str.ofString "right" then some (.bool (rightAt c k)) else if y = PySem.Str.ofString "total" then some (.int (totAt k) tt) else mG x rest i t c tc k v vl dn on r y
abbrev BackD (w : World) (h₀ : Heap) (L fa : Addr) (cd : Value) (E : Value → Shared → Prop) (s : Shared) (Q : Flow → Shared → Prop) (x : Fx) (rest : Str → Option Value) (i : Nat) (t tc : Tok) (c k : Nat) (v : Value) (vl dn r : Addr) (on : Option Value) (news : List (Addr × Obj)) : Prop :=
  ∀ tt m' oc' ocv' h' tk, m' = mR x rest i t c tc k v vl dn on r tt → Fr h₀ L h' m' → News h₀ L h' ((L + 1, oc') :: (x.Nm k, nmO x k) :: news) → oc'.data = .cell ocv' →
    wpC (model prg4 w) (callerA.deeper (env4 w.params L fa cd)) (execs ((lawFor (hd.heap_39 w.params)).drop 11) (env4 w.params L fa cd)) Q E { s with heap := h', toks := tk }
section
variable {w : World} {E : Value → Shared → Prop} {s : Shared} {h₀ : Heap} {L fa : Addr} {cd : Value} {mg mb : Str → Option Value} {p : Program} {loose : List Str} {mean : ExcName → Option Value} {Q : Flow → Shared → Prop} {x : Fx} {rest : Str → Option Value} {news : List (Addr × Obj)} {i : Nat} {t tc : Tok} {c : Nat} {v : Value} {vl dn r : Addr} {on : Option Value} {oc : Obj} {ocv : Option Value}
local macro_rules | `(tactic| k_all) => `(tactic| assumption)
local macro_rules | `(tactic| walk_at "CompEnd") => `(tactic| (k_here; (rename News _ _ _ (_ :: _ :: _ :: _) => lN'); k_dflt (refine LCg.CompEnd.intro (by assumption) lN' _ (fun p hp => hp) (by assumption) (by lcg_src) ?_)))

set_option maxHeartbeats 4000000 in
theorem blockD_0o (B : Below callerA h₀ [] h₀) (X₀ : (hd.heap_39 w.params).In h₀) (T : Top p loose mean mg mb h₀) (hc7 : c ≠ 7)
    (F : Fr h₀ L s.heap (mG x rest i t c tc 0 v vl dn on r)) (N : News h₀ L s.heap ((L + 1, oc) :: (x.Nm 0, nmO x 0) :: news)) (hoc : oc.data = .cell ocv) (hne : ∀ p ∈ news, p.1 ≠ L + 1) (hne2 : x.Nm 0 ≠ L + 1)
    (h : BackD w h₀ L fa cd E s Q x rest i t tc c 0 v vl dn r on news) :
    wpC (model prg4 w) (callerA.deeper (env4 w.params L fa cd)) (execs ((lawFor (hd.heap_39 w.params)).drop 7) (env4 w.params L fa cd)) Q E s := by
  have : PySem.Challenge.rw_dm0089_04 = PySem.Challenge.rw_dm0089_04 ∧ hd.heap_39 = hd.heap_39 := by (k_fill; exact ⟨rfl, rfl⟩)
  clear this
  have e1 : lawFor (hd.heap_39 w.params) = lawFor (hd.heap_39 w.params) := rfl
  have e2 : lawScope (hd.heap_39 w.params) = lawScope (hd.heap_39 w.params) := rfl
  conv at e1 => rhs; whnf
  conv at e2 => rhs; whnf
  dsimp only [env4, BackD] at h ⊢
  rw [e1, e2] at h ⊢
  clear e1 e2
  dsimp only [List.drop] at h ⊢
  have hr : rightAt c 0 = true := by unfold rightAt; rw [if_neg hc7]; rfl
  replace N : News h₀ L s.heap ((L + 1, oc) :: (x.Nm 0, W.listOf #[] 0) :: news) := N
  refine execsA ?_
  w_strict k_steps
  all_goals first | (exfalso; omega) | skip
  all_goals first | (with_reducible exact True.intro) | skip
  refine execsA ?_
  w_strict k_steps
  all_goals first | (exfalso; omega) | skip
  all_goals first | (with_reducible exact True.intro) | skip
  refine execsA ?_
  w_strict k_steps
  all_goals first | (exfalso; omega) | skip
  all_goals first | (with_reducible exact True.intro) | skip
  refine execsA ?_
  w_strict k_steps
  all_goals first | (exfalso; omega) | skip
  all_goals first | (with_reducible exact True.intro) | skip
  refine' h _ _ _ _ _ _ ?m ?F ?N ?o
  case F => assumption
  case o => first | assumption | rfl
  case N => (rename News h₀ L _ _ => NN; exact kst_newsOf NN (List.forall_mem_cons.mpr ⟨by k_mem, List.forall_mem_cons.mpr ⟨by k_mem, fun p9 hp9 => by repeat' (first | exact hp9 | refine List.Mem.tail _ ?_)⟩⟩))
  case m =>
    funext y
    dsimp only [mR]
    rw [hr]
    repeat' (first | rfl | split)

set_option maxHeartbeats 4000000 in
theorem blockD_0s (B : Below callerA h₀ [] h₀) (X₀ : (hd.heap_39 w.params).In h₀) (T : Top p loose mean mg mb h₀)
    (F : Fr h₀ L s.heap (mG x rest i t 7 tc 0 v vl dn on r)) (N : News h₀ L s.heap ((L + 1, oc) :: (x.Nm 0, nmO x 0) :: news)) (hoc : oc.data = .cell ocv) (hne : ∀ p ∈ news, p.1 ≠ L + 1) (hne2 : x.Nm 0 ≠ L + 1)
    (h : BackD w h₀ L fa cd E s Q x rest i t tc 7 0 v vl dn r on news) :
    wpC (model prg4 w) (callerA.deeper (env4 w.params L fa cd)) (execs ((lawFor (hd.heap_39 w.params)).drop 7) (env4 w.params L fa cd)) Q E s := by
  have : PySem.Challenge.rw_dm0089_04 = PySem.Challenge.rw_dm0089_04 ∧ hd.heap_39 = hd.heap_39 := by (k_fill; exact ⟨rfl, rfl⟩)
  clear this
  have e1 : lawFor (hd.heap_39 w.params) = lawFor (hd.heap_39 w.params) := rfl
  have e2 : lawScope (hd.heap_39 w.params) = lawScope (hd.heap_39 w.params) := rfl
  conv at e1 => rhs; whnf
  conv at e2 => rhs; whnf
  dsimp only [env4, BackD] at h ⊢
  rw [e1, e2] at h ⊢
  clear e1 e2
  dsimp only [List.drop] at h ⊢
  have hr : rightAt 7 0 = true := by rfl
  replace N : News h₀ L s.heap ((L + 1, oc) :: (x.Nm 0, W.listOf #[] 0) :: news) := N
  refine execsA ?_
  w_strict k_steps
  all_goals first | (exfalso; omega) | skip
  all_goals first | (with_reducible exact True.intro) | skip
  refine execsA ?_
  w_strict k_steps
  all_goals first | (exfalso; omega) | skip
  all_goals first | (with_reducible exact True.intro) | skip
  refine execsA ?_
  w_strict k_steps
  all_goals first | (exfalso; omega) | skip
  all_goals first | (with_reducible exact True.intro) | skip
  refine execsA ?_
  w_strict k_steps
  all_goals first | (exfalso; omega) | skip
  all_goals first | (with_reducible exact True.intro) | skip
  refine' h _ _ _ _ _ _ ?m ?F ?N ?o
  case F => assumption
  case o => first | assumption | rfl
  case N => (rename News h₀ L _ _ => NN; exact kst_newsOf NN (List.forall_mem_cons.mpr ⟨by k_mem, List.forall_mem_cons.mpr ⟨by k_mem, fun p9 hp9 => by repeat' (first | exact hp9 | refine List.Mem.tail _ ?_)⟩⟩))
  case m =>
    funext y
    dsimp only [mR]
    rw [hr]
    repeat' (first | rfl | split)

set_option maxHeartbeats 4000000 in
theorem blockD_1o (B : Below callerA h₀ [] h₀) (X₀ : (hd.heap_39 w.params).In h₀) (T : Top p loose mean mg mb h₀) (hc7 : c ≠ 7)
    (F : Fr h₀ L s.heap (mG x rest i t c tc 1 v vl dn on r)) (N : News h₀ L s.heap ((L + 1, oc) :: (x.Nm 1, nmO x 1) :: news)) (hoc : oc.data = .cell ocv) (hne : ∀ p ∈ news, p.1 ≠ L + 1) (hne2 : x.Nm 1 ≠ L + 1)
    (h : BackD w h₀ L fa cd E s Q x rest i t tc c 1 v vl dn r on news) :
    wpC (model prg4 w) (callerA.deeper (env4 w.params L fa cd)) (execs ((lawFor (hd.heap_39 w.params)).drop 7) (env4 w.params L fa cd)) Q E s := by
  have : PySem.Challenge.rw_dm0089_04 = PySem.Challenge.rw_dm0089_04 ∧ hd.heap_39 = hd.heap_39 := by (k_fill; exact ⟨rfl, rfl⟩)
  clear this
  have e1 : lawFor (hd.heap_39 w.params) = lawFor (hd.heap_39 w.params) := rfl
  have e2 : lawScope (hd.heap_39 w.params) = lawScope (hd.heap_39 w.params) := rfl
  conv at e1 => rhs; whnf
  conv at e2 => rhs; whnf
  dsimp only [env4, BackD] at h ⊢
  rw [e1, e2] at h ⊢
  clear e1 e2
  dsimp only [List.drop] at h ⊢
  have hr : rightAt c 1 = true := by unfold rightAt; rw [if_neg hc7]; rfl
  replace N : News h₀ L s.heap ((L + 1, oc) :: (x.Nm 1, W.listOf #[.str kLine (x.ta 1)] 0) :: news) := N
  refine execsA ?_
  w_strict k_steps
  all_goals first | (exfalso; omega) | skip
  all_goals first | (with_reducible exact True.intro) | skip
  refine execsA ?_
  w_strict k_steps
  all_goals first | (exfalso; omega) | skip
  all_goals first | (with_reducible exact True.intro) | skip
  refine execsA ?_
  w_strict k_steps
  all_goals first | (exfalso; omega) | skip
  all_goals first | (with_reducible exact True.intro) | skip
  refine execsA ?_
  w_strict k_steps
  all_goals first | (exfalso; omega) | skip
  all_goals first | (with_reducible exact True.intro) | skip
  refine' h _ _ _ _ _ _ ?m ?F ?N ?o
  case F => assumption
  case o => first | assumption | rfl
  case N => (rename News h₀ L _ _ => NN; exact kst_newsOf NN (List.forall_mem_cons.mpr ⟨by k_mem, List.forall_mem_cons.mpr ⟨by k_mem, fun p9 hp9 => by repeat' (first | exact hp9 | refine List.Mem.tail _ ?_)⟩⟩))
  case m =>
    funext y
    dsimp only [mR]
    rw [hr]
    repeat' (first | rfl | split)

set_option maxHeartbeats 4000000 in
theorem blockD_1s (B : Below callerA h₀ [] h₀) (X₀ : (hd.heap_39 w.params).In h₀) (T : Top p loose mean mg mb h₀)
    (F : Fr h₀ L s.heap (mG x rest i t 7 tc 1 v vl dn on r)) (N : News h₀ L s.heap ((L + 1, oc) :: (x.Nm 1, nmO x 1) :: news)) (hoc : oc.data = .cell ocv) (hne : ∀ p ∈ news, p.1 ≠ L + 1) (hne2 : x.Nm 1 ≠ L + 1)
    (h : BackD w h₀ L fa cd E s Q x rest i t tc 7 1 v vl dn r on news) :
    wpC (model prg4 w) (callerA.deeper (env4 w.params L fa cd)) (execs ((lawFor (hd.heap_39 w.params)).drop 7) (env4 w.params L fa cd)) Q E s := by
  have : PySem.Challenge.rw_dm0089_04 = PySem.Challenge.rw_dm0089_04 ∧ hd.heap_39 = hd.heap_39 := by (k_fill; exact ⟨rfl, rfl⟩)
  clear this
  have e1 : lawFor (hd.heap_39 w.params) = lawFor (hd.heap_39 w.params) := rfl
  have e2 : lawScope (hd.heap_39 w.params) = lawScope (hd.heap_39 w.params) := rfl
  conv at e1 => rhs; whnf
  conv at e2 => rhs; whnf
  dsimp only [env4, BackD] at h ⊢
  rw [e1, e2] at h ⊢
  clear e1 e2
  dsimp only [List.drop] at h ⊢
  have hr : rightAt 7 1 = false := by rfl
  replace N : News h₀ L s.heap ((L + 1, oc) :: (x.Nm 1, W.listOf #[.str kLine (x.ta 1)] 0) :: news) := N
  refine execsA ?_
  w_strict k_steps
  all_goals first | (exfalso; omega) | skip
  all_goals first | (with_reducible exact True.intro) | skip
  refine execsA ?_
  w_strict k_steps
  all_goals first | (exfalso; omega) | skip
  all_goals first | (with_reducible exact True.intro) | skip
  refine execsA ?_
  w_strict k_steps
  all_goals first | (exfalso; omega) | skip
  all_goals first | (with_reducible exact True.intro) | skip
  refine execsA ?_
  w_strict k_steps
  all_goals first | (exfalso; omega) | skip
  all_goals first | (with_reducible exact True.intro) | skip
  refine' h _ _ _ _ _ _ ?m ?F ?N ?o
  case F => assumption
  case o => first | assumption | rfl
  case N => (rename News h₀ L _ _ => NN; exact kst_newsOf NN (List.forall_mem_cons.mpr ⟨by k_mem, List.forall_mem_cons.mpr ⟨by k_mem, fun p9 hp9 => by repeat' (first | exact hp9 | refine List.Mem.tail _ ?_)⟩⟩))
  case m =>
    funext y
    dsimp only [mR]
    rw [hr]
    repeat' (first | rfl | split)

set_option maxHeartbeats 4000000 in
theorem blockD_2o (B : Below callerA h₀ [] h₀) (X₀ : (hd.heap_39 w.params).In h₀) (T : Top p loose mean mg mb h₀) (hc7 : c ≠ 7)
    (F : Fr h₀ L s.heap (mG x rest i t c tc 2 v vl dn on r)) (N : News h₀ L s.heap ((L + 1, oc) :: (x.Nm 2, nmO x 2) :: news)) (hoc : oc.data = .cell ocv) (hne : ∀ p ∈ news, p.1 ≠ L + 1) (hne2 : x.Nm 2 ≠ L + 1)
    (h : BackD w h₀ L fa cd E s Q x rest i t tc c 2 v vl dn r on news) :
    wpC (model prg4 w) (callerA.deeper (env4 w.params L fa cd)) (execs ((lawFor (hd.heap_39 w.params)).drop 7) (env4 w.params L fa cd)) Q E s := by
  have : PySem.Challenge.rw_dm0089_04 = PySem.Challenge.rw_dm0089_04 ∧ hd.heap_39 = hd.heap_39 := by (k_fill; exact ⟨rfl, rfl⟩)
  clear this
  have e1 : lawFor (hd.heap_39 w.params) = lawFor (hd.heap_39 w.params) := rfl
  have e2 : lawScope (hd.heap_39 w.params) = lawScope (hd.heap_39 w.params) := rfl
  conv at e1 => rhs; whnf
  conv at e2 => rhs; whnf
  dsimp only [env4, BackD] at h ⊢
  rw [e1, e2] at h ⊢
  clear e1 e2
  dsimp only [List.drop] at h ⊢
  have hr : rightAt c 2 = false := by unfold rightAt; rw [if_neg hc7]; rfl
  replace N : News h₀ L s.heap ((L + 1, oc) :: (x.Nm 2, W.listOf #[.str kNp (x.ta 2)] 0) :: news) := N
  refine execsA ?_
  w_strict k_steps
  all_goals first | (exfalso; omega) | skip
  all_goals first | (with_reducible exact True.intro) | skip
  refine execsA ?_
  w_strict k_steps
  all_goals first | (exfalso; omega) | skip
  all_goals first | (with_reducible exact True.intro) | skip
  refine execsA ?_
  w_strict k_steps
  all_goals first | (exfalso; omega) | skip
  all_goals first | (with_reducible exact True.intro) | skip
  refine execsA ?_
  w_strict k_steps
  all_goals first | (exfalso; omega) | skip
  all_goals first | (with_reducible exact True.intro) | skip
  refine' h _ _ _ _ _ _ ?m ?F ?N ?o
  case F => assumption
  case o => first | assumption | rfl
  case N => (rename News h₀ L _ _ => NN; exact kst_newsOf NN (List.forall_mem_cons.mpr ⟨by k_mem, List.forall_mem_cons.mpr ⟨by k_mem, fun p9 hp9 => by repeat' (first | exact hp9 | refine List.Mem.tail _ ?_)⟩⟩))
  case m =>
    funext y
    dsimp only [mR]
    rw [hr]
    repeat' (first | rfl | split)

set_option maxHeartbeats 4000000 in
theorem blockD_2s (B : Below callerA h₀ [] h₀) (X₀ : (hd.heap_39 w.params).In h₀) (T : Top p loose mean mg mb h₀)
    (F : Fr h₀ L s.heap (mG x rest i t 7 tc 2 v vl dn on r)) (N : News h₀ L s.heap ((L + 1, oc) :: (x.Nm 2, nmO x 2) :: news)) (hoc : oc.data = .cell ocv) (hne : ∀ p ∈ news, p.1 ≠ L + 1) (hne2 : x.Nm 2 ≠ L + 1)
    (h : BackD w h₀ L fa cd E s Q x rest i t tc 7 2 v vl dn r on news) :
    wpC (model prg4 w) (callerA.deeper (env4 w.params L fa cd)) (execs ((lawFor (hd.heap_39 w.params)).drop 7) (env4 w.params L fa cd)) Q E s := by
  have : PySem.Challenge.rw_dm0089_04 = PySem.Challenge.rw_dm0089_04 ∧ hd.heap_39 = hd.heap_39 := by (k_fill; exact ⟨rfl, rfl⟩)
  clear this
  have e1 : lawFor (hd.heap_39 w.params) = lawFor (hd.heap_39 w.params) := rfl
  have e2 : lawScope (hd.heap_39 w.params) = lawScope (hd.heap_39 w.params) := rfl
  conv at e1 => rhs; whnf
  conv at e2 => rhs; whnf
  dsimp only [env4, BackD] at h ⊢
  rw [e1, e2] at h ⊢
  clear e1 e2
  dsimp only [List.drop] at h ⊢
  have hr : rightAt 7 2 = true := by rfl
  replace N : News h₀ L s.heap ((L + 1, oc) :: (x.Nm 2, W.listOf #[.str kNp (x.ta 2)] 0) :: news) := N
  refine execsA ?_
  w_strict k_steps
  all_goals first | (exfalso; omega) | skip
  all_goals first | (with_reducible exact True.intro) | skip
  refine execsA ?_
  w_strict k_steps
  all_goals first | (exfalso; omega) | skip
  all_goals first | (with_reducible exact True.intro) | skip
  refine execsA ?_
  w_strict k_steps
  all_goals first | (exfalso; omega) | skip
  all_goals first | (with_reducible exact True.intro) | skip
  refine execsA ?_
  w_strict k_steps
  all_goals first | (exfalso; omega) | skip
  all_goals first | (with_reducible exact True.intro) | skip
  refine' h _ _ _ _ _ _ ?m ?F ?N ?o
  case F => assumption
  case o => first | assumption | rfl
  case N => (rename News h₀ L _ _ => NN; exact kst_newsOf NN (List.forall_mem_cons.mpr ⟨by k_mem, List.forall_mem_cons.mpr ⟨by k_mem, fun p9 hp9 => by repeat' (first | exact hp9 | refine List.Mem.tail _ ?_)⟩⟩))
  case m =>
    funext y
    dsimp only [mR]
    rw [hr]
    repeat' (first | rfl | split)

set_option maxHeartbeats 4000000 in
theorem blockD_3o (B : Below callerA h₀ [] h₀) (X₀ : (hd.heap_39 w.params).In h₀) (T : Top p loose mean mg mb h₀) (hc7 : c ≠ 7)
    (F : Fr h₀ L s.heap (mG x rest i t c tc 3 v vl dn on r)) (N : News h₀ L s.heap ((L + 1, oc) :: (x.Nm 3, nmO x 3) :: news)) (hoc : oc.data = .cell ocv) (hne : ∀ p ∈ news, p.1 ≠ L + 1) (hne2 : x.Nm 3 ≠ L + 1)
    (h : BackD w h₀ L fa cd E s Q x rest i t tc c 3 v vl dn r on news) :
    wpC (model prg4 w) (callerA.deeper (env4 w.params L fa cd)) (execs ((lawFor (hd.heap_39 w.params)).drop 7) (env4 w.params L fa cd)) Q E s := by
  have : PySem.Challenge.rw_dm0089_04 = PySem.Challenge.rw_dm0089_04 ∧ hd.heap_39 = hd.heap_39 := by (k_fill; exact ⟨rfl, rfl⟩)
  clear this
  have e1 : lawFor (hd.heap_39 w.params) = lawFor (hd.heap_39 w.params) := rfl
  have e2 : lawScope (hd.heap_39 w.params) = lawScope (hd.heap_39 w.params) := rfl
  conv at e1 => rhs; whnf
  conv at e2 => rhs; whnf
  dsimp only [env4, BackD] at h ⊢
  rw [e1, e2] at h ⊢
  clear e1 e2
  dsimp only [List.drop] at h ⊢
  have hr : rightAt c 3 = true := by unfold rightAt; rw [if_neg hc7]; rfl
  replace N : News h₀ L s.heap ((L + 1, oc) :: (x.Nm 3, W.listOf #[] 0) :: news) := N
  refine execsA ?_
  w_strict k_steps
  all_goals first | (exfalso; omega) | skip
  all_goals first | (with_reducible exact True.intro) | skip
  refine execsA ?_
  w_strict k_steps
  all_goals first | (exfalso; omega) | skip
  all_goals first | (with_reducible exact True.intro) | skip
  refine execsA ?_
  w_strict k_steps
  all_goals first | (exfalso; omega) | skip
  all_goals first | (with_reducible exact True.intro) | skip
  refine execsA ?_
  w_strict k_steps
  all_goals first | (exfalso; omega) | skip
  all_goals first | (with_reducible exact True.intro) | skip
  refine' h _ _ _ _ _ _ ?m ?F ?N ?o
  case F => assumption
  case o => first | assumption | rfl
  case N => (rename News h₀ L _ _ => NN; exact kst_newsOf NN (List.forall_mem_cons.mpr ⟨by k_mem, List.forall_mem_cons.mpr ⟨by k_mem, fun p9 hp9 => by repeat' (first | exact hp9 | refine List.Mem.tail _ ?_)⟩⟩))
  case m =>
    funext y
    dsimp only [mR]
    rw [hr]
    repeat' (first | rfl | split)

set_option maxHeartbeats 4000000 in
theorem blockD_3s (B : Below callerA h₀ [] h₀) (X₀ : (hd.heap_39 w.params).In h₀) (T : Top p loose mean mg mb h₀)
    (F : Fr h₀ L s.heap (mG x rest i t 7 tc 3 v vl dn on r)) (N : News h₀ L s.heap ((L + 1, oc) :: (x.Nm 3, nmO x 3) :: news)) (hoc : oc.data = .cell ocv) (hne : ∀ p ∈ news, p.1 ≠ L + 1) (hne2 : x.Nm 3 ≠ L + 1)
    (h : BackD w h₀ L fa cd E s Q x rest i t tc 7 3 v vl dn r on news) :
    wpC (model prg4 w) (callerA.deeper (env4 w.params L fa cd)) (execs ((lawFor (hd.heap_39 w.params)).drop 7) (env4 w.params L fa cd)) Q E s := by
  have : PySem.Challenge.rw_dm0089_04 = PySem.Challenge.rw_dm0089_04 ∧ hd.heap_39 = hd.heap_39 := by (k_fill; exact ⟨rfl, rfl⟩)
  clear this
  have e1 : lawFor (hd.heap_39 w.params) = lawFor (hd.heap_39 w.params) := rfl
  have e2 : lawScope (hd.heap_39 w.params) = lawScope (hd.heap_39 w.params) := rfl
  conv at e1 => rhs; whnf
  conv at e2 => rhs; whnf
  dsimp only [env4, BackD] at h ⊢
  rw [e1, e2] at h ⊢
  clear e1 e2
  dsimp only [List.drop] at h ⊢
  have hr : rightAt 7 3 = false := by rfl
  replace N : News h₀ L s.heap ((L + 1, oc) :: (x.Nm 3, W.listOf #[] 0) :: news) := N
  refine execsA ?_
  w_strict k_steps
  all_goals first | (exfalso; omega) | skip
  all_goals first | (with_reducible exact True.intro) | skip
  refine execsA ?_
  w_strict k_steps
  all_goals first | (exfalso; omega) | skip
  all_goals first | (with_reducible exact True.intro) | skip
  refine execsA ?_
  w_strict k_steps
  all_goals first | (exfalso; omega) | skip
  all_goals first | (with_reducible exact True.intro) | skip
  refine execsA ?_
  w_strict k_steps
  all_goals first | (exfalso; omega) | skip
  all_goals first | (with_reducible exact True.intro) | skip
  refine' h _ _ _ _ _ _ ?m ?F ?N ?o
  case F => assumption
  case o => first | assumption | rfl
  case N => (rename News h₀ L _ _ => NN; exact kst_newsOf NN (List.forall_mem_cons.mpr ⟨by k_mem, List.forall_mem_cons.mpr ⟨by k_mem, fun p9 hp9 => by repeat' (first | exact hp9 | refine List.Mem.tail _ ?_)⟩⟩))
  case m =>
    funext y
    dsimp only [mR]
    rw [hr]
    repeat' (first | rfl | split)

set_option maxHeartbeats 4000000 in
theorem blockD_4o (B : Below callerA h₀ [] h₀) (X₀ : (hd.heap_39 w.params).In h₀) (T : Top p loose mean mg mb h₀) (hc7 : c ≠ 7)
    (F : Fr h₀ L s.heap (mG x rest i t c tc 4 v vl dn on r)) (N : News h₀ L s.heap ((L + 1, oc) :: (x.Nm 4, nmO x 4) :: news)) (hoc : oc.data = .cell ocv) (hne : ∀ p ∈ news, p.1 ≠ L + 1) (hne2 : x.Nm 4 ≠ L + 1)
    (h : BackD w h₀ L fa cd E s Q x rest i t tc c 4 v vl dn r on news) :
    wpC (model prg4 w) (callerA.deeper (env4 w.params L fa cd)) (execs ((lawFor (hd.heap_39 w.params)).drop 7) (env4 w.params L fa cd)) Q E s := by
  have : PySem.Challenge.rw_dm0089_04 = PySem.Challenge.rw_dm0089_04 ∧ hd.heap_39 = hd.heap_39 := by (k_fill; exact ⟨rfl, rfl⟩)
  clear this
  have e1 : lawFor (hd.heap_39 w.params) = lawFor (hd.heap_39 w.params) := rfl
  have e2 : lawScope (hd.heap_39 w.params) = lawScope (hd.heap_39 w.params) := rfl
  conv at e1 => rhs; whnf
  conv at e2 => rhs; whnf
  dsimp only [env4, BackD] at h ⊢
  rw [e1, e2] at h ⊢
  clear e1 e2
  dsimp only [List.drop] at h ⊢
  have hr : rightAt c 4 = false := by unfold rightAt; rw [if_neg hc7]; rfl
  replace N : News h₀ L s.heap ((L + 1, oc) :: (x.Nm 4, W.listOf #[.str kLine (x.ta 4)] 0) :: news) := N
  refine execsA ?_
  w_strict k_steps
  all_goals first | (exfalso; omega) | skip
  all_goals first | (with_reducible exact True.intro) | skip
  refine execsA ?_
  w_strict k_steps
  all_goals first | (exfalso; omega) | skip
  all_goals first | (with_reducible exact True.intro) | skip
  refine execsA ?_
  w_strict k_steps
  all_goals first | (exfalso; omega) | skip
  all_goals first | (with_reducible exact True.intro) | skip
  refine execsA ?_
  w_strict k_steps
  all_goals first | (exfalso; omega) | skip
  all_goals first | (with_reducible exact True.intro) | skip
  refine' h _ _ _ _ _ _ ?m ?F ?N ?o
  case F => assumption
  case o => first | assumption | rfl
  case N => (rename News h₀ L _ _ => NN; exact kst_newsOf NN (List.forall_mem_cons.mpr ⟨by k_mem, List.forall_mem_cons.mpr ⟨by k_mem, fun p9 hp9 => by repeat' (first | exact hp9 | refine List.Mem.tail _ ?_)⟩⟩))
  case m =>
    funext y
    dsimp only [mR]
    rw [hr]
    repeat' (first | rfl | split)

set_option maxHeartbeats 4000000 in
theorem blockD_4s (B : Below callerA h₀ [] h₀) (X₀ : (hd.heap_39 w.params).In h₀) (T : Top p loose mean mg mb h₀)
    (F : Fr h₀ L s.heap (mG x rest i t 7 tc 4 v vl dn on r)) (N : News h₀ L s.heap ((L + 1, oc) :: (x.Nm 4, nmO x 4) :: news)) (hoc : oc.data = .cell ocv) (hne : ∀ p ∈ news, p.1 ≠ L + 1) (hne2 : x.Nm 4 ≠ L + 1)
    (h : BackD w h₀ L fa cd E s Q x rest i t tc 7 4 v vl dn r on news) :
    wpC (model prg4 w) (callerA.deeper (env4 w.params L fa cd)) (execs ((lawFor (hd.heap_39 w.params)).drop 7) (env4 w.params L fa cd)) Q E s := by
  have : PySem.Challenge.rw_dm0089_04 = PySem.Challenge.rw_dm0089_04 ∧ hd.heap_39 = hd.heap_39 := by (k_fill; exact ⟨rfl, rfl⟩)
  clear this
  have e1 : lawFor (hd.heap_39 w.params) = lawFor (hd.heap_39 w.params) := rfl
  have e2 : lawScope (hd.heap_39 w.params) = lawScope (hd.heap_39 w.params) := rfl
  conv at e1 => rhs; whnf
  conv at e2 => rhs; whnf
  dsimp only [env4, BackD] at h ⊢
  rw [e1, e2] at h ⊢
  clear e1 e2
  dsimp only [List.drop] at h ⊢
  have hr : rightAt 7 4 = false := by rfl
  replace N : News h₀ L s.heap ((L + 1, oc) :: (x.Nm 4, W.listOf #[.str kLine (x.ta 4)] 0) :: news) := N
  refine execsA ?_
  w_strict k_steps
  all_goals first | (exfalso; omega) | skip
  all_goals first | (with_reducible exact True.intro) | skip
  refine execsA ?_
  w_strict k_steps
  all_goals first | (exfalso; omega) | skip
  all_goals first | (with_reducible exact True.intro) | skip
  refine execsA ?_
  w_strict k_steps
  all_goals first | (exfalso; omega) | skip
  all_goals first | (with_reducible exact True.intro) | skip
  refine execsA ?_
  w_strict k_steps
  all_goals first | (exfalso; omega) | skip
  all_goals first | (with_reducible exact True.intro) | skip
  refine' h _ _ _ _ _ _ ?m ?F ?N ?o
  case F => assumption
  case o => first | assumption | rfl
  case N => (rename News h₀ L _ _ => NN; exact kst_newsOf NN (List.forall_mem_cons.mpr ⟨by k_mem, List.forall_mem_cons.mpr ⟨by k_mem, fun p9 hp9 => by repeat' (first | exact hp9 | refine List.Mem.tail _ ?_)⟩⟩))
  case m =>
    funext y
    dsimp only [mR]
    rw [hr]
    repeat' (first | rfl | split)

set_option maxHeartbeats 4000000 in
theorem blockD_5o (B : Below callerA h₀ [] h₀) (X₀ : (hd.heap_39 w.params).In h₀) (T : Top p loose mean mg mb h₀) (hc7 : c ≠ 7)
    (F : Fr h₀ L s.heap (mG x rest i t c tc 5 v vl dn on r)) (N : News h₀ L s.heap ((L + 1, oc) :: (x.Nm 5, nmO x 5) :: news)) (hoc : oc.data = .cell ocv) (hne : ∀ p ∈ news, p.1 ≠ L + 1) (hne2 : x.Nm 5 ≠ L + 1)
    (h : BackD w h₀ L fa cd E s Q x rest i t tc c 5 v vl dn r on news) :
    wpC (model prg4 w) (callerA.deeper (env4 w.params L fa cd)) (execs ((lawFor (hd.heap_39 w.params)).drop 7) (env4 w.params L fa cd)) Q E s := by
  have : PySem.Challenge.rw_dm0089_04 = PySem.Challenge.rw_dm0089_04 ∧ hd.heap_39 = hd.heap_39 := by (k_fill; exact ⟨rfl, rfl⟩)
  clear this
  have e1 : lawFor (hd.heap_39 w.params) = lawFor (hd.heap_39 w.params) := rfl
  have e2 : lawScope (hd.heap_39 w.params) = lawScope (hd.heap_39 w.params) := rfl
  conv at e1 => rhs; whnf
  conv at e2 => rhs; whnf
  dsimp only [env4, BackD] at h ⊢
  rw [e1, e2] at h ⊢
  clear e1 e2
  dsimp only [List.drop] at h ⊢
  have hr : rightAt c 5 = false := by unfold rightAt; rw [if_neg hc7]; rfl
  replace N : News h₀ L s.heap ((L + 1, oc) :: (x.Nm 5, W.listOf #[] 0) :: news) := N
  refine execsA ?_
  w_strict k_steps
  all_goals first | (exfalso; omega) | skip
  all_goals first | (with_reducible exact True.intro) | skip
  refine execsA ?_
  w_strict k_steps
  all_goals first | (exfalso; omega) | skip
  all_goals first | (with_reducible exact True.intro) | skip
  refine execsA ?_
  w_strict k_steps
  all_goals first | (exfalso; omega) | skip
  all_goals first | (with_reducible exact True.intro) | skip
  refine execsA ?_
  w_strict k_steps
  all_goals first | (exfalso; omega) | skip
  all_goals first | (with_reducible exact True.intro) | skip
  refine' h _ _ _ _ _ _ ?m ?F ?N ?o
  case F => assumption
  case o => first | assumption | rfl
  case N => (rename News h₀ L _ _ => NN; exact kst_newsOf NN (List.forall_mem_cons.mpr ⟨by k_mem, List.forall_mem_cons.mpr ⟨by k_mem, fun p9 hp9 => by repeat' (first | exact hp9 | refine List.Mem.tail _ ?_)⟩⟩))
  case m =>
    funext y
    dsimp only [mR]
    rw [hr]
    repeat' (first | rfl | split)

set_option maxHeartbeats 4000000 in
theorem blockD_5s (B : Below callerA h₀ [] h₀) (X₀ : (hd.heap_39 w.params).In h₀) (T : Top p loose mean mg mb h₀)
    (F : Fr h₀ L s.heap (mG x rest i t 7 tc 5 v vl dn on r)) (N : News h₀ L s.heap ((L + 1, oc) :: (x.Nm 5, nmO x 5) :: news)) (hoc : oc.data = .cell ocv) (hne : ∀ p ∈ news, p.1 ≠ L + 1) (hne2 : x.Nm 5 ≠ L + 1)
    (h : BackD w h₀ L fa cd E s Q x rest i t tc 7 5 v vl dn r on news) :
    wpC (model prg4 w) (callerA.deeper (env4 w.params L fa cd)) (execs ((lawFor (hd.heap_39 w.params)).drop 7) (env4 w.params L fa cd)) Q E s := by
  have : PySem.Challenge.rw_dm0089_04 = PySem.Challenge.rw_dm0089_04 ∧ hd.heap_39 = hd.heap_39 := by (k_fill; exact ⟨rfl, rfl⟩)
  clear this
  have e1 : lawFor (hd.heap_39 w.params) = lawFor (hd.heap_39 w.params) := rfl
  have e2 : lawScope (hd.heap_39 w.params) = lawScope (hd.heap_39 w.params) := rfl
  conv at e1 => rhs; whnf
  conv at e2 => rhs; whnf
  dsimp only [env4, BackD] at h ⊢
  rw [e1, e2] at h ⊢
  clear e1 e2
  dsimp only [List.drop] at h ⊢
  have hr : rightAt 7 5 = false := by rfl
  replace N : News h₀ L s.heap ((L + 1, oc) :: (x.Nm 5, W.listOf #[] 0) :: news) := N
  refine execsA ?_
  w_strict k_steps
  all_goals first | (exfalso; omega) | skip
  all_goals first | (with_reducible exact True.intro) | skip
  refine execsA ?_
  w_strict k_steps
  all_goals first | (exfalso; omega) | skip
  all_goals first | (with_reducible exact True.intro) | skip
  refine execsA ?_
  w_strict k_steps
  all_goals first | (exfalso; omega) | skip
  all_goals first | (with_reducible exact True.intro) | skip
  refine execsA ?_
  w_strict k_steps
  all_goals first | (exfalso; omega) | skip
  all_goals first | (with_reducible exact True.intro) | skip
  refine' h _ _ _ _ _ _ ?m ?F ?N ?o
  case F => assumption
  case o => first | assumption | rfl
  case N => (rename News h₀ L _ _ => NN; exact kst_newsOf NN (List.forall_mem_cons.mpr ⟨by k_mem, List.forall_mem_cons.mpr ⟨by k_mem, fun p9 hp9 => by repeat' (first | exact hp9 | refine List.Mem.tail _ ?_)⟩⟩))
  case m =>
    funext y
    dsimp only [mR]
    rw [hr]
    repeat' (first | rfl | split)

set_option maxHeartbeats 4000000 in
theorem blockD_6o (B : Below callerA h₀ [] h₀) (X₀ : (hd.heap_39 w.params).In h₀) (T : Top p loose mean mg mb h₀) (hc7 : c ≠ 7)
    (F : Fr h₀ L s.heap (mG x rest i t c tc 6 v vl dn on r)) (N : News h₀ L s.heap ((L + 1, oc) :: (x.Nm 6, nmO x 6) :: news)) (hoc : oc.data = .cell ocv) (hne : ∀ p ∈ news, p.1 ≠ L + 1) (hne2 : x.Nm 6 ≠ L + 1)
    (h : BackD w h₀ L fa cd E s Q x rest i t tc c 6 v vl dn r on news) :
    wpC (model prg4 w) (callerA.deeper (env4 w.params L fa cd)) (execs ((lawFor (hd.heap_39 w.params)).drop 7) (env4 w.params L fa cd)) Q E s := by
  have : PySem.Challenge.rw_dm0089_04 = PySem.Challenge.rw_dm0089_04 ∧ hd.heap_39 = hd.heap_39 := by (k_fill; exact ⟨rfl, rfl⟩)
  clear this
  have e1 : lawFor (hd.heap_39 w.params) = lawFor (hd.heap_39 w.params) := rfl
  have e2 : lawScope (hd.heap_39 w.params) = lawScope (hd.heap_39 w.params) := rfl
  conv at e1 => rhs; whnf
  conv at e2 => rhs; whnf
  dsimp only [env4, BackD] at h ⊢
  rw [e1, e2] at h ⊢
  clear e1 e2
  dsimp only [List.drop] at h ⊢
  have hr : rightAt c 6 = false := by unfold rightAt; rw [if_neg hc7]; rfl
  replace N : News h₀ L s.heap ((L + 1, oc) :: (x.Nm 6, W.listOf #[.str kNp (x.ta 6)] 0) :: news) := N
  refine execsA ?_
  w_strict k_steps
  all_goals first | (exfalso; omega) | skip
  all_goals first | (with_reducible exact True.intro) | skip
  refine execsA ?_
  w_strict k_steps
  all_goals first | (exfalso; omega) | skip
  all_goals first | (with_reducible exact True.intro) | skip
  refine execsA ?_
  w_strict k_steps
  all_goals first | (exfalso; omega) | skip
  all_goals first | (with_reducible exact True.intro) | skip
  refine execsA ?_
  w_strict k_steps
  all_goals first | (exfalso; omega) | skip
  all_goals first | (with_reducible exact True.intro) | skip
  refine' h _ _ _ _ _ _ ?m ?F ?N ?o
  case F => assumption
  case o => first | assumption | rfl
  case N => (rename News h₀ L _ _ => NN; exact kst_newsOf NN (List.forall_mem_cons.mpr ⟨by k_mem, List.forall_mem_cons.mpr ⟨by k_mem, fun p9 hp9 => by repeat' (first | exact hp9 | refine List.Mem.tail _ ?_)⟩⟩))
  case m =>
    funext y
    dsimp only [mR]
    rw [hr]
    repeat' (first | rfl | split)

set_option maxHeartbeats 4000000 in
theorem blockD_6s (B : Below callerA h₀ [] h₀) (X₀ : (hd.heap_39 w.params).In h₀) (T : Top p loose mean mg mb h₀)
    (F : Fr h₀ L s.heap (mG x rest i t 7 tc 6 v vl dn on r)) (N : News h₀ L s.heap ((L + 1, oc) :: (x.Nm 6, nmO x 6) :: news)) (hoc : oc.data = .cell ocv) (hne : ∀ p ∈ news, p.1 ≠ L + 1) (hne2 : x.Nm 6 ≠ L + 1)
    (h : BackD w h₀ L fa cd E s Q x rest i t tc 7 6 v vl dn r on news) :
    wpC (model prg4 w) (callerA.deeper (env4 w.params L fa cd)) (execs ((lawFor (hd.heap_39 w.params)).drop 7) (env4 w.params L fa cd)) Q E s := by
  have : PySem.Challenge.rw_dm0089_04 = PySem.Challenge.rw_dm0089_04 ∧ hd.heap_39 = hd.heap_39 := by (k_fill; exact ⟨rfl, rfl⟩)
  clear this
  have e1 : lawFor (hd.heap_39 w.params) = lawFor (hd.heap_39 w.params) := rfl
  have e2 : lawScope (hd.heap_39 w.params) = lawScope (hd.heap_39 w.params) := rfl
  conv at e1 => rhs; whnf
  conv at e2 => rhs; whnf
  dsimp only [env4, BackD] at h ⊢
  rw [e1, e2] at h ⊢
  clear e1 e2
  dsimp only [List.drop] at h ⊢
  have hr : rightAt 7 6 = false := by rfl
  replace N : News h₀ L s.heap ((L + 1, oc) :: (x.Nm 6, W.listOf #[.str kNp (x.ta 6)] 0) :: news) := N
  refine execsA ?_
  w_strict k_steps
  all_goals first | (exfalso; omega) | skip
  all_goals first | (with_reducible exact True.intro) | skip
  refine execsA ?_
  w_strict k_steps
  all_goals first | (exfalso; omega) | skip
  all_goals first | (with_reducible exact True.intro) | skip
  refine execsA ?_
  w_strict k_steps
  all_goals first | (exfalso; omega) | skip
  all_goals first | (with_reducible exact True.intro) | skip
  refine execsA ?_
  w_strict k_steps
  all_goals first | (exfalso; omega) | skip
  all_goals first | (with_reducible exact True.intro) | skip
  refine' h _ _ _ _ _ _ ?m ?F ?N ?o
  case F => assumption
  case o => first | assumption | rfl
  case N => (rename News h₀ L _ _ => NN; exact kst_newsOf NN (List.forall_mem_cons.mpr ⟨by k_mem, List.forall_mem_cons.mpr ⟨by k_mem, fun p9 hp9 => by repeat' (first | exact hp9 | refine List.Mem.tail _ ?_)⟩⟩))
  case m =>
    funext y
    dsimp only [mR]
    rw [hr]
    repeat' (first | rfl | split)

set_option maxHeartbeats 4000000 in
theorem blockD_7o (B : Below callerA h₀ [] h₀) (X₀ : (hd.heap_39 w.params).In h₀) (T : Top p loose mean mg mb h₀) (hc7 : c ≠ 7)
    (F : Fr h₀ L s.heap (mG x rest i t c tc 7 v vl dn on r)) (N : News h₀ L s.heap ((L + 1, oc) :: (x.Nm 7, nmO x 7) :: news)) (hoc : oc.data = .cell ocv) (hne : ∀ p ∈ news, p.1 ≠ L + 1) (hne2 : x.Nm 7 ≠ L + 1)
    (h : BackD w h₀ L fa cd E s Q x rest i t tc c 7 v vl dn r on news) :
    wpC (model prg4 w) (callerA.deeper (env4 w.params L fa cd)) (execs ((lawFor (hd.heap_39 w.params)).drop 7) (env4 w.params L fa cd)) Q E s := by
  have : PySem.Challenge.rw_dm0089_04 = PySem.Challenge.rw_dm0089_04 ∧ hd.heap_39 = hd.heap_39 := by (k_fill; exact ⟨rfl, rfl⟩)
  clear this
  have e1 : lawFor (hd.heap_39 w.params) = lawFor (hd.heap_39 w.params) := rfl
  have e2 : lawScope (hd.heap_39 w.params) = lawScope (hd.heap_39 w.params) := rfl
  conv at e1 => rhs; whnf
  conv at e2 => rhs; whnf
  dsimp only [env4, BackD] at h ⊢
  rw [e1, e2] at h ⊢
  clear e1 e2
  dsimp only [List.drop] at h ⊢
  have hr : rightAt c 7 = false := by unfold rightAt; rw [if_neg hc7]; rfl
  replace N : News h₀ L s.heap ((L + 1, oc) :: (x.Nm 7, W.listOf #[.str kLine (x.ta 7), .str kLines (x.tb 7)] 0) :: news) := N
  refine execsA ?_
  w_strict k_steps
  all_goals first | (exfalso; omega) | skip
  all_goals first | (with_reducible exact True.intro) | skip
  refine execsA ?_
  w_strict k_steps
  all_goals first | (exfalso; omega) | skip
  all_goals first | (with_reducible exact True.intro) | skip
  refine execsA ?_
  w_strict k_steps
  all_goals first | (exfalso; omega) | skip
  all_goals first | (with_reducible exact True.intro) | skip
  refine execsA ?_
  w_strict k_steps
  all_goals first | (exfalso; omega) | skip
  all_goals first | (with_reducible exact True.intro) | skip
  refine' h _ _ _ _ _ _ ?m ?F ?N ?o
  case F => assumption
  case o => first | assumption | rfl
  case N => (rename News h₀ L _ _ => NN; exact kst_newsOf NN (List.forall_mem_cons.mpr ⟨by k_mem, List.forall_mem_cons.mpr ⟨by k_mem, fun p9 hp9 => by repeat' (first | exact hp9 | refine List.Mem.tail _ ?_)⟩⟩))
  case m =>
    funext y
    dsimp only [mR]
    rw [hr]
    repeat' (first | rfl | split)

set_option maxHeartbeats 4000000 in
theorem blockD_7s (B : Below callerA h₀ [] h₀) (X₀ : (hd.heap_39 w.params).In h₀) (T : Top p loose mean mg mb h₀)
    (F : Fr h₀ L s.heap (mG x rest i t 7 tc 7 v vl dn on r)) (N : News h₀ L s.heap ((L + 1, oc) :: (x.Nm 7, nmO x 7) :: news)) (hoc : oc.data = .cell ocv) (hne : ∀ p ∈ news, p.1 ≠ L + 1) (hne2 : x.Nm 7 ≠ L + 1)
    (h : BackD w h₀ L fa cd E s Q x rest i t tc 7 7 v vl dn r on news) :
    wpC (model prg4 w) (callerA.deeper (env4 w.params L fa cd)) (execs ((lawFor (hd.heap_39 w.params)).drop 7) (env4 w.params L fa cd)) Q E s := by
  have : PySem.Challenge.rw_dm0089_04 = PySem.Challenge.rw_dm0089_04 ∧ hd.heap_39 = hd.heap_39 := by (k_fill; exact ⟨rfl, rfl⟩)
  clear this
  have e1 : lawFor (hd.heap_39 w.params) = lawFor (hd.heap_39 w.params) := rfl
  have e2 : lawScope (hd.heap_39 w.params) = lawScope (hd.heap_39 w.params) := rfl
  conv at e1 => rhs; whnf
  conv at e2 => rhs; whnf
  dsimp only [env4, BackD] at h ⊢
  rw [e1, e2] at h ⊢
  clear e1 e2
  dsimp only [List.drop] at h ⊢
  have hr : rightAt 7 7 = false := by rfl
  replace N : News h₀ L s.heap ((L + 1, oc) :: (x.Nm 7, W.listOf #[.str kLine (x.ta 7), .str kLines (x.tb 7)] 0) :: news) := N
  refine execsA ?_
  w_strict k_steps
  all_goals first | (exfalso; omega) | skip
  all_goals first | (with_reducible exact True.intro) | skip
  refine execsA ?_
  w_strict k_steps
  all_goals first | (exfalso; omega) | skip
  all_goals first | (with_reducible exact True.intro) | skip
  refine execsA ?_
  w_strict k_steps
  all_goals first | (exfalso; omega) | skip
  all_goals first | (with_reducible exact True.intro) | skip
  refine execsA ?_
  w_strict k_steps
  all_goals first | (exfalso; omega) | skip
  all_goals first | (with_reducible exact True.intro) | skip
  refine' h _ _ _ _ _ _ ?m ?F ?N ?o
  case F => assumption
  case o => first | assumption | rfl
  case N => (rename News h₀ L _ _ => NN; exact kst_newsOf NN (List.forall_mem_cons.mpr ⟨by k_mem, List.forall_mem_cons.mpr ⟨by k_mem, fun p9 hp9 => by repeat' (first | exact hp9 | refine List.Mem.tail _ ?_)⟩⟩))
  case m =>
    funext y
    dsimp only [mR]
    rw [hr]
    repeat' (first | rfl | split)

end
end Mine
end

-- part W38
section
open PySem PySem.W PySem.Calls PyProof.Rows Builtin Builtin.ObjectAttr
namespace Mine
section
variable {w : World} {E : Value → Shared → Prop} {s : Shared} {h₀ : Heap} {L fa : Addr} {cd : Value} {mg mb : Str → Option Value} {p : Program} {loose : List Str} {mean : ExcName → Option Value} {Q : Flow → Shared → Prop} {x : Fx} {rest : Str → Option Value} {news : List (Addr × Obj)} {i : Nat} {t tc tt : Tok} {c k : Nat} {v : Value} {vl dn r o : Addr} {on : Option Value} {hv : List Value} {nH : Nat}
local macro_rules | `(tactic| k_all) => `(tactic| assumption)
set_option maxHeartbeats 4000000 in
theorem blockE0 (B : Below callerA h₀ [] h₀) (X₀ : (hd.heap_39 w.params).In h₀) (T : Top p loose mean mg mb h₀) (hr : rightAt c k = false)
    (F : Fr h₀ L s.heap (mR x rest i t c tc k v vl dn on r tt)) (N : News h₀ L s.heap ((r, lstO []) :: news))
    (h : ∀ h' tk, Fr h₀ L h' (mR x rest i t c tc k v vl dn on r tt) → News h₀ L h' news → Q .next { s with heap := h', toks := tk }) :
    wpC (model prg4 w) (callerA.deeper (env4 w.params L fa cd)) (execs ((lawFor (hd.heap_39 w.params)).drop 11) (env4 w.params L fa cd)) Q E s := by
  have : PySem.Challenge.rw_dm0089_04 = PySem.Challenge.rw_dm0089_04 ∧ hd.heap_39 = hd.heap_39 := by (k_fill; exact ⟨rfl, rfl⟩)
  clear this
  have e1 : lawFor (hd.heap_39 w.params) = lawFor (hd.heap_39 w.params) := rfl
  have e2 : lawScope (hd.heap_39 w.params) = lawScope (hd.heap_39 w.params) := rfl
  conv at e1 => rhs; whnf
  conv at e2 => rhs; whnf
  dsimp only [env4]
  rw [e1, e2]
  clear e1 e2
  dsimp only [List.drop]
  unfold mR at F
  rw [hr] at F
  replace N : News h₀ L s.heap ((r, W.listOf #[] 0) :: news) := N
  refine wpC_any ?_
  w_strict k_steps
  rename Fr h₀ L _ _ => FF
  rename News h₀ L _ _ => NN
  refine h _ _ ?_ fun p hp => NN p (.tail _ (.tail _ hp))
  unfold mR
  rw [hr]
  exact FF
set_option maxHeartbeats 4000000 in
theorem blockE1_0 (B : Below callerA h₀ [] h₀) (X₀ : (hd.heap_39 w.params).In h₀) (T : Top p loose mean mg mb h₀) (hr : rightAt c 0 = true)
    (F : Fr h₀ L s.heap (mR x rest i t c tc 0 v vl dn on r tt)) (N : News h₀ L s.heap ((r, lstO [.ref o]) :: (x.H, W.listOf hv.toArray nH) :: news)) (hrH : x.H < r) (hne : ∀ p ∈ news, p.1 ≠ x.H) (hlen : hv.length ≤ 64)
    (h : ∀ q h' tk, Fr h₀ L h' (mR x rest i t c tc 0 v vl dn on r tt) → News h₀ L h' ((q, tupOf [.ref o, .int (c : Int) tc, valAt 0 v, .bool (0 == 0)]) :: (x.H, W.listOf (hv ++ [Value.ref q]).toArray (nH + 1)) :: news) → (∀ p ∈ news, p.1 < q) → x.H < q → r < q → Q .next { s with heap := h', toks := tk }) :
    wpC (model prg4 w) (callerA.deeper (env4 w.params L fa cd)) (execs ((lawFor (hd.heap_39 w.params)).drop 11) (env4 w.params L fa cd)) Q E s := by
  have : PySem.Challenge.rw_dm0089_04 = PySem.Challenge.rw_dm0089_04 ∧ hd.heap_39 = hd.heap_39 := by (k_fill; exact ⟨rfl, rfl⟩)
  clear this
  have e1 : lawFor (hd.heap_39 w.params) = lawFor (hd.heap_39 w.params) := rfl
  have e2 : lawScope (hd.heap_39 w.params) = lawScope (hd.heap_39 w.params) := rfl
  conv at e1 => rhs; whnf
  conv at e2 => rhs; whnf
  dsimp only [env4]
  rw [e1, e2]
  clear e1 e2
  dsimp only [List.drop]
  unfold mR at F
  rw [hr] at F
  replace N : News h₀ L s.heap ((r, W.listOf #[.ref o] 0) :: (x.H, W.listOf hv.toArray nH) :: news) := N
  refine wpC_any ?_
  w_strict k_steps
  rename Fr h₀ L _ _ => FF
  rename News h₀ L _ _ => NN
  refine cmp_ofNotEq (PySem.SeqAt.RcNeAt.lists_lengths (items := #[.ref o]) (items2 := #[]) ⟨_, (NN _ (.tail _ (.head _))).1, rfl, _, rfl⟩ ⟨_, (NN _ (.head _)).1, rfl, _, rfl⟩ rfl (by units_room) _ _ _ _ ?_)
  w_strict k_steps
  rename Fr h₀ L _ _ => F2
  rename News h₀ L _ _ => N2
  refine append_K F2 N2 (.tail ?a1 (.tail ?a2 (.tail ?a3 (.head hne)))) ?_ ?z
  case a1 => k_ne
  case a2 => k_ne
  case a3 => exact Nat.ne_of_gt hrH
  case z => (rw [sizeLine_eq]; simp; omega)
  intro h3 F3 N3
  w_strict k_steps
  rename (_ < _ ∧ _ < _ ∧ _ < _ ∧ AllLt _ news) => LT
  refine h _ _ _ ?F ?N (allLt_mem LT.2.2.2) LT.2.2.1 LT.2.1
  case F =>
    unfold mR
    rw [hr]
    exact F3
  case N =>
    intro p hp
    rcases List.mem_cons.mp hp with rfl | hp
    · exact N3 _ (.head _)
    rcases List.mem_cons.mp hp with rfl | hp
    · have := N3 _ (.tail _ (.tail _ (.tail _ (.head _))))
      rw [← List.push_toArray] ; exact this
    · exact N3 p (.tail _ (.tail _ (.tail _ (.tail _ hp))))
set_option maxHeartbeats 4000000 in
theorem blockE1_1 (B : Below callerA h₀ [] h₀) (X₀ : (hd.heap_39 w.params).In h₀) (T : Top p loose mean mg mb h₀) (hr : rightAt c 1 = true)
    (F : Fr h₀ L s.heap (mR x rest i t c tc 1 v vl dn on r tt)) (N : News h₀ L s.heap ((r, lstO [.ref o]) :: (x.H, W.listOf hv.toArray nH) :: news)) (hrH : x.H < r) (hne : ∀ p ∈ news, p.1 ≠ x.H) (hlen : hv.length ≤ 64)
    (h : ∀ q h' tk, Fr h₀ L h' (mR x rest i t c tc 1 v vl dn on r tt) → News h₀ L h' ((q, tupOf [.ref o, .int (c : Int) tc, valAt 1 v, .bool (1 == 0)]) :: (x.H, W.listOf (hv ++ [Value.ref q]).toArray (nH + 1)) :: news) → (∀ p ∈ news, p.1 < q) → x.H < q → r < q → Q .next { s with heap := h', toks := tk }) :
    wpC (model prg4 w) (callerA.deeper (env4 w.params L fa cd)) (execs ((lawFor (hd.heap_39 w.params)).drop 11) (env4 w.params L fa cd)) Q E s := by
  have : PySem.Challenge.rw_dm0089_04 = PySem.Challenge.rw_dm0089_04 ∧ hd.heap_39 = hd.heap_39 := by (k_fill; exact ⟨rfl, rfl⟩)
  clear this
  have e1 : lawFor (hd.heap_39 w.params) = lawFor (hd.heap_39 w.params) := rfl
  have e2 : lawScope (hd.heap_39 w.params) = lawScope (hd.heap_39 w.params) := rfl
  conv at e1 => rhs; whnf
  conv at e2 => rhs; whnf
  dsimp only [env4]
  rw [e1, e2]
  clear e1 e2
  dsimp only [List.drop]
  unfold mR at F
  rw [hr] at F
  replace N : News h₀ L s.heap ((r, W.listOf #[.ref o] 0) :: (x.H, W.listOf hv.toArray nH) :: news) := N
  refine wpC_any ?_
  w_strict k_steps
  rename Fr h₀ L _ _ => FF
  rename News h₀ L _ _ => NN
  refine cmp_ofNotEq (PySem.SeqAt.RcNeAt.lists_lengths (items := #[.ref o]) (items2 := #[]) ⟨_, (NN _ (.tail _ (.head _))).1, rfl, _, rfl⟩ ⟨_, (NN _ (.head _)).1, rfl, _, rfl⟩ rfl (by units_room) _ _ _ _ ?_)
  w_strict k_steps
  rename Fr h₀ L _ _ => F2
  rename News h₀ L _ _ => N2
  refine append_K F2 N2 (.tail ?a1 (.tail ?a2 (.tail ?a3 (.head hne)))) ?_ ?z
  case a1 => k_ne
  case a2 => k_ne
  case a3 => exact Nat.ne_of_gt hrH
  case z => (rw [sizeLine_eq]; simp; omega)
  intro h3 F3 N3
  w_strict k_steps
  rename (_ < _ ∧ _ < _ ∧ _ < _ ∧ AllLt _ news) => LT
  refine h _ _ _ ?F ?N (allLt_mem LT.2.2.2) LT.2.2.1 LT.2.1
  case F =>
    unfold mR
    rw [hr]
    exact F3
  case N =>
    intro p hp
    rcases List.mem_cons.mp hp with rfl | hp
    · exact N3 _ (.head _)
    rcases List.mem_cons.mp hp with rfl | hp
    · have := N3 _ (.tail _ (.tail _ (.tail _ (.head _))))
      rw [← List.push_toArray] ; exact this
    · exact N3 p (.tail _ (.tail _ (.tail _ (.tail _ hp))))
set_option maxHeartbeats 4000000 in
theorem blockE1_2 (B : Below callerA h₀ [] h₀) (X₀ : (hd.heap_39 w.params).In h₀) (T : Top p loose mean mg mb h₀) (hr : rightAt c 2 = true)
    (F : Fr h₀ L s.heap (mR x rest i t c tc 2 v vl dn on r tt)) (N : News h₀ L s.heap ((r, lstO [.ref o]) :: (x.H, W.listOf hv.toArray nH) :: news)) (hrH : x.H < r) (hne : ∀ p ∈ news, p.1 ≠ x.H) (hlen : hv.length ≤ 64)
    (h : ∀ q h' tk, Fr h₀ L h' (mR x rest i t c tc 2 v vl dn on r tt) → News h₀ L h' ((q, tupOf [.ref o, .int (c : Int) tc, valAt 2 v, .bool (2 == 0)]) :: (x.H, W.listOf (hv ++ [Value.ref q]).toArray (nH + 1)) :: news) → (∀ p ∈ news, p.1 < q) → x.H < q → r < q → Q .next { s with heap := h', toks := tk }) :
    wpC (model prg4 w) (callerA.deeper (env4 w.params L fa cd)) (execs ((lawFor (hd.heap_39 w.params)).drop 11) (env4 w.params L fa cd)) Q E s := by
  have : PySem.Challenge.rw_dm0089_04 = PySem.Challenge.rw_dm0089_04 ∧ hd.heap_39 = hd.heap_39 := by (k_fill; exact ⟨rfl, rfl⟩)
  clear this
  have e1 : lawFor (hd.heap_39 w.params) = lawFor (hd.heap_39 w.params) := rfl
  have e2 : lawScope (hd.heap_39 w.params) = lawScope (hd.heap_39 w.params) := rfl
  conv at e1 => rhs; whnf
  conv at e2 => rhs; whnf
  dsimp only [env4]
  rw [e1, e2]
  clear e1 e2
  dsimp only [List.drop]
  unfold mR at F
  rw [hr] at F
  replace N : News h₀ L s.heap ((r, W.listOf #[.ref o] 0) :: (x.H, W.listOf hv.toArray nH) :: news) := N
  refine wpC_any ?_
  w_strict k_steps
  rename Fr h₀ L _ _ => FF
  rename News h₀ L _ _ => NN
  refine cmp_ofNotEq (PySem.SeqAt.RcNeAt.lists_lengths (items := #[.ref o]) (items2 := #[]) ⟨_, (NN _ (.tail _ (.head _))).1, rfl, _, rfl⟩ ⟨_, (NN _ (.head _)).1, rfl, _, rfl⟩ rfl (by units_room) _ _ _ _ ?_)
  w_strict k_steps
  rename Fr h₀ L _ _ => F2
  rename News h₀ L _ _ => N2
  refine append_K F2 N2 (.tail ?a1 (.tail ?a2 (.tail ?a3 (.head hne)))) ?_ ?z
  case a1 => k_ne
  case a2 => k_ne
  case a3 => exact Nat.ne_of_gt hrH
  case z => (rw [sizeLine_eq]; simp; omega)
  intro h3 F3 N3
  w_strict k_steps
  rename (_ < _ ∧ _ < _ ∧ _ < _ ∧ AllLt _ news) => LT
  refine h _ _ _ ?F ?N (allLt_mem LT.2.2.2) LT.2.2.1 LT.2.1
  case F =>
    unfold mR
    rw [hr]
    exact F3
  case N =>
    intro p hp
    rcases List.mem_cons.mp hp with rfl | hp
    · exact N3 _ (.head _)
    rcases List.mem_cons.mp hp with rfl | hp
    · have := N3 _ (.tail _ (.tail _ (.tail _ (.head _))))
      rw [← List.push_toArray] ; exact this
    · exact N3 p (.tail _ (.tail _ (.tail _ (.tail _ hp))))
set_option maxHeartbeats 4000000 in
theorem blockE1_3 (B : Below callerA h₀ [] h₀) (X₀ : (hd.heap_39 w.params).In h₀) (T : Top p loose mean mg mb h₀) (hr : rightAt c 3 = true)
    (F : Fr h₀ L s.heap (mR x rest i t c tc 3 v vl dn on r tt)) (N : News h₀ L s.heap ((r, lstO [.ref o]) :: (x.H, W.listOf hv.toArray nH) :: news)) (hrH : x.H < r) (hne : ∀ p ∈ news, p.1 ≠ x.H) (hlen : hv.length ≤ 64)
    (h : ∀ q h' tk, Fr h₀ L h' (mR x rest i t c tc 3 v vl dn on r tt) → News h₀ L h' ((q, tupOf [.ref o, .int (c : Int) tc, valAt 3 v, .bool (3 == 0)]) :: (x.H, W.listOf (hv ++ [Value.ref q]).toArray (nH + 1)) :: news) → (∀ p ∈ news, p.1 < q) → x.H < q → r < q → Q .next { s with heap := h', toks := tk }) :
    wpC (model prg4 w) (callerA.deeper (env4 w.params L fa cd)) (execs ((lawFor (hd.heap_39 w.params)).drop 11) (env4 w.params L fa cd)) Q E s := by
  have : PySem.Challenge.rw_dm0089_04 = PySem.Challenge.rw_dm0089_04 ∧ hd.heap_39 = hd.heap_39 := by (k_fill; exact ⟨rfl, rfl⟩)
  clear this
  have e1 : lawFor (hd.heap_39 w.params) = lawFor (hd.heap_39 w.params) := rfl
  have e2 : lawScope (hd.heap_39 w.params) = lawScope (hd.heap_39 w.params) := rfl
  conv at e1 => rhs; whnf
  conv at e2 => rhs; whnf
  dsimp only [env4]
  rw [e1, e2]
  clear e1 e2
  dsimp only [List.drop]
  unfold mR at F
  rw [hr] at F
  replace N : News h₀ L s.heap ((r, W.listOf #[.ref o] 0) :: (x.H, W.listOf hv.toArray nH) :: news) := N
  refine wpC_any ?_
  w_strict k_steps
  rename Fr h₀ L _ _ => FF
  rename News h₀ L _ _ => NN
  refine cmp_ofNotEq (PySem.SeqAt.RcNeAt.lists_lengths (items := #[.ref o]) (items2 := #[]) ⟨_, (NN _ (.tail _ (.head _))).1, rfl, _, rfl⟩ ⟨_, (NN _ (.head _)).1, rfl, _, rfl⟩ rfl (by units_room) _ _ _ _ ?_)
  w_strict k_steps
  rename Fr h₀ L _ _ => F2
  rename News h₀ L _ _ => N2
  refine append_K F2 N2 (.tail ?a1 (.tail ?a2 (.tail ?a3 (.head hne)))) ?_ ?z
  case a1 => k_ne
  case a2 => k_ne
  case a3 => exact Nat.ne_of_gt hrH
  case z => (rw [sizeLine_eq]; simp; omega)
  intro h3 F3 N3
  w_strict k_steps
  rename (_ < _ ∧ _ < _ ∧ _ < _ ∧ AllLt _ news) => LT
  refine h _ _ _ ?F ?N (allLt_mem LT.2.2.2) LT.2.2.1 LT.2.1
  case F =>
    unfold mR
    rw [hr]
    exact F3
  case N =>
    intro p hp
    rcases List.mem_cons.mp hp with rfl | hp
    · exact N3 _ (.head _)
    rcases List.mem_cons.mp hp with rfl | hp
    · have := N3 _ (.tail _ (.tail _ (.tail _ (.head _))))
      rw [← List.push_toArray] ; exact this
    · exact N3 p (.tail _ (.tail _ (.tail _ (.tail _ hp))))
end
end Mine
end

-- part W39
section
open PySem PySem.W PySem.Calls PyProof.Rows Builtin Builtin.ObjectAttr
namespace Mine
section
variable {α : Type} {C Nm r D V Hh R K S dx tu o q : α} {nl T rest own nl' : List α} {p : α}
theorem i1 (hn : Nm ∈ T) (h : p ∈ C :: Nm :: r :: D :: V :: Hh :: R :: K :: S :: (nl ++ T)) : p ∈ r :: D :: V :: (nl ++ (C :: Hh :: R :: K :: S :: T)) := by simp only [List.mem_cons, List.mem_append, List.cons_append] at h ⊢; grind
theorem i2 (h : p ∈ r :: C :: Hh :: R :: K :: S :: T) : p ∈ C :: Nm :: r :: D :: V :: Hh :: R :: K :: S :: (nl ++ T) := by simp only [List.mem_cons, List.mem_append, List.cons_append] at h ⊢; grind
theorem i3 (hn : Nm ∈ T) (h : p ∈ C :: Nm :: r :: dx :: tu :: o :: D :: V :: Hh :: R :: K :: S :: (nl ++ T)) : p ∈ r :: dx :: tu :: o :: D :: V :: (nl ++ (C :: Hh :: R :: K :: S :: T)) := by simp only [List.mem_cons, List.mem_append, List.cons_append] at h ⊢; grind
theorem i4 (h : p ∈ r :: Hh :: C :: R :: K :: S :: dx :: tu :: o :: (nl ++ T)) : p ∈ C :: Nm :: r :: dx :: tu :: o :: D :: V :: Hh :: R :: K :: S :: (nl ++ T) := by simp only [List.mem_cons, List.mem_append, List.cons_append] at h ⊢; grind
theorem i5 (hn : ∀ z ∈ nl', z ∈ nl) (h : p ∈ C :: Hh :: R :: K :: S :: ((q :: dx :: tu :: o :: nl') ++ rest)) : p ∈ q :: Hh :: C :: R :: K :: S :: dx :: tu :: o :: (nl ++ (rest ++ own)) := by simp only [List.mem_cons, List.mem_append, List.cons_append] at h ⊢; grind
theorem i6 (h : p ∈ own) : p ∈ q :: Hh :: C :: R :: K :: S :: dx :: tu :: o :: (nl ++ (rest ++ own)) := by simp only [List.mem_cons, List.mem_append, List.cons_append] at h ⊢; grind
theorem i7 (h : p ∈ C :: Hh :: R :: K :: S :: rest) : p ∈ C :: Hh :: R :: K :: S :: (rest ++ own) := by simp only [List.mem_cons, List.mem_append, List.cons_append] at h ⊢; grind
theorem i8 (h : p ∈ own) : p ∈ C :: Hh :: R :: K :: S :: (rest ++ own) := by simp only [List.mem_cons, List.mem_append, List.cons_append] at h ⊢; grind
end
/-- one that was taken and is held -/
structure Hd where
  x : Addr
  dx : Addr
  tu : Addr
  q : Addr
  c : Nat
  pl : Bool
  v : Value
  nl : List (Addr × Obj)
  t : Tok
  t2 : Tok
  tc : Tok
def Hd.fam (P : Params) (e : Hd) : List (Addr × Obj) := (e.q, tupOf [.ref e.x, .int (e.c : Int) e.tc, e.v, .bool e.pl]) :: (e.dx, dictAt P e.c e.v e.t e.t2) :: (e.tu, tupOf (tsOf e.v (if e.pl then [e.v] else []))) :: (e.x, excOf (clsAt e.c) e.dx e.tu) :: e.nl
def Hd.ok (e : Hd) : Prop := e.c < 8 ∧ ValL e.v e.nl
abbrev heldO (es : List Hd) (nH : Nat) : Obj := W.listOf (es.map fun e => Value.ref e.q).toArray nH
structure Apart (x : Fx) (L : Addr) : Prop where
  ca : x.ca = L + 1
  H : x.H ≠ L + 1
  R : x.R ≠ L + 1
  Ki : x.Ki ≠ L + 1
  S : x.S ≠ L + 1
  RH : x.R ≠ x.H
  KH : x.Ki ≠ x.H
  SH : x.S ≠ x.H
/-- the ledger of the law's frame between two turns -/
structure Led (P : Params) (x : Fx) (L : Addr) (es : List Hd) (oc : Obj) (nH : Nat) (rest : List (Addr × Obj)) : Prop where
  cell : ∃ o, oc.data = .cell o
  held : ∀ e ∈ es, e.ok ∧ ∀ p ∈ e.fam P, p ∈ rest
  shp : ∀ k, k < 8 → (x.T k, tupO x k) ∈ rest ∧ (x.Nm k, nmO x k) ∈ rest
  offC : ∀ p ∈ rest, p.1 ≠ L + 1
  offH : ∀ p ∈ rest, p.1 ≠ x.H
structure Vars (x : Fx) (m : Str → Option Value) : Prop where
  run : m (PySem.Str.ofString "run") = some (.ref x.R)
  held : m (PySem.Str.ofString "held") = some (.ref x.H)
  shapes : m (PySem.Str.ofString "shapes") = some (.ref x.S)
  kinds : m (PySem.Str.ofString "kinds") = some (.ref x.Ki)
theorem Vars.eq {x : Fx} {m : Str → Option Value} (V : Vars x m) : m = mB x m := by
  funext y
  unfold mB
  split
  · rename_i e; rw [e]; exact V.run
  · split
    · rename_i e; rw [e]; exact V.held
    · split
      · rename_i e; rw [e]; exact V.shapes
      · split
        · rename_i e; rw [e]; exact V.kinds
        · rfl
theorem vars_mR {x : Fx} {rest : Str → Option Value} {i : Nat} {t tc tt : Tok} {c k : Nat} {v : Value} {vl dn r : Addr} {on : Option Value} : Vars x (mR x rest i t c tc k v vl dn on r tt) := ⟨rfl, rfl, rfl, rfl⟩
def J4 (P : Params) (x : Fx) (L : Addr) (i : Nat) (m : Str → Option Value) (nx : List (Addr × Obj)) : Prop :=
  ∃ es oc nH rest, nx = (L + 1, oc) :: (x.H, heldO es nH) :: (x.R, W.listOf x.ws.toArray 0) :: (x.Ki, kindsO) :: (x.S, shapesO x) :: rest ∧ es.length ≤ i ∧ Led P x L es oc nH rest ∧ Vars x m
end Mine
end

-- part W40
section
open PySem PySem.W PySem.Calls PyProof.Rows Builtin Builtin.ObjectAttr
namespace Mine
section
variable {w : World} {E : Value → Shared → Prop} {s : Shared} {h₀ : Heap} {L fa : Addr} {cd : Value} {mg mb : Str → Option Value} {p : Program} {loose : List Str} {mean : ExcName → Option Value} {Q : Flow → Shared → Prop} {x : Fx} {rest : Str → Option Value} {news : List (Addr × Obj)} {i : Nat} {t tc tt : Tok} {c k : Nat} {v : Value} {vl dn r o : Addr} {on : Option Value} {oc : Obj} {ocv : Option Value} {hv : List Value} {nH : Nat}
theorem blockD (B : Below callerA h₀ [] h₀) (X₀ : (hd.heap_39 w.params).In h₀) (T : Top p loose mean mg mb h₀) (hk8 : k < 8)
    (F : Fr h₀ L s.heap (mG x rest i t c tc k v vl dn on r)) (N : News h₀ L s.heap ((L + 1, oc) :: (x.Nm k, nmO x k) :: news)) (hoc : oc.data = .cell ocv) (hne : ∀ p ∈ news, p.1 ≠ L + 1) (hne2 : x.Nm k ≠ L + 1)
    (h : BackD w h₀ L fa cd E s Q x rest i t tc c k v vl dn r on news) :
    wpC (model prg4 w) (callerA.deeper (env4 w.params L fa cd)) (execs ((lawFor (hd.heap_39 w.params)).drop 7) (env4 w.params L fa cd)) Q E s := by
  have hk' : k = 0 ∨ k = 1 ∨ k = 2 ∨ k = 3 ∨ k = 4 ∨ k = 5 ∨ k = 6 ∨ k = 7 := by omega
  by_cases hc : c = 7
  · subst hc
    rcases hk' with rfl | rfl | rfl | rfl | rfl | rfl | rfl | rfl
    · exact @blockD_0s w E s h₀ L fa cd mg mb p loose mean Q x rest news i t tc v vl dn r on oc ocv B X₀ T F N hoc hne hne2 h
    · exact @blockD_1s w E s h₀ L fa cd mg mb p loose mean Q x rest news i t tc v vl dn r on oc ocv B X₀ T F N hoc hne hne2 h
    · exact @blockD_2s w E s h₀ L fa cd mg mb p loose mean Q x rest news i t tc v vl dn r on oc ocv B X₀ T F N hoc hne hne2 h
    · exact @blockD_3s w E s h₀ L fa cd mg mb p loose mean Q x rest news i t tc v vl dn r on oc ocv B X₀ T F N hoc hne hne2 h
    · exact @blockD_4s w E s h₀ L fa cd mg mb p loose mean Q x rest news i t tc v vl dn r on oc ocv B X₀ T F N hoc hne hne2 h
    · exact @blockD_5s w E s h₀ L fa cd mg mb p loose mean Q x rest news i t tc v vl dn r on oc ocv B X₀ T F N hoc hne hne2 h
    · exact @blockD_6s w E s h₀ L fa cd mg mb p loose mean Q x rest news i t tc v vl dn r on oc ocv B X₀ T F N hoc hne hne2 h
    · exact @blockD_7s w E s h₀ L fa cd mg mb p loose mean Q x rest news i t tc v vl dn r on oc ocv B X₀ T F N hoc hne hne2 h
  · rcases hk' with rfl | rfl | rfl | rfl | rfl | rfl | rfl | rfl
    · exact @blockD_0o w E s h₀ L fa cd mg mb p loose mean Q x rest news i t tc c v vl dn r on oc ocv B X₀ T hc F N hoc hne hne2 h
    · exact @blockD_1o w E s h₀ L fa cd mg mb p loose mean Q x rest news i t tc c v vl dn r on oc ocv B X₀ T hc F N hoc hne hne2 h
    · exact @blockD_2o w E s h₀ L fa cd mg mb p loose mean Q x rest news i t tc c v vl dn r on oc ocv B X₀ T hc F N hoc hne hne2 h
    · exact @blockD_3o w E s h₀ L fa cd mg mb p loose mean Q x rest news i t tc c v vl dn r on oc ocv B X₀ T hc F N hoc hne hne2 h
    · exact @blockD_4o w E s h₀ L fa cd mg mb p loose mean Q x rest news i t tc c v vl dn r on oc ocv B X₀ T hc F N hoc hne hne2 h
    · exact @blockD_5o w E s h₀ L fa cd mg mb p loose mean Q x rest news i t tc c v vl dn r on oc ocv B X₀ T hc F N hoc hne hne2 h
    · exact @blockD_6o w E s h₀ L fa cd mg mb p loose mean Q x rest news i t tc c v vl dn r on oc ocv B X₀ T hc F N hoc hne hne2 h
    · exact @blockD_7o w E s h₀ L fa cd mg mb p loose mean Q x rest news i t tc c v vl dn r on oc ocv B X₀ T hc F N hoc hne hne2 h
theorem right_few (hr : rightAt c k = true) : k = 0 ∨ k = 1 ∨ k = 2 ∨ k = 3 := by
  unfold rightAt at hr
  split at hr
  · simp at hr; omega
  · simp at hr; omega
theorem blockE1 (B : Below callerA h₀ [] h₀) (X₀ : (hd.heap_39 w.params).In h₀) (T : Top p loose mean mg mb h₀) (hr : rightAt c k = true)
    (F : Fr h₀ L s.heap (mR x rest i t c tc k v vl dn on r tt)) (N : News h₀ L s.heap ((r, lstO [.ref o]) :: (x.H, W.listOf hv.toArray nH) :: news)) (hrH : x.H < r) (hne : ∀ p ∈ news, p.1 ≠ x.H) (hlen : hv.length ≤ 64)
    (h : ∀ q h' tk, Fr h₀ L h' (mR x rest i t c tc k v vl dn on r tt) → News h₀ L h' ((q, tupOf [.ref o, .int (c : Int) tc, valAt k v, .bool (k == 0)]) :: (x.H, W.listOf (hv ++ [Value.ref q]).toArray (nH + 1)) :: news) → (∀ p ∈ news, p.1 < q) → x.H < q → r < q → Q .next { s with heap := h', toks := tk }) :
    wpC (model prg4 w) (callerA.deeper (env4 w.params L fa cd)) (execs ((lawFor (hd.heap_39 w.params)).drop 11) (env4 w.params L fa cd)) Q E s := by
  rcases right_few hr with rfl | rfl | rfl | rfl

  · exact @blockE1_0 w E s h₀ L fa cd mg mb p loose mean Q x rest news i t tc tt c v vl dn r o on hv nH B X₀ T hr F N hrH hne hlen h
  · exact @blockE1_1 w E s h₀ L fa cd mg mb p loose mean Q x rest news i t tc tt c v vl dn r o on hv nH B X₀ T hr F N hrH hne hlen h
  · exact @blockE1_2 w E s h₀ L fa cd mg mb p loose mean Q x rest news i t tc tt c v vl dn r o on hv nH B X₀ T hr F N hrH hne hlen h
  · exact @blockE1_3 w E s h₀ L fa cd mg mb p loose mean Q x rest news i t tc tt c v vl dn r o on hv nH B X₀ T hr F N hrH hne hlen h
end
section
variable {w : World} {s : Shared} {h₀ : Heap} {L fa : Addr} {cd : Value} {mg mb : Str → Option Value} {p : Program} {loose : List Str} {mean : ExcName → Option Value} {Q : Flow → Shared → Prop} {x : Fx} {ns : List Int} {i : Nat} {t : Tok} {m : Str → Option Value} {nx own : List (Addr × Obj)}
theorem cons_off {d : Addr} {a : Addr} {o : Obj} {l : List (Addr × Obj)} (h : a ≠ d) (hl : ∀ p ∈ l, p.1 ≠ d) : ∀ p ∈ (a, o) :: l, p.1 ≠ d := List.forall_mem_cons.mpr ⟨h, hl⟩
theorem app_off {d : Addr} {l l' : List (Addr × Obj)} (h : ∀ p ∈ l, p.1 ≠ d) (hl : ∀ p ∈ l', p.1 ≠ d) : ∀ p ∈ l ++ l', p.1 ≠ d := fun p hp => (List.mem_append.mp hp).elim (h p) (hl p)
set_option maxHeartbeats 4000000 in
theorem turn04 (B : Below callerA h₀ [] h₀) (X₀ : (hd.heap_39 w.params).In h₀) (T : Top p loose mean mg mb h₀) (hI : IntsAre x.ws ns) (hn : ns.length ≤ 64) (hi : i < ns.length) (ap : Apart x L)
    (off : TbOff own nx) (hJ : J4 w.params x L i m nx) (F : Fr h₀ L s.heap (fun y => if y = PySem.Str.ofString "at" then some (.int (i : Int) t) else m y)) (N : News h₀ L s.heap (nx ++ own)) :
    wpC (model prg4 w) (callerA.deeper (env4 w.params L fa cd)) (execs (lawFor (hd.heap_39 w.params)) (env4 w.params L fa cd)) (TbPost h₀ L (J4 w.params x L (i + 1)) own s Q) (fun _ _ => False) s := by
  obtain ⟨es, oc, nH, rest, rfl, hlen, led, vars⟩ := hJ
  obtain ⟨ocv, hocv⟩ := led.cell
  rw [vars.eq] at F
  have N0 : News h₀ L s.heap ((L + 1, oc) :: (x.H, heldO es nH) :: (x.R, W.listOf x.ws.toArray 0) :: (x.Ki, kindsO) :: (x.S, shapesO x) :: (rest ++ own)) := N
  have offO : ∀ q ∈ (L + 1, oc) :: (x.H, heldO es nH) :: (x.R, W.listOf x.ws.toArray 0) :: (x.Ki, kindsO) :: (x.S, shapesO x) :: rest, ∀ p ∈ own, p.1 ≠ q.1 := fun q hq p hp => off p hp q hq
  have hTC : ∀ p ∈ rest ++ own, p.1 ≠ L + 1 := app_off led.offC (offO (L + 1, oc) (.head _))
  have hTH : ∀ p ∈ rest ++ own, p.1 ≠ x.H := app_off led.offH (offO (x.H, heldO es nH) (.tail _ (.head _)))
  rw [← ap.ca] at N0
  refine blockA B X₀ T F N0 hI hi hn (fun k hk => ⟨List.mem_append.mpr (.inl (led.shp k hk).1), List.mem_append.mpr (.inl (led.shp k hk).2)⟩) fun c k tc v nl h1 tk1 hc8 hk8 hv F1 N1 l1 => ?_
  rw [ap.ca] at N1 l1
  have hnm : (x.Nm k, nmO x k) ∈ rest ++ own := List.mem_append.mpr (.inl (led.shp k hk8).2)
  have mC : ((L + 1, oc) : Addr × Obj) ∈ (L + 1, oc) :: (x.H, heldO es nH) :: (x.R, W.listOf x.ws.toArray 0) :: (x.Ki, kindsO) :: (x.S, shapesO x) :: (rest ++ own) := .head _
  have mH : ((x.H, heldO es nH) : Addr × Obj) ∈ (L + 1, oc) :: (x.H, heldO es nH) :: (x.R, W.listOf x.ws.toArray 0) :: (x.Ki, kindsO) :: (x.S, shapesO x) :: (rest ++ own) := .tail _ (.head _)
  have mOwn : ∀ p ∈ own, p ∈ (L + 1, oc) :: (x.H, heldO es nH) :: (x.R, W.listOf x.ws.toArray 0) :: (x.Ki, kindsO) :: (x.S, shapesO x) :: (rest ++ own) := fun p hp => .tail _ (.tail _ (.tail _ (.tail _ (.tail _ (List.mem_append.mpr (.inr hp))))))
  refine blockB B X₀ T hk8 F1 N1 (List.mem_append.mpr (.inr (.tail _ (.tail _ (.tail _ (.tail _ (.tail _ hnm))))))) fun on vl dn es' nn h2 tk2 hkw hdm F2 N2 l2 l3 => ?_
  have inL : ∀ q ∈ (L + 1, oc) :: (x.H, heldO es nH) :: (x.R, W.listOf x.ws.toArray 0) :: (x.Ki, kindsO) :: (x.S, shapesO x) :: (rest ++ own), q ∈ nl ++ ((L + 1, oc) :: (x.H, heldO es nH) :: (x.R, W.listOf x.ws.toArray 0) :: (x.Ki, kindsO) :: (x.S, shapesO x) :: (rest ++ own)) := fun q hq => List.mem_append.mpr (.inr hq)
  have nlC : ∀ q ∈ nl, q.1 ≠ L + 1 := fun q hq => Nat.ne_of_gt (l1 q hq _ mC)
  have nlH : ∀ q ∈ nl, q.1 ≠ x.H := fun q hq => Nat.ne_of_gt (l1 q hq _ mH)
  have vC : vl ≠ L + 1 := Nat.ne_of_gt (l2 _ (inL _ mC))
  have dC : dn ≠ L + 1 := Nat.ne_of_gt (Nat.lt_trans (l2 _ (inL _ mC)) l3)
  refine blockC B X₀ T hc8 hk8 F2 N2 (.tail _ (.tail _ (inL _ (.tail _ (.tail _ (.tail _ (.head _))))))) (.tail _ (.head _)) (.head _) hkw hdm (fun hr r h3 tk3 F3 N3 => ?_) (fun hr r o dx tu h3 t1 t2 tk3 F3 N3 l4 l5 l6 l7 => ?_)
  · have rC : r ≠ L + 1 := by
      intro e
      have z1 := (N3 _ (.head _)).1
      have z2 := (N3 _ (.tail _ (.tail _ (.tail _ (inL _ mC))))).1
      dsimp only at z1 z2
      rw [e, z2] at z1
      have z3 := Option.some.inj z1
      rw [z3] at hocv
      exact Data.noConfusion hocv
    refine blockD B X₀ T hk8 F3 (fun p hp => N3 p (i1 hnm hp)) hocv (cons_off rC (cons_off dC (cons_off vC (cons_off ap.H (cons_off ap.R (cons_off ap.Ki (cons_off ap.S (app_off nlC hTC)))))))) (hTC _ hnm) fun tt m' oc' ocv' h4 tk4 hm' F4 N4 ho' => ?_
    subst hm'
    refine blockE0 B X₀ T hr F4 (fun p hp => N4 p (i2 hp)) fun h5 tk5 F5 N5 => ?_
    refine ⟨h5, tk5, _, _, (L + 1, oc') :: (x.H, heldO es nH) :: (x.R, W.listOf x.ws.toArray 0) :: (x.Ki, kindsO) :: (x.S, shapesO x) :: rest, rfl, F5, N5, fun p hp => i7 hp, fun p hp => i8 hp, ?_, es, oc', nH, rest, rfl, Nat.le_succ_of_le hlen, ⟨⟨ocv', ho'⟩, led.held, led.shp, led.offC, led.offH⟩, vars_mR⟩
    intro p hp q hq
    rcases List.mem_cons.mp hq with rfl | hq
    · exact offO (L + 1, oc) (.head _) p hp
    · exact offO q (.tail _ hq) p hp
  · have gt : ∀ q ∈ (L + 1, oc) :: (x.H, heldO es nH) :: (x.R, W.listOf x.ws.toArray 0) :: (x.Ki, kindsO) :: (x.S, shapesO x) :: (rest ++ own), q.1 < tu ∧ q.1 < o := fun q hq => l4 q (.tail _ (.tail _ (inL q hq)))
    have tC := (gt _ mC).1
    have oC := (gt _ mC).2
    have tH := (gt _ mH).1
    have oH := (gt _ mH).2
    have xC := Nat.lt_trans tC l5
    have xH := Nat.lt_trans tH l5
    have rH := Nat.lt_trans xH l7
    refine blockD B X₀ T hk8 F3 (fun p hp => N3 p (i3 hnm hp)) hocv (cons_off (Nat.ne_of_gt (Nat.lt_trans xC l7)) (cons_off (Nat.ne_of_gt xC) (cons_off (Nat.ne_of_gt tC) (cons_off (Nat.ne_of_gt oC) (cons_off dC (cons_off vC (cons_off ap.H (cons_off ap.R (cons_off ap.Ki (cons_off ap.S (app_off nlC hTC))))))))))) (hTC _ hnm) fun tt m' oc' ocv' h4 tk4 hm' F4 N4 ho' => ?_
    subst hm'
    refine blockE1 (hv := es.map fun e => Value.ref e.q) B X₀ T hr F4 (fun p hp => N4 p (i4 hp)) rH (cons_off (Ne.symm ap.H) (cons_off ap.RH (cons_off ap.KH (cons_off ap.SH (cons_off (Nat.ne_of_gt xH) (cons_off (Nat.ne_of_gt tH) (cons_off (Nat.ne_of_gt oH) (app_off nlH hTH)))))))) (by rw [List.length_map]; omega) fun q h5 tk5 F5 N5 l8 l9 l10 => ?_
    obtain ⟨nl', hnl', hv'⟩ : ∃ nl', (∀ z ∈ nl', z ∈ nl) ∧ ValL (valAt k v) nl' := by
      by_cases h3 : k = 3
      · refine ⟨[], (fun _ hz => nomatch hz), ?_⟩
        unfold valAt; rw [if_pos h3]; exact .none
      · refine ⟨nl, (fun _ hz => hz), ?_⟩
        unfold valAt; rw [if_neg h3]; exact hv
    have hts : tsOf (valAt k v) (vsAt k v) = tsOf (valAt k v) (if (k == 0) = true then [valAt k v] else []) := by
      rcases right_few hr with rfl | rfl | rfl | rfl <;> rfl
    let e : Hd := ⟨o, dx, tu, q, c, k == 0, valAt k v, nl', t1, t2, tc⟩
    have efam : e.fam w.params = (q, tupOf [.ref o, .int (c : Int) tc, valAt k v, .bool (k == 0)]) :: (dx, dictAt w.params c (valAt k v) t1 t2) :: (tu, tupOf (tsOf (valAt k v) (vsAt k v))) :: (o, excOf (clsAt c) dx tu) :: nl' := by
      show (_ :: _ :: (tu, tupOf (tsOf (valAt k v) (if (k == 0) = true then [valAt k v] else []))) :: _ :: _) = _
      rw [← hts]
    have famC : ∀ p ∈ e.fam w.params, p.1 ≠ L + 1 := by
      rw [efam]
      exact cons_off (Nat.ne_of_gt (l8 (L + 1, oc') (.head _))) (cons_off (Nat.ne_of_gt xC) (cons_off (Nat.ne_of_gt tC) (cons_off (Nat.ne_of_gt oC) fun z hz => nlC z (hnl' z hz))))
    have famH : ∀ p ∈ e.fam w.params, p.1 ≠ x.H := by
      rw [efam]
      exact cons_off (Nat.ne_of_gt l9) (cons_off (Nat.ne_of_gt xH) (cons_off (Nat.ne_of_gt tH) (cons_off (Nat.ne_of_gt oH) fun z hz => nlH z (hnl' z hz))))
    refine ⟨h5, tk5, _, _, (L + 1, oc') :: (x.H, heldO (es ++ [e]) (nH + 1)) :: (x.R, W.listOf x.ws.toArray 0) :: (x.Ki, kindsO) :: (x.S, shapesO x) :: (e.fam w.params ++ rest), rfl, F5, N5, ?sub, fun p hp => i6 hp, ?offs, es ++ [e], oc', nH + 1, e.fam w.params ++ rest, rfl, by rw [List.length_append]; show es.length + 1 ≤ i + 1; omega, ⟨⟨ocv', ho'⟩, ?held, fun k hk => ⟨List.mem_append.mpr (.inr (led.shp k hk).1), List.mem_append.mpr (.inr (led.shp k hk).2)⟩, app_off famC led.offC, app_off famH led.offH⟩, vars_mR⟩
    case sub =>
      intro p hp
      rw [efam] at hp
      have : heldO (es ++ [e]) (nH + 1) = W.listOf ((es.map fun e => Value.ref e.q) ++ [Value.ref q]).toArray (nH + 1) := by
        show W.listOf ((es ++ [e]).map fun e => Value.ref e.q).toArray (nH + 1) = _
        rw [List.map_append]; rfl
      rw [this] at hp
      exact i5 hnl' hp
    case held =>
      intro e' he'
      rcases List.mem_append.mp he' with he' | he'
      · exact ⟨(led.held e' he').1, fun p hp => List.mem_append.mpr (.inr ((led.held e' he').2 p hp))⟩
      · rw [List.mem_singleton.mp he']
        exact ⟨⟨hc8, hv'⟩, fun p hp => List.mem_append.mpr (.inl hp)⟩
    case offs =>
      intro p hp z hz
      have hpl := mOwn p hp
      rcases List.mem_cons.mp hz with rfl | hz
      · exact offO (L + 1, oc) (.head _) p hp
      rcases List.mem_cons.mp hz with rfl | hz
      · exact offO (x.H, heldO es nH) (.tail _ (.head _)) p hp
      rcases List.mem_cons.mp hz with rfl | hz
      · exact offO _ (.tail _ (.tail _ (.head _))) p hp
      rcases List.mem_cons.mp hz with rfl | hz
      · exact offO _ (.tail _ (.tail _ (.tail _ (.head _)))) p hp
      rcases List.mem_cons.mp hz with rfl | hz
      · exact offO _ (.tail _ (.tail _ (.tail _ (.tail _ (.head _))))) p hp
      rcases List.mem_append.mp hz with hz | hz
      · rw [efam] at hz
        rcases List.mem_cons.mp hz with rfl | hz
        · exact Nat.ne_of_lt (l8 p (.tail _ (.tail _ (.tail _ (.tail _ (.tail _ (.tail _ (.tail _ (List.mem_append.mpr (.inr (List.mem_append.mpr (.inr hp)))))))))))) 
        rcases List.mem_cons.mp hz with rfl | hz
        · exact Nat.ne_of_lt (Nat.lt_trans (gt p hpl).1 l5)
        rcases List.mem_cons.mp hz with rfl | hz
        · exact Nat.ne_of_lt (gt p hpl).1
        rcases List.mem_cons.mp hz with rfl | hz
        · exact Nat.ne_of_lt (gt p hpl).2
        · exact Nat.ne_of_lt (l1 z (hnl' z hz) p hpl)
      · exact offO z (.tail _ (.tail _ (.tail _ (.tail _ (.tail _ hz))))) p hp
end
end Mine
end

-- part W41
section
open PySem PySem.W PySem.Calls PyProof.Rows Builtin Builtin.ObjectAttr
namespace Mine
section
variable {prog : Program} {w : World} {A : Around} {E : Value → Shared → Prop} {s : Shared} {Q : Value → Shared → Prop}
theorem slot_type_ne : Slot "type" (cmpInfo .NotEq).2.1 "object.__ne__" :=
  .of (owner := "object") (n := "__ne__") (by rw [typeLookup_type, builtinLookup_eq_fast]; kernel_rfl) (by decide +kernel) (by decide +kernel) (by decide +kernel)
    (by first | exact .inl (by decide +kernel) | exact .inr (by decide +kernel)) (by rw [isSubtype_type]; kernel_rfl)
theorem ne_type_same {X : String} (hX : ∀ s' : Shared, s'.TypeIs (.type X) "type") (h : Q (.bool false) s) : wpAny (model prog w) A (compareOp .NotEq (.type X) (.type X)) Q E s := by
  show wpAny _ A (richCompare .NotEq _ _) Q E s
  refine wpAny_richCompare_same (T := "type") (hX s) (hX s) slot_type_ne (wpAny_call_entry slot_type_ne (hX s) F.cmpEntry_ne ?_ (F.args_object_ne_2 _ _))
  unfold Builtin.«object.__ne__»
  refine wpAny_bind (wpAny_of_eq (a := (Value.type X, [Value.type X])) rfl ?_)
  dsimp only
  refine wpAny_bind (wpAny_cRoomFor_or (.inl rfl) ?_)
  refine wpAny_bind (wpAny_callSpecialIfBound?_slot (hX s) TypeEq.slot_type_eq (call_gives TypeEq.slot_type_eq (hX s) F.entry_object_eq (F.args_object_eq_2 _ _) (TypeEq.object_eq_same rfl (by simp)) ?_))
  refine wpAny_bind (wpAny_truthy_bool (wpAny_pure ⟨_, rfl, (by intro e; cases e), h⟩))
theorem ne_int_same {i : Int} {t u : Tok} (h : Q (.bool false) s) : wpAny (model prog w) A (compareOp .NotEq (.int i t) (.int i u)) Q E s := by
  refine ne_int ?_
  simpa using h
theorem ne_str_same {x : Str} {t u : Tok} (h : Q (.bool false) s) : wpAny (model prog w) A (compareOp .NotEq (.str x t) (.str x u)) Q E s := by
  refine ne_str ?_
  simpa using h
end
end Mine
end

-- part W43
section
open PySem PySem.W PySem.Calls PyProof.Rows Builtin Builtin.ObjectAttr Builtin.Str
namespace Mine
theorem bstr_slot : Slot "BaseException" "__str__" "BaseException.__str__" := .of (owner := "BaseException") (n := "__str__") (by rw [typeLookup_type, builtinLookup_eq_fast]; kernel_rfl) (by decide +kernel) (by decide +kernel) (by decide +kernel)
    (by first | exact .inl (by decide +kernel) | exact .inr (by decide +kernel)) (by rw [isSubtype_type]; kernel_rfl)
theorem bstr_kind : builtinKind "BaseException.__str__" = some .slot := by decide +kernel
theorem bstr_split : splitId "BaseException.__str__" = some ("BaseException", "__str__") := by decide +kernel
section
variable {prog : Program} {w : World} {A : Around} {E : Value → Shared → Prop} {s : Shared} {K : Frag} {x C tu dx : Addr} {od : Option Obj} {Q : Value → Shared → Prop}
/-- str() of an own exception without a __str__ of its own -/
theorem str_exc (hu : A.in1.in1.units < cLine) (X : K.In s.heap) (I : InstAt s.heap x (excOf C dx tu) C od) (hs : findIn K (.ref C) "__str__" = some (some (.builtin "BaseException.__str__"))) (sub : mroIn K C (.type "BaseException") = some true)
    (h : wpAny (model prog w) A.in1.in1.in1 (Builtin.«BaseException.__str__» ⟨[.ref x], []⟩) (fun fin s' => ∃ y u, fin = .done (.ret (.str y u)) ∧ Q (.str y u) s') E s) : wpAny (model prog w) A (call (.type "str") [.ref x]) Q E s := by
  refine callType_codes (T := "str") (Bi := Builtin.«object.__init__») (Q₁ := fun r s₁ => ∃ y u, r = .str y u ∧ Q r s₁) PySem.F.called_str (PySem.F.typeCall_str_1 _) PySem.F.entry_object_init ?_ ?_
  · refine codeAny_of_tree ?_
    show wpAny _ A.in1.in1 (do checkBuiltinCall "str.__new__" ⟨[.type "str", .ref x], []⟩; again (.builtin "str.__new__" ⟨[.type "str", .ref x], []⟩)) _ _ s
    refine wpAny_bind (wpAny_of_eq (PySem.F.newCall_str_1 _) (wpAny_pure ⟨plainId_quiet (by decide +kernel) _, codeAny_builtin PySem.F.entry_str_new ?_⟩))
    rw [Around.under_plainId (by decide +kernel) _]
    rw [str_new_tree]
    refine wpAny_bind (wpAny_pure ?_)
    refine wpAny_bind (wpAny_of_eq isSubtype_str_str ?_)
    have so : wpAny (model prog w) A.in1.in1 (PySem.Builtin.Str.strOf (.ref x)) (fun r s₁ => ∃ y u, r = .str y u ∧ Q r s₁) E s := by
      unfold PySem.Builtin.Str.strOf
      rw [show isExactStr (.ref x) = false from rfl]
      refine wpAny_bind (m := cRoomFor _ _) (wpAny_cRoomFor hu ?_)
      have L3 : Looks (model prog w) s.heap (isInstance (.ref x) (.type "BaseException")) true := I.type.andThen (looks_mroIn X sub)
      have cl : wpAny (model prog w) A.in1.in1 (call (.builtin "BaseException.__str__") [.ref x]) (fun v s' => ∃ y u, v = .str y u ∧ Q v s') E s := by
        refine wpAny_call (codeAny_call_builtin bstr_slot.plain PySem.F.entry_bexc_str (@check_slot (model prog w) _ _ _ "BaseException.__str__" "BaseException" "__str__" (.ref x) [] [] _ bstr_kind bstr_split L3 (PySem.F.args_bexc_str _) ?_))
        refine wpAny_mono h (fun fin s' z => ?_) fun _ _ e => e
        obtain ⟨y, u, rfl, z⟩ := z
        exact ⟨y, u, rfl, z⟩
      refine wpAny_bind (m := callSpecial? (.ref x) (Str.ofString "__str__")) ?_
      refine wpAny_bind (wpAny_bind (I.type.here ((looks_findIn X hs).here (wpAny_holding (wpAny_bind (wpAny_of_eq (bstr_slot.bind _) (wpAny_bind (wpAny_mono cl (fun v s' z => wpAny_pure ?_) fun _ _ z => z))))))))
      obtain ⟨y, u, rfl, z⟩ := z
      exact wpAny_pure ⟨y, u, rfl, z⟩
    exact wpAny_bind (wpAny_mono so (fun r s₁ hr => wpAny_pure hr) fun _ _ y => y)
  · rintro obj s₁ ⟨y, u, rfl, hq⟩
    exact ⟨typeIs_str _ _ _, PySem.F.args_object_init_2 _ _, object_init_meets PySem.F.called_str.init.lookup PySem.F.called_str.made (by decide) prog w A.in1 _ s₁ ⟨typeIs_str _ _ _, rfl, hq⟩⟩
end
end Mine
end

-- part W44
section
open PySem PySem.W PySem.Calls PyProof.Rows Builtin Builtin.ObjectAttr Builtin.Str Builtin.BaseException
namespace Mine
section
variable {prog : Program} {w : World} {A : Around} {E : Value → Shared → Prop} {s : Shared} {x C tu dx : Addr}
theorem bexc_args {items : List Value} {Q : Value × List Value → Shared → Prop} (hx : s.heap.get? x = some (excOf C dx tu)) (ht : s.heap.get? tu = some (tupOf items)) (hq : Q (.ref tu, items) s) : wpAny (model prog w) A (bexcArgs (.ref x)) Q E s := by
  unfold bexcArgs
  refine wpAny_bind (wpAny_field hx rfl (x := .ref tu) rfl ?_)
  refine wpAny_bind (seqItems_tuple ht rfl ?_)
  refine wpAny_pure ?_
  simpa using hq
theorem isInst_str {y : Str} {u : Tok} : isInstance (.str y u) (.type "str") = pure true := by
  first | rfl | kernel_rfl
theorem bexcText_gives {T idr : String} {B : Builtin} {v : Value} {y : Str} {Q : Value → Shared → Prop} (hv : ∀ y t, v ≠ .str y t) (hT : s.TypeIs v T) (slotStr : Slot T "__str__" "object.__str__")
    (slotRepr : Slot T "__repr__" idr) (entry : entryFor table idr = some B) (args : argsOk idr ⟨[v], []⟩) (g : Gives (B ⟨[v], []⟩) (.str y))
    (h : Q (.str y s.toks) { s with toks := s.toks + 1 }) (hh : [v].any Value.onHeap = false) (hsz : y.length ≤ sizeLine) :
    wpAny (model prog w) A (bexcText "__str__" v) Q E s := by
  have key : wpAny (model prog w) A (do
      cRoomFor "str" [v]
      match ← callSpecial? v (Str.ofString "__str__") with
      | some r => if ← isInstance r (.type "str") then return r else raiseError "TypeError" s!"{"__str__"} returned non-string (type {← typeNameOf r})"
      | none => unsupported s!"internal:no-{"__str__"}") Q E s := by
    simp only [cRoomFor, hh, Bool.false_eq_true, if_false, pure_bind]
    refine wpAny_bind (m := callSpecial? v (Str.ofString "__str__")) (wpAny_callSpecial?_slot (name := Str.ofString "__str__") hT slotStr (call_object_str_gives hT slotStr slotRepr entry args g ?_ hh hsz))
    exact wpAny_bind (wpAny_of_eq isInst_str (wpAny_pure h))
  unfold bexcText
  cases v <;> first | exact key | exact absurd rfl (hv _ _)
theorem bexcText_reads {h₀ : Heap} {a : Addr} {d : PyData} {as : List Addr} {Q : Value → Shared → Prop} (r : Reads h₀ (.ref a) d as) (hs : d.showable = true) (hsm : d.hasDict = true → sysModules ∉ as) (hg : A.guards = some []) (hu : A.units + (d.depth + 1) < cLine) (hk0 : ∀ b o, h₀.get? b = some o → s.heap.get? b = some o)
    (hQ : ∀ h' u tk, (∀ b o, s.heap.get? b = some o → h'.get? b = some o) → Q (.str d.shown u) { s with heap := h', toks := tk }) (hsz : d.shown.length ≤ sizeLine) : wpAny (model prog w) A (bexcText "__str__" (.ref a)) Q E s := by
  obtain ⟨T, idr, S⟩ := showsBy_of_reads (prog := prog) (w := w) r hs hsm hsz
  show wpAny (model prog w) A (do
      cRoomFor "str" [.ref a]
      match ← callSpecial? (.ref a) (Str.ofString "__str__") with
      | some r => if ← isInstance r (.type "str") then return r else raiseError "TypeError" s!"{"__str__"} returned non-string (type {← typeNameOf r})"
      | none => unsupported s!"internal:no-{"__str__"}") Q E s
  refine wpAny_bind (m := cRoomFor _ _) (wpAny_cRoomFor (by omega) ?_)
  refine wpAny_bind (m := callSpecial? (.ref a) (Str.ofString "__str__")) (wpAny_callSpecial?_slot (name := Str.ofString "__str__") (S.typeIs s hk0) S.slotStr
    (call_object_str_slot (by omega) (S.typeIs s hk0) S.slotStr S.slotRepr (S.call A.in1 E s _ hg (by show A.units + 1 + d.depth < cLine; omega) hk0 fun h' u tk hk => ?_)))
  exact wpAny_bind (wpAny_of_eq isInst_str (wpAny_pure (hQ h' u tk hk)))
theorem bstr_none {Q : Fin → Shared → Prop} (hx : s.heap.get? x = some (excOf C dx tu)) (ht : s.heap.get? tu = some (tupOf [])) (hq : Q (.done (.ret (.str Str.empty s.toks))) { s with toks := s.toks + 1 }) :
    wpAny (model prog w) A (Builtin.«BaseException.__str__» ⟨[.ref x], []⟩) Q E s := by
  unfold Builtin.«BaseException.__str__»
  repeat (first | with_reducible refine bexc_args hx ht ?_ | wp_step)
  exact hq
theorem bstr_str {y : Str} {u : Tok} {Q : Fin → Shared → Prop} (hx : s.heap.get? x = some (excOf C dx tu)) (ht : s.heap.get? tu = some (tupOf [.str y u])) (hq : Q (.done (.ret (.str y u))) s) :
    wpAny (model prog w) A (Builtin.«BaseException.__str__» ⟨[.ref x], []⟩) Q E s := by
  unfold Builtin.«BaseException.__str__»
  repeat (first | with_reducible refine bexc_args hx ht ?_ | wp_step)
  exact hq
theorem bstr_one {v : Value} {Q : Fin → Shared → Prop} (hx : s.heap.get? x = some (excOf C dx tu)) (ht : s.heap.get? tu = some (tupOf [v])) (hq : wpAny (model prog w) A (bexcText "__str__" v) (fun r s' => Q (.done (.ret r)) s') E s) :
    wpAny (model prog w) A (Builtin.«BaseException.__str__» ⟨[.ref x], []⟩) Q E s := by
  unfold Builtin.«BaseException.__str__»
  refine wpAny_bind (wpAny_of_eq (a := (Value.ref x, [])) rfl ?_)
  refine wpAny_bind (bexc_args hx ht ?_)
  refine wpAny_bind (wpAny_rule ?_)
  exact wpAny_bind (wpAny_mono hq (fun r s' z => wpAny_pure z) fun _ _ e => e)
end
section
variable {prog : Program} {w : World} {A : Around} {E : Value → Shared → Prop} {s : Shared} {K : Frag} {x C tu dx : Addr} {Q : Value → Shared → Prop} {h₀ : Heap} {L : Addr} {m : Str → Option Value} {news : List (Addr × Obj)} {od : Obj}
theorem strX_empty (hu : A.in1.in1.units < cLine) (F : Fr h₀ L s.heap m) (X₀ : K.In h₀) (N : News h₀ L s.heap news) (hx : (x, excOf C dx tu) ∈ news) (hdx : (dx, od) ∈ news) (htu : (tu, tupOf []) ∈ news) (hs : findIn K (.ref C) "__str__" = some (some (.builtin "BaseException.__str__"))) (sub : mroIn K C (.type "BaseException") = some true)
    (h : Q (.str Str.empty s.toks) { s with toks := s.toks + 1 }) : wpAny (model prog w) A (call (.type "str") [.ref x]) Q E s :=
  str_exc hu (X₀.keeps F.keep) (inst_exc N hx hdx) hs sub (bstr_none (N _ hx).1 (N _ htu).1 ⟨_, _, rfl, h⟩)
theorem strX_str {y : Str} {u : Tok} (hu : A.in1.in1.units < cLine) (F : Fr h₀ L s.heap m) (X₀ : K.In h₀) (N : News h₀ L s.heap news) (hx : (x, excOf C dx tu) ∈ news) (hdx : (dx, od) ∈ news) (htu : (tu, tupOf [.str y u]) ∈ news) (hs : findIn K (.ref C) "__str__" = some (some (.builtin "BaseException.__str__"))) (sub : mroIn K C (.type "BaseException") = some true)
    (h : Q (.str y u) s) : wpAny (model prog w) A (call (.type "str") [.ref x]) Q E s :=
  str_exc hu (X₀.keeps F.keep) (inst_exc N hx hdx) hs sub (bstr_str (N _ hx).1 (N _ htu).1 ⟨_, _, rfl, h⟩)
theorem strX_int {i : Int} {u : Tok} (ha : i.natAbs.log2 < 1920) (hu : A.in1.in1.units < cLine) (F : Fr h₀ L s.heap m) (X₀ : K.In h₀) (N : News h₀ L s.heap news) (hx : (x, excOf C dx tu) ∈ news) (hdx : (dx, od) ∈ news) (htu : (tu, tupOf [.int i u]) ∈ news) (hs : findIn K (.ref C) "__str__" = some (some (.builtin "BaseException.__str__"))) (sub : mroIn K C (.type "BaseException") = some true)
    (h : Q (.str (PySem.Str.ofString (toString i)) s.toks) { s with toks := s.toks + 1 }) : wpAny (model prog w) A (call (.type "str") [.ref x]) Q E s :=
  str_exc hu (X₀.keeps F.keep) (inst_exc N hx hdx) hs sub (bstr_one (N _ hx).1 (N _ htu).1 (bexcText_gives (fun _ _ => nofun) (typeIs_int s i u) PySem.F.slot_int_str PySem.F.slot_int_repr PySem.F.entry_int_repr (PySem.F.args_int_repr_1 _) (gives_int_repr i u ha) ⟨_, _, rfl, h⟩ rfl (int_text_fits ha)))
theorem strX_none (hu : A.in1.in1.units < cLine) (F : Fr h₀ L s.heap m) (X₀ : K.In h₀) (N : News h₀ L s.heap news) (hx : (x, excOf C dx tu) ∈ news) (hdx : (dx, od) ∈ news) (htu : (tu, tupOf [.none]) ∈ news) (hs : findIn K (.ref C) "__str__" = some (some (.builtin "BaseException.__str__"))) (sub : mroIn K C (.type "BaseException") = some true)
    (h : Q (.str (PySem.Str.ofString "None") s.toks) { s with toks := s.toks + 1 }) : wpAny (model prog w) A (call (.type "str") [.ref x]) Q E s :=
  str_exc hu (X₀.keeps F.keep) (inst_exc N hx hdx) hs sub (bstr_one (N _ hx).1 (N _ htu).1 (bexcText_gives (fun _ _ => nofun) (typeIs_none s) PySem.F.slot_NoneType_str PySem.F.slot_NoneType_repr PySem.F.entry_NoneType_repr (PySem.F.args_NoneType_repr_1 _) gives_none_repr ⟨_, _, rfl, h⟩ rfl (by decide)))
theorem reads_empty {h : Heap} {a : Addr} (ho : h.get? a = some (W.listOf #[] 0)) : ∃ as, Reads h (.ref a) (.list []) as := by
  have := reads_of_ints (h := h) (a := a) (vs := []) (ns := []) ⟨_, ho, rfl, _, rfl⟩ .nil
  exact ⟨_, this⟩
theorem strX_list {a : Addr} (hg : A.guards = some []) (hu : A.in1.in1.units < cLine) (hu2 : A.units + 10 < cLine) (F : Fr h₀ L s.heap m) (X₀ : K.In h₀) (N : News h₀ L s.heap news) (hx : (x, excOf C dx tu) ∈ news) (hdx : (dx, od) ∈ news) (htu : (tu, tupOf [.ref a]) ∈ news) (ha : (a, W.listOf #[] 0) ∈ news) (hs : findIn K (.ref C) "__str__" = some (some (.builtin "BaseException.__str__"))) (sub : mroIn K C (.type "BaseException") = some true)
    (h : ∀ h' u tk, Fr h₀ L h' m → News h₀ L h' news → Q (.str (PyData.list []).shown u) { s with heap := h', toks := tk }) : wpAny (model prog w) A (call (.type "str") [.ref x]) Q E s := by
  obtain ⟨as, R⟩ := reads_empty (N _ ha).1
  refine str_exc hu (X₀.keeps F.keep) (inst_exc N hx hdx) hs sub (bstr_one (N _ hx).1 (N _ htu).1 (bexcText_reads R rfl (fun z => nomatch z) hg (by show A.units + 1 + 1 + 1 + _ < cLine; have : (PyData.list []).depth ≤ 5 := (by decide); omega) (fun _ _ e => e) (fun h' u tk k => ⟨_, _, rfl, h h' u tk (F.keeps k) (N.grown k)⟩) (by decide)))
end
end Mine
end

-- part W45
section
open PySem PySem.W PySem.Calls PyProof.Rows Builtin Builtin.ObjectAttr
namespace Mine
section
variable {prog : Program} {w : World} {A : Around} {E : Value → Shared → Prop} {s : Shared}
theorem formatOf_none {Q : Value → Shared → Prop} (h : ∀ t' k, Q (.str (PySem.Str.ofString "None") t') { s with toks := k }) : wpAny (model prog w) A (PySem.Builtin.Str.formatOf .none PySem.Str.empty) Q E s := by
  unfold PySem.Builtin.Str.formatOf
  refine wpAny_ite (KPc.ite_no Bool.false_ne_true ?_)
  refine wpAny_bind (wpAny_mkStr ?_ (by decide))
  refine wpAny_bind (m := callSpecial? .none (PySem.Str.ofString "__format__") [.str PySem.Str.empty s.toks]) (wpAny_callSpecial?_slot (name := PySem.Str.ofString "__format__") (typeIs_none _) PySem.F.slot_NoneType_format
    (call_gives PySem.F.slot_NoneType_format (typeIs_none _) PySem.F.entry_object_format (PySem.F.args_object_format_2 _ _) (gives_none_format_empty _) ⟨by decide, ?_⟩))
  refine wpAny_bind (wpAny_of_eq (a := some (PySem.Str.ofString "None")) rfl ?_)
  refine wpAny_ite (KPc.ite_no Bool.false_ne_true ?_)
  exact wpAny_pure (h _ _)
end
section
variable {w : World} {A₀ A : Around} {E : Value → Shared → Prop} {s : Shared} {h₀ base : Heap} {L : Addr} {m mg mb : Str → Option Value} {news : List (Addr × Obj)} {p : Program} {loose : List Str} {mean : ExcName → Option Value} {env : Env} {Q : Value → Shared → Prop} {outer : List Env} {x dx tu : Addr} {t t2 : Tok} {v : Value}
local macro_rules | `(tactic| k_room) => `(tactic| ((try simp only [depth_under_make, depth_under_kw, depth_in1, depth_deeper, depth_caller]); (try simp only [recursionLimit]); omega))
local macro_rules | `(tactic| walk_at "getAttr ref") => `(tactic| (k_here; k_dflt (refine' get_excK ?k1 ?k2 ?k3 ?k4 ?k5 ?k6 ?k7 ?k8 ?k9 ?l ?v ?_; (case k1 | k2 => k_asm); (case k3 => exact inst_exc (by assumption) (by assumption) (by assumption)); (case k4 | k5 | k6 | k7 | k8 | k9 => k_is); (case l => exact rfl); (case v => assumption); k_whole)))
set_option maxHeartbeats 1000000 in
/-- NonPrintableDefect.__str__ up to the format -/
theorem str105 (B : Below A₀ base outer h₀) (F : Fr h₀ L s.heap m) (X₀ : (hd.heap_39 w.params).In h₀) (N : News h₀ L s.heap news) (T : Top p loose mean mg mb h₀)
    (hA : A.frames = some (env :: outer)) (hf : env.frame = some L) (hke : env.scope.kind = .function) (hroom : A.depth + 5 < 1000) (hu : A.units + 30 < cLine)
    (hx : (x, excOf 108 dx tu) ∈ news) (hdx : (dx, bothD w.params t t2 v) ∈ news) (hv : handedIn v = true) {y : Str} (hy : y.length ≤ 100000)
    (hfmt : ∀ {A' : Around} {E' : Value → Shared → Prop} {s' : Shared} {Q' : Value → Shared → Prop} {g : Heap} {L' : Addr} {m' : Str → Option Value}, A'.guards = A.guards → A'.units ≤ A.units + 10 → Fr g L' s'.heap m' → News g L' s'.heap news →
      (∀ h' t' k, Fr g L' h' m' → News g L' h' news → Q' (.str y t') { s' with heap := h', toks := k }) → wpAny (model prg4 w) A' (PySem.Builtin.Str.formatOf v PySem.Str.empty) Q' E' s')
    (h : ∀ h' t' k, Fr h₀ L h' m → News h₀ L h' news → Q (.str (words ++ y) t') { s with heap := h', toks := k }) :
    wpAny (model prg4 w) A (call (.type "str") [.ref x]) Q E s := by
  have : PySem.Challenge.rw_dm0089_04 = PySem.Challenge.rw_dm0089_04 ∧ hd.heap_39 = hd.heap_39 := by (k_fill; exact ⟨rfl, rfl⟩)
  clear this
  refine kso_call (f := 105) (by show A.units + 1 + 1 < cLine; omega) (X₀.keeps F.keep) (inst_exc N hx hdx) (by k_is) (by k_is) ?_
  refine wpAny_call (code_def (binds := [(PySem.Str.ofString "self", .ref x)]) B F X₀ N T hA hf hke rfl (by kernel_rfl) (by show A.depth < _; rw [show recursionLimit = 1000 from rfl]; omega) (BindsTo.of_eq rfl) (locs rfl) (fun g L' h₁ FG F1 N1 BG XG TG => ?_) rfl rfl rfl (by decide))
  clear F N
  w_strict k_steps
  rename Fr g L' _ _ => F2
  rename News g L' _ _ => N2
  refine fmt_words (hfmt ?g ?u F2 N2 fun h' t' k F3 N3 => ⟨_, _, rfl, hy, fun t8 k8 => ?_⟩)
  case g => rfl
  case u => first | (show A.units + 1 + 1 + 1 + 1 ≤ _; omega) | (simp only [units_in1, units_deeper]; omega) | (show A.units + 1 + 1 + 2 ≤ _; omega) | (show A.units + 1 + 1 + 1 + 1 + 1 ≤ _; omega) | (unfold Around.deeper Around.in1; dsimp only; omega)
  refine leaveK_ F3 N3 fun F4 N4 => ?_
  exact h _ _ _ F4 N4
end
end Mine
end

-- part W46
section
open PySem PySem.W PySem.Calls PyProof.Rows
namespace Mine
section
variable {prog : Program} {w : World} {A : Around} {E : Value → Shared → Prop} {s : Shared} {Q : Value → Shared → Prop} {h₀ : Heap} {L : Addr} {news : List (Addr × Obj)}
theorem ne_tup1 {l b : Addr} {v : Value} {ob : Obj} (hu : A.units < cLine) (N : News h₀ L s.heap news) (hl : (l, tupOf [v]) ∈ news) (hb : (b, ob) ∈ news) (hc : ob.cls = .type "tuple") (hd : ∃ n, ob.data = .seq #[v] n) (h : Q (.bool false) s) :
    wpAny (model prog w) A (compareOp .NotEq (.ref l) (.ref b)) Q E s := by
  obtain ⟨n, hd⟩ := hd
  refine cmp_ofNotEq (PySem.SeqAt.RcNeAt.tuples (items := #[v]) (items2 := #[v]) (e := fun _ => true) ⟨_, (N _ hl).1, rfl, _, rfl⟩ ⟨_, (N _ hb).1, hc, _, hd⟩ hu (fun j h1 h2 => ?_) _ _ _ _ h)
  have hj : j = 0 := by simp at h1; omega
  subst hj
  exact PySem.SeqAt.EqAt.same v
theorem ne_tup0 {l b : Addr} {ob : Obj} (hu : A.units < cLine) (N : News h₀ L s.heap news) (hl : (l, tupOf []) ∈ news) (hb : (b, ob) ∈ news) (hc : ob.cls = .type "tuple") (hd : ∃ n, ob.data = .seq #[] n) (h : Q (.bool false) s) :
    wpAny (model prog w) A (compareOp .NotEq (.ref l) (.ref b)) Q E s := by
  obtain ⟨n, hd⟩ := hd
  refine cmp_ofNotEq (PySem.SeqAt.RcNeAt.tuples (items := #[]) (items2 := #[]) (e := fun _ => true) ⟨_, (N _ hl).1, rfl, _, rfl⟩ ⟨_, (N _ hb).1, hc, _, hd⟩ hu (fun j h1 h2 => ?_) _ _ _ _ h)
  simp at h1
theorem ne_list0 {l : Addr} (hu : A.units < cLine) (N : News h₀ L s.heap news) (hl : (l, W.listOf #[] 0) ∈ news) (h : Q (.bool false) s) :
    wpAny (model prog w) A (compareOp .NotEq (.ref l) (.ref l)) Q E s := by
  refine cmp_ofNotEq (PySem.SeqAt.RcNeAt.lists (items := #[]) (items2 := #[]) (e := fun _ => true) ⟨_, (N _ hl).1, rfl, _, rfl⟩ ⟨_, (N _ hl).1, rfl, _, rfl⟩ rfl hu (fun j h1 h2 => ?_) _ _ _ _ h)
  simp at h1
end
end Mine
end

-- part W47
section
open PySem PySem.W PySem.Calls PyProof.Rows Builtin Builtin.ObjectAttr
namespace Mine
def lawFor2 (K : Frag) : List Stmt := match lawBody K with | [_, _, _, _, _, .For _ _ b _ _, _] => b | _ => []
/-- what a class gives the reads of the second loop -/
structure KinG (K : Frag) (C : Addr) : Prop where
  ga : findIn K (.ref C) "__getattribute__" = some (some (.builtin "BaseException.__getattribute__"))
  gn : findIn K (.ref C) "__getattr__" = some none
  sub : mroIn K C (.type "BaseException") = some true
  hh : hasDictIn K C = true
  line : findIn K (.ref C) "line" = some none
  args : ∀ o, findObj K C (some o) "args" = some (.bind (.builtin "getset_descriptor.__get__") (.builtin "BaseException.args"))
theorem kinG34 (P : Params) : KinG (hd.heap_39 P) 34 := ⟨by kernel_rfl, by kernel_rfl, by kernel_rfl, by kernel_rfl, by kernel_rfl, fun _ => by kernel_rfl⟩
theorem kinG56 (P : Params) : KinG (hd.heap_39 P) 56 := ⟨by kernel_rfl, by kernel_rfl, by kernel_rfl, by kernel_rfl, by kernel_rfl, fun _ => by kernel_rfl⟩
theorem kinG68 (P : Params) : KinG (hd.heap_39 P) 68 := ⟨by kernel_rfl, by kernel_rfl, by kernel_rfl, by kernel_rfl, by kernel_rfl, fun _ => by kernel_rfl⟩
theorem kinG80 (P : Params) : KinG (hd.heap_39 P) 80 := ⟨by kernel_rfl, by kernel_rfl, by kernel_rfl, by kernel_rfl, by kernel_rfl, fun _ => by kernel_rfl⟩
theorem kinG120 (P : Params) : KinG (hd.heap_39 P) 120 := ⟨by kernel_rfl, by kernel_rfl, by kernel_rfl, by kernel_rfl, by kernel_rfl, fun _ => by kernel_rfl⟩
theorem kinG132 (P : Params) : KinG (hd.heap_39 P) 132 := ⟨by kernel_rfl, by kernel_rfl, by kernel_rfl, by kernel_rfl, by kernel_rfl, fun _ => by kernel_rfl⟩
theorem kinG144 (P : Params) : KinG (hd.heap_39 P) 144 := ⟨by kernel_rfl, by kernel_rfl, by kernel_rfl, by kernel_rfl, by kernel_rfl, fun _ => by kernel_rfl⟩
theorem kinG108 (P : Params) : KinG (hd.heap_39 P) 108 := ⟨by kernel_rfl, by kernel_rfl, by kernel_rfl, by kernel_rfl, by kernel_rfl, fun _ => by kernel_rfl⟩
abbrev m2 (rest : Str → Option Value) (x : Addr) (c : Nat) (tc : Tok) (v : Value) (pl : Bool) : Str → Option Value := fun y =>
  if y = PySem.Str.ofString "placed" then some (.bool pl) else if y = PySem.Str.ofString "value" then some v else if y = PySem.Str.ofString "c" then some (.int (c : Int) tc) else if y = PySem.Str.ofString "one" then some (.ref x) else rest y

theorem np108 (P : Params) : findIn (hd.heap_39 P) (.ref 108) (PySem.Str.ofString "non_printables") = some none := by kernel_rfl
theorem log_small {i : Int} (h0 : 0 ≤ i) (h1 : i < 1000000) : i.natAbs.log2 < 1920 := by
  by_cases hz : i.natAbs = 0
  · rw [hz]; decide
  · refine (Nat.log2_lt hz).mpr (Nat.lt_of_lt_of_le (show i.natAbs < 2 ^ 20 by omega) (Nat.pow_le_pow_right (by decide) (by decide)))
theorem str_empty_list {prog : Program} {w : World} {A : Around} {E : Value → Shared → Prop} {s : Shared} {a : Addr} {Q : Value → Shared → Prop} {h₀ : Heap} {L : Addr} {m : Str → Option Value} {news : List (Addr × Obj)} (hg : A.guards = some []) (hu : A.units + 20 < cLine) (F : Fr h₀ L s.heap m) (N : News h₀ L s.heap news) (ha : (a, W.listOf #[] 0) ∈ news)
    (h : ∀ h' u tk, Fr h₀ L h' m → News h₀ L h' news → Q (.str (PyData.list []).shown u) { s with heap := h', toks := tk }) : wpAny (model prog w) A (call (.type "str") [.ref a]) Q E s := by
  obtain ⟨as, R⟩ := reads_empty (N _ ha).1
  exact str_of_reads R rfl (fun z => nomatch z) hg (by have : (PyData.list []).depth ≤ 5 := (by decide); omega) (fun _ _ e => e) (fun h' u tk k => h h' u tk (F.keeps k) (N.grown k)) (by decide)
section
variable {prog : Program} {w : World} {A : Around} {E : Value → Shared → Prop} {s : Shared} {Q : Value → Shared → Prop} {h₀ : Heap} {L x C dx tu : Addr} {m : Str → Option Value} {news : List (Addr × Obj)} {K : Frag} {expr : Bool} {es : List DictEntry} {n : Nat} {v : Value} {o : Obj}
theorem get_lineG (F : Fr h₀ L s.heap m) (X₀ : K.In h₀) (N : News h₀ L s.heap news) (hx : (x, excOf C dx tu) ∈ news) (hdx : (dx, dictOf es n) ∈ news) (KG : KinG K C) (hl : getL (PySem.Str.ofString "line") es = some (some v)) (hv : handedIn v = true) (h : Q v { s with toks := s.toks + 1 }) :
    wpAny (model prog w) A (getAttr (.ref x) (PySem.Str.ofString "line") expr) Q E s := get_excK F X₀ (inst_exc N hx hdx) KG.ga KG.gn KG.sub KG.hh KG.line rfl hl hv h
theorem get_npG (F : Fr h₀ L s.heap m) (X₀ : K.In h₀) (N : News h₀ L s.heap news) (hx : (x, excOf C dx tu) ∈ news) (hdx : (dx, dictOf es n) ∈ news) (KG : KinG K C) (hf : findIn K (.ref C) (PySem.Str.ofString "non_printables") = some none) (hl : getL (PySem.Str.ofString "non_printables") es = some (some v)) (hv : handedIn v = true) (h : Q v { s with toks := s.toks + 1 }) :
    wpAny (model prog w) A (getAttr (.ref x) (PySem.Str.ofString "non_printables") expr) Q E s := get_excK F X₀ (inst_exc N hx hdx) KG.ga KG.gn KG.sub KG.hh hf rfl hl hv h
theorem get_argsG (F : Fr h₀ L s.heap m) (X₀ : K.In h₀) (N : News h₀ L s.heap news) (hx : (x, excOf C dx tu) ∈ news) (hdx : (dx, o) ∈ news) (KG : KinG K C) (h : Q (.ref tu) { s with toks := s.toks + 1 }) :
    wpAny (model prog w) A (getAttr (.ref x) (PySem.Str.ofString "args") expr) Q E s := get_argsK F X₀ N hx hdx KG.ga KG.gn KG.sub (KG.args o) h
end
section
variable {w : World} {E : Value → Shared → Prop} {s : Shared} {h₀ : Heap} {L fa : Addr} {cd : Value} {mg mb : Str → Option Value} {p : Program} {loose : List Str} {mean : ExcName → Option Value} {Q : Flow → Shared → Prop} {rest : Str → Option Value} {news : List (Addr × Obj)} {t t2 tc : Tok} {c : Nat} {x dx tu C a : Addr} {iv : Int} {sv : Str} {ti : Tok} {pl : Bool}
local macro_rules | `(tactic| k_all) => `(tactic| assumption)
local macro_rules | `(tactic| walk_at "getAttr ref") => `(tactic| (k_here; (with_reducible show wpAny _ _ (getAttr _ (PySem.Str.ofString "line") _) _ _ _); k_dflt (refine' get_lineG ?a ?b ?c ?m ?n ?g ?l ?v ?_; (case a | b | c => k_asm); (case m | n => k_mem); (case g => assumption); (case l | v => exact rfl); k_whole)))
local macro_rules | `(tactic| walk_at "getAttr ref") => `(tactic| (k_here; (with_reducible show wpAny _ _ (getAttr _ (PySem.Str.ofString "non_printables") _) _ _ _); k_dflt (refine' get_npG ?a ?b ?c ?m ?n ?g ?f ?l ?v ?_; (case a | b | c => k_asm); (case m | n => k_mem); (case g => assumption); (case f => exact np108 _); (case l | v => exact rfl); k_whole)))
local macro_rules | `(tactic| walk_at "getAttr ref") => `(tactic| (k_here; (with_reducible show wpAny _ _ (getAttr _ (PySem.Str.ofString "args") _) _ _ _); k_dflt (refine' get_argsG ?a ?b ?c ?m ?n ?g ?_; (case a | b | c => k_asm); (case m | n => k_mem); (case g => assumption); k_whole)))
local macro_rules | `(tactic| walk_at "compareOp NotEq int int") => `(tactic| with_reducible refine ne_int_same ?_)
local macro_rules | `(tactic| walk_at "compareOp NotEq str str") => `(tactic| with_reducible refine ne_str_same ?_)
local macro_rules | `(tactic| walk_at "compareOp NotEq type:int type:int") => `(tactic| refine ne_type_same TypeEq.meta_int ?_)
local macro_rules | `(tactic| walk_at "compareOp NotEq type:str type:str") => `(tactic| refine ne_type_same TypeEq.meta_str ?_)
local macro_rules | `(tactic| walk_at "compareOp NotEq type:list type:list") => `(tactic| refine ne_type_same TypeEq.meta_list ?_)
local macro_rules | `(tactic| walk_at "compareOp NotEq type:NoneType type:NoneType") => `(tactic| refine ne_type_same TypeEq.meta_NoneType ?_)
local macro_rules | `(tactic| walk_at "call type:str") => `(tactic| (k_here; (with_reducible show wpAny _ _ (call (Value.type "str") [Value.ref _]) _ _ _); refine Halt.out ?_))
local macro_rules | `(tactic| walk_at "call type:str") => `(tactic| (k_here; (with_reducible show wpAny _ _ (call (Value.type "str") [Value.int _ _]) _ _ _); refine P.str_of_int (by assumption) ?_))
local macro_rules | `(tactic| walk_at "compareOp NotEq ref ref") => `(tactic| (k_here; k_dflt (first
  | (refine' ne_list0 ?u ?a ?m ?_; (case u => units_room); (case a => k_asm); (case m => k_mem); k_whole)
  | (refine' ne_tup1 ?u ?a ?m ?n ?c ?d ?_; (case u => units_room); (case a => k_asm); (case m | n => k_mem); (case c => exact rfl); (case d => exact ⟨_, rfl⟩); k_whole)
  | (refine' ne_tup0 ?u ?a ?m ?n ?c ?d ?_; (case u => units_room); (case a => k_asm); (case m | n => k_mem); (case c => exact rfl); (case d => exact ⟨_, rfl⟩); k_whole))))

set_option maxHeartbeats 1600000 in
theorem sec_int_o (B : Below callerA h₀ [] h₀) (X₀ : (hd.heap_39 w.params).In h₀) (T : Top p loose mean mg mb h₀) (KG : KinG (hd.heap_39 w.params) C) (hc7 : c ≠ 7) (hs : findIn (hd.heap_39 w.params) (.ref C) "__str__" = some (some (.builtin "BaseException.__str__"))) (hlog : iv.natAbs.log2 < 1920) (hln : (PySem.Str.ofString (toString iv)).length ≤ 20)
    (F : Fr h₀ L s.heap (m2 rest x c tc (.int iv ti) pl)) (N : News h₀ L s.heap ((dx, lineD w.params t (.int iv ti)) :: (tu, tupOf [.int iv ti]) :: (x, excOf C dx tu) :: news))
    (h : ∀ h' tk, Fr h₀ L h' (m2 rest x c tc (.int iv ti) pl) → News h₀ L h' ((dx, lineD w.params t (.int iv ti)) :: (tu, tupOf [.int iv ti]) :: (x, excOf C dx tu) :: news) → Q .next { s with heap := h', toks := tk }) :
    wpAny (model prg4 w) (callerA.deeper (env4 w.params L fa cd)) (execs (lawFor2 (hd.heap_39 w.params)) (env4 w.params L fa cd)) Q E s := by
  have : PySem.Challenge.rw_dm0089_04 = PySem.Challenge.rw_dm0089_04 ∧ hd.heap_39 = hd.heap_39 := by (k_fill; exact ⟨rfl, rfl⟩)
  clear this
  have e1 : lawFor2 (hd.heap_39 w.params) = lawFor2 (hd.heap_39 w.params) := rfl
  have e2 : lawScope (hd.heap_39 w.params) = lawScope (hd.heap_39 w.params) := rfl
  conv at e1 => rhs; whnf
  conv at e2 => rhs; whnf
  dsimp only [env4]
  rw [e1, e2]
  clear e1 e2
  w_strict k_steps
  all_goals first | (exfalso; omega) | skip
  refine Halt.go ?_
  rename Fr h₀ L _ _ => F1
  rename News h₀ L _ _ => N1
  with_reducible show wpAny _ _ (call (Value.type "str") [Value.ref x]) _ _ _
  refine strX_int hlog (by units_room) F1 X₀ N1 (by k_mem) (by k_mem) (by k_mem) hs KG.sub ?_
  w_strict k_steps
  all_goals first | (exfalso; omega) | skip
  refine' h _ _ ?F9 ?N9
  case F9 => assumption
  case N9 => (rename News h₀ L _ _ => NN; intro p9 hp9; exact NN p9 (by repeat' (first | exact hp9 | refine List.Mem.tail _ ?_)))

set_option maxHeartbeats 1600000 in
theorem sec_int_s (B : Below callerA h₀ [] h₀) (X₀ : (hd.heap_39 w.params).In h₀) (T : Top p loose mean mg mb h₀) (KG : KinG (hd.heap_39 w.params) 108) (hlog : iv.natAbs.log2 < 1920) (hln : (PySem.Str.ofString (toString iv)).length ≤ 20)
    (F : Fr h₀ L s.heap (m2 rest x 7 tc (.int iv ti) pl)) (N : News h₀ L s.heap ((dx, bothD w.params t t2 (.int iv ti)) :: (tu, tupOf [.int iv ti]) :: (x, excOf 108 dx tu) :: news))
    (h : ∀ h' tk, Fr h₀ L h' (m2 rest x 7 tc (.int iv ti) pl) → News h₀ L h' ((dx, bothD w.params t t2 (.int iv ti)) :: (tu, tupOf [.int iv ti]) :: (x, excOf 108 dx tu) :: news) → Q .next { s with heap := h', toks := tk }) :
    wpAny (model prg4 w) (callerA.deeper (env4 w.params L fa cd)) (execs (lawFor2 (hd.heap_39 w.params)) (env4 w.params L fa cd)) Q E s := by
  have : PySem.Challenge.rw_dm0089_04 = PySem.Challenge.rw_dm0089_04 ∧ hd.heap_39 = hd.heap_39 := by (k_fill; exact ⟨rfl, rfl⟩)
  clear this
  have e1 : lawFor2 (hd.heap_39 w.params) = lawFor2 (hd.heap_39 w.params) := rfl
  have e2 : lawScope (hd.heap_39 w.params) = lawScope (hd.heap_39 w.params) := rfl
  conv at e1 => rhs; whnf
  conv at e2 => rhs; whnf
  dsimp only [env4]
  rw [e1, e2]
  clear e1 e2
  w_strict k_steps
  all_goals first | (exfalso; omega) | skip
  refine Halt.go ?_
  rename Fr h₀ L _ _ => F1
  rename News h₀ L _ _ => N1
  with_reducible show wpAny _ _ (call (Value.type "str") [Value.ref x]) _ _ _
  refine str105 B F1 X₀ N1 T rfl rfl rfl (by simp only [depth_deeper, depth_caller]; decide) (by units_room) (by k_mem) (by k_mem) rfl (Nat.le_trans hln (by decide)) (fun _ _ F' N' k' => KFm.formatOf_int hlog fun t8 k8 => k' _ _ _ F' N') fun h9 t9 k9 F9 N9 => ?_
  clear F1 N1
  w_strict k_steps
  all_goals first | (exfalso; omega) | skip
  refine' h _ _ ?F9 ?N9
  case F9 => assumption
  case N9 => (rename News h₀ L _ _ => NN; intro p9 hp9; exact NN p9 (by repeat' (first | exact hp9 | refine List.Mem.tail _ ?_)))

set_option maxHeartbeats 1600000 in
theorem sec_str_o (B : Below callerA h₀ [] h₀) (X₀ : (hd.heap_39 w.params).In h₀) (T : Top p loose mean mg mb h₀) (KG : KinG (hd.heap_39 w.params) C) (hc7 : c ≠ 7) (hs : findIn (hd.heap_39 w.params) (.ref C) "__str__" = some (some (.builtin "BaseException.__str__"))) (hln : sv.length ≤ 20)
    (F : Fr h₀ L s.heap (m2 rest x c tc (.str sv ti) pl)) (N : News h₀ L s.heap ((dx, lineD w.params t (.str sv ti)) :: (tu, tupOf [.str sv ti]) :: (x, excOf C dx tu) :: news))
    (h : ∀ h' tk, Fr h₀ L h' (m2 rest x c tc (.str sv ti) pl) → News h₀ L h' ((dx, lineD w.params t (.str sv ti)) :: (tu, tupOf [.str sv ti]) :: (x, excOf C dx tu) :: news) → Q .next { s with heap := h', toks := tk }) :
    wpAny (model prg4 w) (callerA.deeper (env4 w.params L fa cd)) (execs (lawFor2 (hd.heap_39 w.params)) (env4 w.params L fa cd)) Q E s := by
  have : PySem.Challenge.rw_dm0089_04 = PySem.Challenge.rw_dm0089_04 ∧ hd.heap_39 = hd.heap_39 := by (k_fill; exact ⟨rfl, rfl⟩)
  clear this
  have e1 : lawFor2 (hd.heap_39 w.params) = lawFor2 (hd.heap_39 w.params) := rfl
  have e2 : lawScope (hd.heap_39 w.params) = lawScope (hd.heap_39 w.params) := rfl
  conv at e1 => rhs; whnf
  conv at e2 => rhs; whnf
  dsimp only [env4]
  rw [e1, e2]
  clear e1 e2
  w_strict k_steps
  all_goals first | (exfalso; omega) | skip
  refine Halt.go ?_
  rename Fr h₀ L _ _ => F1
  rename News h₀ L _ _ => N1
  with_reducible show wpAny _ _ (call (Value.type "str") [Value.ref x]) _ _ _
  refine strX_str (by units_room) F1 X₀ N1 (by k_mem) (by k_mem) (by k_mem) hs KG.sub ?_
  w_strict k_steps
  all_goals first | (exfalso; omega) | skip
  refine' h _ _ ?F9 ?N9
  case F9 => assumption
  case N9 => (rename News h₀ L _ _ => NN; intro p9 hp9; exact NN p9 (by repeat' (first | exact hp9 | refine List.Mem.tail _ ?_)))

set_option maxHeartbeats 1600000 in
theorem sec_str_s (B : Below callerA h₀ [] h₀) (X₀ : (hd.heap_39 w.params).In h₀) (T : Top p loose mean mg mb h₀) (KG : KinG (hd.heap_39 w.params) 108) (hln : sv.length ≤ 20)
    (F : Fr h₀ L s.heap (m2 rest x 7 tc (.str sv ti) pl)) (N : News h₀ L s.heap ((dx, bothD w.params t t2 (.str sv ti)) :: (tu, tupOf [.str sv ti]) :: (x, excOf 108 dx tu) :: news))
    (h : ∀ h' tk, Fr h₀ L h' (m2 rest x 7 tc (.str sv ti) pl) → News h₀ L h' ((dx, bothD w.params t t2 (.str sv ti)) :: (tu, tupOf [.str sv ti]) :: (x, excOf 108 dx tu) :: news) → Q .next { s with heap := h', toks := tk }) :
    wpAny (model prg4 w) (callerA.deeper (env4 w.params L fa cd)) (execs (lawFor2 (hd.heap_39 w.params)) (env4 w.params L fa cd)) Q E s := by
  have : PySem.Challenge.rw_dm0089_04 = PySem.Challenge.rw_dm0089_04 ∧ hd.heap_39 = hd.heap_39 := by (k_fill; exact ⟨rfl, rfl⟩)
  clear this
  have e1 : lawFor2 (hd.heap_39 w.params) = lawFor2 (hd.heap_39 w.params) := rfl
  have e2 : lawScope (hd.heap_39 w.params) = lawScope (hd.heap_39 w.params) := rfl
  conv at e1 => rhs; whnf
  conv at e2 => rhs; whnf
  dsimp only [env4]
  rw [e1, e2]
  clear e1 e2
  w_strict k_steps
  all_goals first | (exfalso; omega) | skip
  refine Halt.go ?_
  rename Fr h₀ L _ _ => F1
  rename News h₀ L _ _ => N1
  with_reducible show wpAny _ _ (call (Value.type "str") [Value.ref x]) _ _ _
  refine str105 B F1 X₀ N1 T rfl rfl rfl (by simp only [depth_deeper, depth_caller]; decide) (by units_room) (by k_mem) (by k_mem) rfl (Nat.le_trans hln (by decide)) (fun _ _ F' N' k' => wpAny_of_eq (KFm.formatOf_str _ _) (k' _ _ _ F' N')) fun h9 t9 k9 F9 N9 => ?_
  clear F1 N1
  w_strict k_steps
  all_goals first | (exfalso; omega) | skip
  refine' h _ _ ?F9 ?N9
  case F9 => assumption
  case N9 => (rename News h₀ L _ _ => NN; intro p9 hp9; exact NN p9 (by repeat' (first | exact hp9 | refine List.Mem.tail _ ?_)))

set_option maxHeartbeats 1600000 in
theorem sec_list_o (B : Below callerA h₀ [] h₀) (X₀ : (hd.heap_39 w.params).In h₀) (T : Top p loose mean mg mb h₀) (KG : KinG (hd.heap_39 w.params) C) (hc7 : c ≠ 7) (hs : findIn (hd.heap_39 w.params) (.ref C) "__str__" = some (some (.builtin "BaseException.__str__")))
    (F : Fr h₀ L s.heap (m2 rest x c tc (.ref a) pl)) (N : News h₀ L s.heap ((dx, lineD w.params t (.ref a)) :: (tu, tupOf [.ref a]) :: (x, excOf C dx tu) :: (a, W.listOf #[] 0) :: news))
    (h : ∀ h' tk, Fr h₀ L h' (m2 rest x c tc (.ref a) pl) → News h₀ L h' ((dx, lineD w.params t (.ref a)) :: (tu, tupOf [.ref a]) :: (x, excOf C dx tu) :: (a, W.listOf #[] 0) :: news) → Q .next { s with heap := h', toks := tk }) :
    wpAny (model prg4 w) (callerA.deeper (env4 w.params L fa cd)) (execs (lawFor2 (hd.heap_39 w.params)) (env4 w.params L fa cd)) Q E s := by
  have : PySem.Challenge.rw_dm0089_04 = PySem.Challenge.rw_dm0089_04 ∧ hd.heap_39 = hd.heap_39 := by (k_fill; exact ⟨rfl, rfl⟩)
  clear this
  have e1 : lawFor2 (hd.heap_39 w.params) = lawFor2 (hd.heap_39 w.params) := rfl
  have e2 : lawScope (hd.heap_39 w.params) = lawScope (hd.heap_39 w.params) := rfl
  conv at e1 => rhs; whnf
  conv at e2 => rhs; whnf
  dsimp only [env4]
  rw [e1, e2]
  clear e1 e2
  w_strict k_steps
  all_goals first | (exfalso; omega) | skip
  refine Halt.go ?_
  rename Fr h₀ L _ _ => F1
  rename News h₀ L _ _ => N1
  with_reducible show wpAny _ _ (call (Value.type "str") [Value.ref x]) _ _ _
  refine strX_list rfl (by units_room) (by units_room) F1 X₀ N1 (by k_mem) (by k_mem) (by k_mem) (by k_mem) hs KG.sub fun h9 u9 tk9 F9 N9 => ?_
  clear F1 N1
  w_strict k_steps
  refine Halt.go ?_
  rename Fr h₀ L _ _ => F2
  rename News h₀ L _ _ => N2
  refine str_empty_list rfl (by units_room) F2 N2 (by k_mem) fun h8 u8 tk8 F8 N8 => ?_
  clear F2 N2
  w_strict k_steps
  all_goals first | (exfalso; omega) | skip
  refine' h _ _ ?F9 ?N9
  case F9 => assumption
  case N9 => (rename News h₀ L _ _ => NN; intro p9 hp9; exact NN p9 (by repeat' (first | exact hp9 | refine List.Mem.tail _ ?_)))

set_option maxHeartbeats 1600000 in
theorem sec_list_s (B : Below callerA h₀ [] h₀) (X₀ : (hd.heap_39 w.params).In h₀) (T : Top p loose mean mg mb h₀) (KG : KinG (hd.heap_39 w.params) 108)
    (F : Fr h₀ L s.heap (m2 rest x 7 tc (.ref a) pl)) (N : News h₀ L s.heap ((dx, bothD w.params t t2 (.ref a)) :: (tu, tupOf [.ref a]) :: (x, excOf 108 dx tu) :: (a, W.listOf #[] 0) :: news))
    (h : ∀ h' tk, Fr h₀ L h' (m2 rest x 7 tc (.ref a) pl) → News h₀ L h' ((dx, bothD w.params t t2 (.ref a)) :: (tu, tupOf [.ref a]) :: (x, excOf 108 dx tu) :: (a, W.listOf #[] 0) :: news) → Q .next { s with heap := h', toks := tk }) :
    wpAny (model prg4 w) (callerA.deeper (env4 w.params L fa cd)) (execs (lawFor2 (hd.heap_39 w.params)) (env4 w.params L fa cd)) Q E s := by
  have : PySem.Challenge.rw_dm0089_04 = PySem.Challenge.rw_dm0089_04 ∧ hd.heap_39 = hd.heap_39 := by (k_fill; exact ⟨rfl, rfl⟩)
  clear this
  have e1 : lawFor2 (hd.heap_39 w.params) = lawFor2 (hd.heap_39 w.params) := rfl
  have e2 : lawScope (hd.heap_39 w.params) = lawScope (hd.heap_39 w.params) := rfl
  conv at e1 => rhs; whnf
  conv at e2 => rhs; whnf
  dsimp only [env4]
  rw [e1, e2]
  clear e1 e2
  w_strict k_steps
  all_goals first | (exfalso; omega) | skip
  refine Halt.go ?_
  rename Fr h₀ L _ _ => F1
  rename News h₀ L _ _ => N1
  with_reducible show wpAny _ _ (call (Value.type "str") [Value.ref x]) _ _ _
  refine str105 (y := (PyData.list []).shown) B F1 X₀ N1 T rfl rfl rfl (by simp only [depth_deeper, depth_caller]; decide) (by units_room) (by k_mem) (by k_mem) rfl (by decide) (fun hg hu' F' N' k' => by
      obtain ⟨as, R⟩ := reads_empty (N' (a, W.listOf #[] 0) (by k_mem)).1
      refine formatOf_reads R rfl (fun z => nomatch z) (hg.trans rfl) ?_ (fun _ _ e => e) (fun h' u tk k => k' _ _ _ (F'.keeps k) (N'.grown k)) (by decide)
      have hd5 : (PyData.list []).depth ≤ 5 := (by decide)
      exact Nat.lt_of_le_of_lt (Nat.add_le_add hu' (Nat.add_le_add_right hd5 2)) (by first | units_room | decide)) fun h9 t9 k9 F9 N9 => ?_
  clear F1 N1
  w_strict k_steps
  refine Halt.go ?_
  rename Fr h₀ L _ _ => F2
  rename News h₀ L _ _ => N2
  refine str_empty_list rfl (by units_room) F2 N2 (by k_mem) fun h8 u8 tk8 F8 N8 => ?_
  clear F2 N2
  w_strict k_steps
  all_goals first | (exfalso; omega) | skip
  refine' h _ _ ?F9 ?N9
  case F9 => assumption
  case N9 => (rename News h₀ L _ _ => NN; intro p9 hp9; exact NN p9 (by repeat' (first | exact hp9 | refine List.Mem.tail _ ?_)))

set_option maxHeartbeats 1600000 in
theorem sec_noneP_o (B : Below callerA h₀ [] h₀) (X₀ : (hd.heap_39 w.params).In h₀) (T : Top p loose mean mg mb h₀) (KG : KinG (hd.heap_39 w.params) C) (hc7 : c ≠ 7) (hs : findIn (hd.heap_39 w.params) (.ref C) "__str__" = some (some (.builtin "BaseException.__str__")))
    (F : Fr h₀ L s.heap (m2 rest x c tc (.none) true)) (N : News h₀ L s.heap ((dx, lineD w.params t (.none)) :: (tu, tupOf [.none]) :: (x, excOf C dx tu) :: news))
    (h : ∀ h' tk, Fr h₀ L h' (m2 rest x c tc (.none) true) → News h₀ L h' ((dx, lineD w.params t (.none)) :: (tu, tupOf [.none]) :: (x, excOf C dx tu) :: news) → Q .next { s with heap := h', toks := tk }) :
    wpAny (model prg4 w) (callerA.deeper (env4 w.params L fa cd)) (execs (lawFor2 (hd.heap_39 w.params)) (env4 w.params L fa cd)) Q E s := by
  have : PySem.Challenge.rw_dm0089_04 = PySem.Challenge.rw_dm0089_04 ∧ hd.heap_39 = hd.heap_39 := by (k_fill; exact ⟨rfl, rfl⟩)
  clear this
  have e1 : lawFor2 (hd.heap_39 w.params) = lawFor2 (hd.heap_39 w.params) := rfl
  have e2 : lawScope (hd.heap_39 w.params) = lawScope (hd.heap_39 w.params) := rfl
  conv at e1 => rhs; whnf
  conv at e2 => rhs; whnf
  dsimp only [env4]
  rw [e1, e2]
  clear e1 e2
  w_strict k_steps
  all_goals first | (exfalso; omega) | skip
  refine Halt.go ?_
  rename Fr h₀ L _ _ => F1
  rename News h₀ L _ _ => N1
  with_reducible show wpAny _ _ (call (Value.type "str") [Value.ref x]) _ _ _
  refine strX_none (by units_room) F1 X₀ N1 (by k_mem) (by k_mem) (by k_mem) hs KG.sub ?_
  w_strict k_steps
  all_goals first | (exfalso; omega) | skip
  refine' h _ _ ?F9 ?N9
  case F9 => assumption
  case N9 => (rename News h₀ L _ _ => NN; intro p9 hp9; exact NN p9 (by repeat' (first | exact hp9 | refine List.Mem.tail _ ?_)))

set_option maxHeartbeats 1600000 in
theorem sec_noneP_s (B : Below callerA h₀ [] h₀) (X₀ : (hd.heap_39 w.params).In h₀) (T : Top p loose mean mg mb h₀) (KG : KinG (hd.heap_39 w.params) 108)
    (F : Fr h₀ L s.heap (m2 rest x 7 tc (.none) true)) (N : News h₀ L s.heap ((dx, bothD w.params t t2 (.none)) :: (tu, tupOf [.none]) :: (x, excOf 108 dx tu) :: news))
    (h : ∀ h' tk, Fr h₀ L h' (m2 rest x 7 tc (.none) true) → News h₀ L h' ((dx, bothD w.params t t2 (.none)) :: (tu, tupOf [.none]) :: (x, excOf 108 dx tu) :: news) → Q .next { s with heap := h', toks := tk }) :
    wpAny (model prg4 w) (callerA.deeper (env4 w.params L fa cd)) (execs (lawFor2 (hd.heap_39 w.params)) (env4 w.params L fa cd)) Q E s := by
  have : PySem.Challenge.rw_dm0089_04 = PySem.Challenge.rw_dm0089_04 ∧ hd.heap_39 = hd.heap_39 := by (k_fill; exact ⟨rfl, rfl⟩)
  clear this
  have e1 : lawFor2 (hd.heap_39 w.params) = lawFor2 (hd.heap_39 w.params) := rfl
  have e2 : lawScope (hd.heap_39 w.params) = lawScope (hd.heap_39 w.params) := rfl
  conv at e1 => rhs; whnf
  conv at e2 => rhs; whnf
  dsimp only [env4]
  rw [e1, e2]
  clear e1 e2
  w_strict k_steps
  all_goals first | (exfalso; omega) | skip
  refine Halt.go ?_
  rename Fr h₀ L _ _ => F1
  rename News h₀ L _ _ => N1
  with_reducible show wpAny _ _ (call (Value.type "str") [Value.ref x]) _ _ _
  refine str105 B F1 X₀ N1 T rfl rfl rfl (by simp only [depth_deeper, depth_caller]; decide) (by units_room) (by k_mem) (by k_mem) rfl (by decide) (fun _ _ F' N' k' => formatOf_none fun t8 k8 => k' _ _ _ F' N') fun h9 t9 k9 F9 N9 => ?_
  clear F1 N1
  w_strict k_steps
  all_goals first | (exfalso; omega) | skip
  refine' h _ _ ?F9 ?N9
  case F9 => assumption
  case N9 => (rename News h₀ L _ _ => NN; intro p9 hp9; exact NN p9 (by repeat' (first | exact hp9 | refine List.Mem.tail _ ?_)))

set_option maxHeartbeats 1600000 in
theorem sec_noneN_o (B : Below callerA h₀ [] h₀) (X₀ : (hd.heap_39 w.params).In h₀) (T : Top p loose mean mg mb h₀) (KG : KinG (hd.heap_39 w.params) C) (hc7 : c ≠ 7) (hs : findIn (hd.heap_39 w.params) (.ref C) "__str__" = some (some (.builtin "BaseException.__str__")))
    (F : Fr h₀ L s.heap (m2 rest x c tc (.none) false)) (N : News h₀ L s.heap ((dx, lineD w.params t (.none)) :: (tu, tupOf []) :: (x, excOf C dx tu) :: news))
    (h : ∀ h' tk, Fr h₀ L h' (m2 rest x c tc (.none) false) → News h₀ L h' ((dx, lineD w.params t (.none)) :: (tu, tupOf []) :: (x, excOf C dx tu) :: news) → Q .next { s with heap := h', toks := tk }) :
    wpAny (model prg4 w) (callerA.deeper (env4 w.params L fa cd)) (execs (lawFor2 (hd.heap_39 w.params)) (env4 w.params L fa cd)) Q E s := by
  have : PySem.Challenge.rw_dm0089_04 = PySem.Challenge.rw_dm0089_04 ∧ hd.heap_39 = hd.heap_39 := by (k_fill; exact ⟨rfl, rfl⟩)
  clear this
  have e1 : lawFor2 (hd.heap_39 w.params) = lawFor2 (hd.heap_39 w.params) := rfl
  have e2 : lawScope (hd.heap_39 w.params) = lawScope (hd.heap_39 w.params) := rfl
  conv at e1 => rhs; whnf
  conv at e2 => rhs; whnf
  dsimp only [env4]
  rw [e1, e2]
  clear e1 e2
  w_strict k_steps
  all_goals first | (exfalso; omega) | skip
  refine Halt.go ?_
  rename Fr h₀ L _ _ => F1
  rename News h₀ L _ _ => N1
  with_reducible show wpAny _ _ (call (Value.type "str") [Value.ref x]) _ _ _
  refine strX_empty (by units_room) F1 X₀ N1 (by k_mem) (by k_mem) (by k_mem) hs KG.sub ?_
  w_strict k_steps
  all_goals first | (exfalso; omega) | skip
  refine' h _ _ ?F9 ?N9
  case F9 => assumption
  case N9 => (rename News h₀ L _ _ => NN; intro p9 hp9; exact NN p9 (by repeat' (first | exact hp9 | refine List.Mem.tail _ ?_)))

set_option maxHeartbeats 1600000 in
theorem sec_noneN_s (B : Below callerA h₀ [] h₀) (X₀ : (hd.heap_39 w.params).In h₀) (T : Top p loose mean mg mb h₀) (KG : KinG (hd.heap_39 w.params) 108)
    (F : Fr h₀ L s.heap (m2 rest x 7 tc (.none) false)) (N : News h₀ L s.heap ((dx, bothD w.params t t2 (.none)) :: (tu, tupOf []) :: (x, excOf 108 dx tu) :: news))
    (h : ∀ h' tk, Fr h₀ L h' (m2 rest x 7 tc (.none) false) → News h₀ L h' ((dx, bothD w.params t t2 (.none)) :: (tu, tupOf []) :: (x, excOf 108 dx tu) :: news) → Q .next { s with heap := h', toks := tk }) :
    wpAny (model prg4 w) (callerA.deeper (env4 w.params L fa cd)) (execs (lawFor2 (hd.heap_39 w.params)) (env4 w.params L fa cd)) Q E s := by
  have : PySem.Challenge.rw_dm0089_04 = PySem.Challenge.rw_dm0089_04 ∧ hd.heap_39 = hd.heap_39 := by (k_fill; exact ⟨rfl, rfl⟩)
  clear this
  have e1 : lawFor2 (hd.heap_39 w.params) = lawFor2 (hd.heap_39 w.params) := rfl
  have e2 : lawScope (hd.heap_39 w.params) = lawScope (hd.heap_39 w.params) := rfl
  conv at e1 => rhs; whnf
  conv at e2 => rhs; whnf
  dsimp only [env4]
  rw [e1, e2]
  clear e1 e2
  w_strict k_steps
  all_goals first | (exfalso; omega) | skip
  refine Halt.go ?_
  rename Fr h₀ L _ _ => F1
  rename News h₀ L _ _ => N1
  with_reducible show wpAny _ _ (call (Value.type "str") [Value.ref x]) _ _ _
  refine str105 B F1 X₀ N1 T rfl rfl rfl (by simp only [depth_deeper, depth_caller]; decide) (by units_room) (by k_mem) (by k_mem) rfl (by decide) (fun _ _ F' N' k' => formatOf_none fun t8 k8 => k' _ _ _ F' N') fun h9 t9 k9 F9 N9 => ?_
  clear F1 N1
  w_strict k_steps
  all_goals first | (exfalso; omega) | skip
  refine' h _ _ ?F9 ?N9
  case F9 => assumption
  case N9 => (rename News h₀ L _ _ => NN; intro p9 hp9; exact NN p9 (by repeat' (first | exact hp9 | refine List.Mem.tail _ ?_)))

end
end Mine
end

-- part W48
section
open PySem PySem.W PySem.Calls PyProof.Rows PyProof.V PySem.Spec
namespace Mine
section
variable {prog : Program} {w : World} {A : Around} {E : Value → Shared → Prop} {s : Shared} {env : Env} {h₀ : Heap} {elts : List Expr} {xctx : Nat} {tpos : Pos} {body : List Stmt} {Q : Flow → Shared → Prop}
/-- for over a made list in the caller's logic, a tuple target, with a ledger that may grow -/
theorem loopC_listT {l : Addr} {vs : List Value} {nn : Nat} {m₀ : PySem.Str → Option Value} {news : List (Addr × Obj)} (J : Nat → (PySem.Str → Option Value) → List (Addr × Obj) → Prop)
    (hh : A.handled = none) (hl : (l, listOf vs.toArray nn) ∈ news) (F : Fr h₀ env.locals s.heap m₀) (N : News h₀ env.locals s.heap news) (hj : J 0 m₀ news)
    (hkeep : ∀ i m nx, J i m nx → (l, listOf vs.toArray nn) ∈ nx) (hr : ∀ v ∈ vs, ∃ T, v = .ref T)
    (turn : ∀ (i : Nat) (v : Value) (m₁ : PySem.Str → Option Value) (nx : List (Addr × Obj)) (h : Heap) (tk : Nat) (own : List (Addr × Obj)), vs[i]? = some v → TbOff own nx → J i m₁ nx → Fr h₀ env.locals h m₁ → News h₀ env.locals h (nx ++ own) →
      wpAny (model prog w) A (assign (.Tuple elts xctx tpos) env v) (fun _ s₂ => wpC (model prog w) A (execs body env) (TbPost h₀ env.locals (J (i + 1)) own { s with heap := h, toks := tk } Q) (fun _ _ => False) s₂) (fun _ _ => False) { s with heap := h, toks := tk })
    (done : ∀ m₁ nx h tk, J vs.length m₁ nx → Fr h₀ env.locals h m₁ → News h₀ env.locals h nx → Q .next { s with heap := h, toks := tk }) :
    wpAny (model prog w) A (pyIter (.ref l)) (fun it s₂ => codeC (model prog w) A (.forLoop (.Tuple elts xctx tpos) it body [] env) (fun r s' => match r with | .ok f => Q f s' | .error e => cameBackBy (model prog w) A env E e s') s₂) E s := by
  have hol : s.heap.get? l = some (listOf vs.toArray nn) := (N _ hl).1
  have hls : s.heap.IsList l vs.toArray := ⟨_, hol, rfl, nn, rfl⟩
  have hne : l ≠ s.heap.objs.size := Nat.ne_of_lt (Heap.lt_size hol)
  refine wpAny_pyIter_list hls ?_
  have W := Walks.list (prog := prog) (w := w) hh s.heap.objs.size l hne vs.toArray
  have hlen : vs.toArray.size = vs.length := by simp
  rw [hlen] at W
  have hL : env.locals ≠ s.heap.objs.size := Nat.ne_of_lt F.ns.lt
  have hI : h₀.get? s.heap.objs.size = none := next_is_new F
  have next : ∀ {h h₁ : Heap} {m : PySem.Str → Option Value} {nx : List (Addr × Obj)}, Fr h₀ env.locals h m → News h₀ env.locals h nx → (∀ p ∈ nx, p.1 ≠ s.heap.objs.size) → (∀ b o, b ∉ [s.heap.objs.size] → h.get? b = some o → h₁.get? b = some o) →
      Fr h₀ env.locals h₁ m ∧ News h₀ env.locals h₁ nx := fun F N off k =>
    ⟨⟨F.ns.at' fun o e => k _ o (by simpa using hL) e, fun b o e => k b o (fun hm => by rw [List.mem_singleton.mp hm, hI] at e; cases e) (F.keep b o e), F.above⟩, fun p hp => ⟨k _ _ (by simpa using off p hp) (N p hp).1, (N p hp).2⟩⟩
  refine codeC_forLoop (fun k s' => ∃ h tk m nx i, s' = { s with heap := h, toks := tk } ∧ h.IsListIter s.heap.objs.size l i ∧ Fr h₀ env.locals h m ∧ News h₀ env.locals h nx ∧ (∀ p ∈ nx, p.1 ≠ s.heap.objs.size) ∧ J i m nx ∧ i ≤ vs.length ∧ k = vs.length + 1 - i) ?_ (vs.length + 1)
    ⟨_, s.toks, m₀, news, 0, rfl, ⟨_, Heap.get?_push_size _ rfl, rfl, rfl⟩, F.push _, (fun p hp => ⟨Heap.get?_push_of_some _ (N p hp).1, (N p hp).2⟩), (fun p hp => Nat.ne_of_lt (Heap.lt_size (N p hp).1)), hj, Nat.zero_le _, rfl⟩
  rintro k s' ⟨h, tk, m, nx, i, rfl, hst, F', N', off, hJ, hi, rfl⟩
  have hlst : h.IsList l vs.toArray := ⟨_, (N' _ (hkeep i m nx hJ)).1, rfl, nn, rfl⟩
  by_cases hlt : i < vs.length
  · refine W.item i _ _ _ hlt ⟨hst, hlst⟩ fun v h₁ tk₁ hP hst₁ hk₁ => ?_
    obtain ⟨F₁, N₁⟩ := next F' N' off hk₁
    dsimp only
    have hP' : vs[i]? = some v := by simpa using hP
    obtain ⟨T, rfl⟩ := hr v (List.mem_of_getElem? hP')
    refine wpAny_letOwnedTupleGo_listiter hst₁.1 ?_
    obtain ⟨⟨oi, hI₁, q1, q2⟩, _⟩ := hst₁
    refine wpAny_mono (turn i (.ref T) m nx h₁ tk₁ [(s.heap.objs.size, oi)] (by simpa using hP) ?_ hJ F₁ (fun p hp => ?_)) (fun _ s₂ z => wpC_mono z (fun f s₃ z => ?_) fun _ _ z => z) fun _ _ z => z
    · intro p hp q hq
      rw [List.mem_singleton.mp hp]
      exact Ne.symm (off q hq)
    · rcases List.mem_append.mp hp with hp | hp
      · exact N₁ p hp
      · rw [List.mem_singleton.mp hp]; exact ⟨hI₁, Ne.symm hL, hI⟩
    · have fin : TbEnd h₀ env.locals (J (i + 1)) [(s.heap.objs.size, oi)] { s with heap := h₁, toks := tk₁ } s₃ → ∃ m', m' < vs.length + 1 - i ∧ ∃ h tk m nx i, s₃ = { s with heap := h, toks := tk } ∧ h.IsListIter s.heap.objs.size l i ∧ Fr h₀ env.locals h m ∧ News h₀ env.locals h nx ∧ (∀ p ∈ nx, p.1 ≠ s.heap.objs.size) ∧ J i m nx ∧ i ≤ vs.length ∧ m' = vs.length + 1 - i := by
        rintro ⟨h', tk', m', news', nx', e, F3, N3, hsub, hown, hoff, hJ'⟩
        exact ⟨vs.length + 1 - (i + 1), by omega, h', tk', m', nx', i + 1, e, ⟨oi, (N3 _ (hown _ (.head _))).1, q1, q2⟩, F3, fun p hp => N3 p (hsub p hp), fun p hp => Ne.symm (hoff _ (.head _) p hp), hJ', hlt, rfl⟩
      cases f with
      | next => exact fin z
      | cont => exact fin z
      | brk => exact z
      | ret v => exact z
  · have hin : i = vs.length := by omega
    subst hin
    refine W.done _ _ _ ⟨hst, hlst⟩ fun h₁ tk₁ hk₁ => ?_
    obtain ⟨F₁, N₁⟩ := next F' N' off hk₁
    exact done m nx h₁ tk₁ hJ F₁ N₁
end
end Mine
end

-- part W49
section
open PySem PySem.W PySem.Calls PyProof.Rows Builtin Builtin.ObjectAttr
namespace Mine
def lawTgt2 (K : Frag) : Expr := match lawBody K with | [_, _, _, _, _, .For t _ _ _ _, _] => t | _ => .Constant .none 0 default
theorem kinGc (P : Params) {c : Nat} (h : c < 8) : KinG (hd.heap_39 P) (clsAt c) := by
  have hk : c = 0 ∨ c = 1 ∨ c = 2 ∨ c = 3 ∨ c = 4 ∨ c = 5 ∨ c = 6 ∨ c = 7 := by omega
  rcases hk with rfl | rfl | rfl | rfl | rfl | rfl | rfl | rfl
  · exact kinG34 P
  · exact kinG56 P
  · exact kinG68 P
  · exact kinG80 P
  · exact kinG120 P
  · exact kinG132 P
  · exact kinG144 P
  · exact kinG108 P
theorem strc (P : Params) {c : Nat} (h : c < 8) (h7 : c ≠ 7) : findIn (hd.heap_39 P) (.ref (clsAt c)) "__str__" = some (some (.builtin "BaseException.__str__")) := by
  have hk : c = 0 ∨ c = 1 ∨ c = 2 ∨ c = 3 ∨ c = 4 ∨ c = 5 ∨ c = 6 := by omega
  rcases hk with rfl | rfl | rfl | rfl | rfl | rfl | rfl
  · show findIn (hd.heap_39 P) (.ref 34) "__str__" = _; kernel_rfl
  · show findIn (hd.heap_39 P) (.ref 56) "__str__" = _; kernel_rfl
  · show findIn (hd.heap_39 P) (.ref 68) "__str__" = _; kernel_rfl
  · show findIn (hd.heap_39 P) (.ref 80) "__str__" = _; kernel_rfl
  · show findIn (hd.heap_39 P) (.ref 120) "__str__" = _; kernel_rfl
  · show findIn (hd.heap_39 P) (.ref 132) "__str__" = _; kernel_rfl
  · show findIn (hd.heap_39 P) (.ref 144) "__str__" = _; kernel_rfl
section
variable {w : World} {E : Value → Shared → Prop} {s : Shared} {h₀ : Heap} {L fa : Addr} {cd : Value} {mg mb : Str → Option Value} {p : Program} {loose : List Str} {mean : ExcName → Option Value} {Q : Flow → Shared → Prop} {rest m : Str → Option Value} {nx : List (Addr × Obj)} {e : Hd}
set_option maxHeartbeats 1000000 in
theorem body2 (B : Below callerA h₀ [] h₀) (X₀ : (hd.heap_39 w.params).In h₀) (T : Top p loose mean mg mb h₀) (he : e.ok) (F : Fr h₀ L s.heap (m2 rest e.x e.c e.tc e.v e.pl)) (N : News h₀ L s.heap nx) (hfam : ∀ p ∈ e.fam w.params, p ∈ nx)
    (h : ∀ h' tk, Fr h₀ L h' (m2 rest e.x e.c e.tc e.v e.pl) → News h₀ L h' nx → Q .next { s with heap := h', toks := tk }) :
    wpAny (model prg4 w) (callerA.deeper (env4 w.params L fa cd)) (execs (lawFor2 (hd.heap_39 w.params)) (env4 w.params L fa cd)) Q E s := by
  obtain ⟨x, dx, tu, q, c, pl, v, nl, t, t2, tc⟩ := e
  obtain ⟨hc8, hv⟩ := he
  dsimp only at hc8 hv F h
  have h3 : ∀ p ∈ (dx, dictAt w.params c v t t2) :: (tu, tupOf (tsOf v (if pl then [v] else []))) :: (x, excOf (clsAt c) dx tu) :: nl, p ∈ nx := fun p hp => hfam p (.tail _ hp)
  have KG := kinGc w.params hc8
  by_cases h7 : c = 7
  · subst h7
    have e1 : dictAt w.params 7 v t t2 = bothD w.params t t2 v := rfl
    rw [e1] at h3
    cases hv with
    | none =>
      cases pl with
      | true => exact @sec_noneP_s w E s h₀ L fa cd mg mb p loose mean Q rest nx t t2 tc x dx tu  B X₀ T KG  F (fun p hp => by
          rcases List.mem_cons.mp hp with rfl | hp
          · exact N _ (h3 _ (.head _))
          rcases List.mem_cons.mp hp with rfl | hp
          · exact N _ (h3 _ (.tail _ (.head _)))
          rcases List.mem_cons.mp hp with rfl | hp
          · exact N _ (h3 _ (.tail _ (.tail _ (.head _))))
          · exact N p hp) (fun h' tk F' N' => h h' tk F' fun p hp => N' p (.tail _ (.tail _ (.tail _ hp))))
      | false => exact @sec_noneN_s w E s h₀ L fa cd mg mb p loose mean Q rest nx t t2 tc x dx tu  B X₀ T KG  F (fun p hp => by
          rcases List.mem_cons.mp hp with rfl | hp
          · exact N _ (h3 _ (.head _))
          rcases List.mem_cons.mp hp with rfl | hp
          · exact N _ (h3 _ (.tail _ (.head _)))
          rcases List.mem_cons.mp hp with rfl | hp
          · exact N _ (h3 _ (.tail _ (.tail _ (.head _))))
          · exact N p hp) (fun h' tk F' N' => h h' tk F' fun p hp => N' p (.tail _ (.tail _ (.tail _ hp))))
    | @int iv ti a b => exact @sec_int_s w E s h₀ L fa cd mg mb p loose mean Q rest nx t t2 tc x dx tu iv ti pl B X₀ T KG (log_small a b) (Nat.le_trans (PyProof.Rows.toString_length_le a (k := 6) (by decide) b) (by decide)) F (fun p hp => by
          rcases List.mem_cons.mp hp with rfl | hp
          · exact N _ (h3 _ (.head _))
          rcases List.mem_cons.mp hp with rfl | hp
          · exact N _ (h3 _ (.tail _ (.head _)))
          rcases List.mem_cons.mp hp with rfl | hp
          · exact N _ (h3 _ (.tail _ (.tail _ (.head _))))
          · exact N p hp) (fun h' tk F' N' => h h' tk F' fun p hp => N' p (.tail _ (.tail _ (.tail _ hp))))
    | @str sv ti a => exact @sec_str_s w E s h₀ L fa cd mg mb p loose mean Q rest nx t t2 tc x dx tu sv ti pl B X₀ T KG a F (fun p hp => by
          rcases List.mem_cons.mp hp with rfl | hp
          · exact N _ (h3 _ (.head _))
          rcases List.mem_cons.mp hp with rfl | hp
          · exact N _ (h3 _ (.tail _ (.head _)))
          rcases List.mem_cons.mp hp with rfl | hp
          · exact N _ (h3 _ (.tail _ (.tail _ (.head _))))
          · exact N p hp) (fun h' tk F' N' => h h' tk F' fun p hp => N' p (.tail _ (.tail _ (.tail _ hp))))
    | @list a => exact @sec_list_s w E s h₀ L fa cd mg mb p loose mean Q rest nx t t2 tc x dx tu a pl B X₀ T KG  F (fun p hp => by
          rcases List.mem_cons.mp hp with rfl | hp
          · exact N _ (h3 _ (.head _))
          rcases List.mem_cons.mp hp with rfl | hp
          · exact N _ (h3 _ (.tail _ (.head _)))
          rcases List.mem_cons.mp hp with rfl | hp
          · exact N _ (h3 _ (.tail _ (.tail _ (.head _))))
          rcases List.mem_cons.mp hp with rfl | hp
          · exact N _ (h3 _ (.tail _ (.tail _ (.tail _ (.head _)))))
          · exact N p hp) (fun h' tk F' N' => h h' tk F' fun p hp => N' p (.tail _ (.tail _ (.tail _ (.tail _ hp)))))
  · have e1 : dictAt w.params c v t t2 = lineD w.params t v := by unfold dictAt; rw [if_neg h7]
    rw [e1] at h3
    have hs := strc w.params hc8 h7
    cases hv with
    | none =>
      cases pl with
      | true => exact @sec_noneP_o w E s h₀ L fa cd mg mb p loose mean Q rest nx t tc c x dx tu (clsAt c)  B X₀ T KG h7 hs  F (fun p hp => by
          rcases List.mem_cons.mp hp with rfl | hp
          · exact N _ (h3 _ (.head _))
          rcases List.mem_cons.mp hp with rfl | hp
          · exact N _ (h3 _ (.tail _ (.head _)))
          rcases List.mem_cons.mp hp with rfl | hp
          · exact N _ (h3 _ (.tail _ (.tail _ (.head _))))
          · exact N p hp) (fun h' tk F' N' => h h' tk F' fun p hp => N' p (.tail _ (.tail _ (.tail _ hp))))
      | false => exact @sec_noneN_o w E s h₀ L fa cd mg mb p loose mean Q rest nx t tc c x dx tu (clsAt c)  B X₀ T KG h7 hs  F (fun p hp => by
          rcases List.mem_cons.mp hp with rfl | hp
          · exact N _ (h3 _ (.head _))
          rcases List.mem_cons.mp hp with rfl | hp
          · exact N _ (h3 _ (.tail _ (.head _)))
          rcases List.mem_cons.mp hp with rfl | hp
          · exact N _ (h3 _ (.tail _ (.tail _ (.head _))))
          · exact N p hp) (fun h' tk F' N' => h h' tk F' fun p hp => N' p (.tail _ (.tail _ (.tail _ hp))))
    | @int iv ti a b => exact @sec_int_o w E s h₀ L fa cd mg mb p loose mean Q rest nx t tc c x dx tu (clsAt c) iv ti pl B X₀ T KG h7 hs (log_small a b) (Nat.le_trans (PyProof.Rows.toString_length_le a (k := 6) (by decide) b) (by decide)) F (fun p hp => by
          rcases List.mem_cons.mp hp with rfl | hp
          · exact N _ (h3 _ (.head _))
          rcases List.mem_cons.mp hp with rfl | hp
          · exact N _ (h3 _ (.tail _ (.head _)))
          rcases List.mem_cons.mp hp with rfl | hp
          · exact N _ (h3 _ (.tail _ (.tail _ (.head _))))
          · exact N p hp) (fun h' tk F' N' => h h' tk F' fun p hp => N' p (.tail _ (.tail _ (.tail _ hp))))
    | @str sv ti a => exact @sec_str_o w E s h₀ L fa cd mg mb p loose mean Q rest nx t tc c x dx tu (clsAt c) sv ti pl B X₀ T KG h7 hs a F (fun p hp => by
          rcases List.mem_cons.mp hp with rfl | hp
          · exact N _ (h3 _ (.head _))
          rcases List.mem_cons.mp hp with rfl | hp
          · exact N _ (h3 _ (.tail _ (.head _)))
          rcases List.mem_cons.mp hp with rfl | hp
          · exact N _ (h3 _ (.tail _ (.tail _ (.head _))))
          · exact N p hp) (fun h' tk F' N' => h h' tk F' fun p hp => N' p (.tail _ (.tail _ (.tail _ hp))))
    | @list a => exact @sec_list_o w E s h₀ L fa cd mg mb p loose mean Q rest nx t tc c x dx tu (clsAt c) a pl B X₀ T KG h7 hs  F (fun p hp => by
          rcases List.mem_cons.mp hp with rfl | hp
          · exact N _ (h3 _ (.head _))
          rcases List.mem_cons.mp hp with rfl | hp
          · exact N _ (h3 _ (.tail _ (.head _)))
          rcases List.mem_cons.mp hp with rfl | hp
          · exact N _ (h3 _ (.tail _ (.tail _ (.head _))))
          rcases List.mem_cons.mp hp with rfl | hp
          · exact N _ (h3 _ (.tail _ (.tail _ (.tail _ (.head _)))))
          · exact N p hp) (fun h' tk F' N' => h h' tk F' fun p hp => N' p (.tail _ (.tail _ (.tail _ (.tail _ hp)))))
local macro_rules | `(tactic| k_all) => `(tactic| assumption)
set_option maxHeartbeats 1000000 in
theorem turn2 (B : Below callerA h₀ [] h₀) (X₀ : (hd.heap_39 w.params).In h₀) (T : Top p loose mean mg mb h₀) (he : e.ok) (F : Fr h₀ L s.heap m) (N : News h₀ L s.heap nx) (hfam : ∀ p ∈ e.fam w.params, p ∈ nx)
    (h : ∀ m' h' tk, Fr h₀ L h' m' → News h₀ L h' nx → Q .next { s with heap := h', toks := tk }) :
    wpAny (model prg4 w) (callerA.deeper (env4 w.params L fa cd)) (assign (lawTgt2 (hd.heap_39 w.params)) (env4 w.params L fa cd) (.ref e.q))
      (fun _ s₂ => wpC (model prg4 w) (callerA.deeper (env4 w.params L fa cd)) (execs (lawFor2 (hd.heap_39 w.params)) (env4 w.params L fa cd)) Q (fun _ _ => False) s₂) (fun _ _ => False) s := by
  have : PySem.Challenge.rw_dm0089_04 = PySem.Challenge.rw_dm0089_04 ∧ hd.heap_39 = hd.heap_39 := by (k_fill; exact ⟨rfl, rfl⟩)
  clear this
  have e1 : lawTgt2 (hd.heap_39 w.params) = lawTgt2 (hd.heap_39 w.params) := rfl
  conv at e1 => rhs; whnf
  rw [e1]
  clear e1
  have N1 := kst_newsOf N (List.forall_mem_cons.mpr ⟨hfam _ (.head _), fun p hp => hp⟩)
  have b2 : ∀ (h1 : Heap) (tk1 : Nat), Fr h₀ L h1 (m2 m e.x e.c e.tc e.v e.pl) → News h₀ L h1 nx → wpC (model prg4 w) (callerA.deeper (env4 w.params L fa cd)) (execs (lawFor2 (hd.heap_39 w.params)) (env4 w.params L fa cd)) Q (fun _ _ => False) { s with heap := h1, toks := tk1 } :=
    fun h1 tk1 F1 N1 => wpC_any (body2 (rest := m) B X₀ T he F1 N1 hfam fun h' tk F' N' => h _ h' tk F' N')
  have e2 : lawScope (hd.heap_39 w.params) = lawScope (hd.heap_39 w.params) := rfl
  conv at e2 => rhs; whnf
  dsimp only [env4] at b2 ⊢
  rw [e2] at b2 ⊢
  clear e2 h N
  w_strict k_steps
  rename Fr h₀ L _ _ => F9
  rename News h₀ L _ _ => N9
  exact b2 _ _ F9 fun p hp => N9 p (.tail _ hp)
end
end Mine
end

-- part W50
section
open PySem PySem.W PySem.Calls PyProof.Rows PyProof.V PySem.Spec
namespace Mine
def lawRest (K : Frag) : List Stmt := (lawBody K).drop 4
abbrev setLed (x : Fx) (a2 : Addr) (o2 : Obj) : List (Addr × Obj) := [(x.S, shapesO x), (x.T 7, tupO x 7), (x.Nm 7, nmO x 7), (x.T 6, tupO x 6), (x.Nm 6, nmO x 6), (x.T 5, tupO x 5), (x.Nm 5, nmO x 5), (x.T 4, tupO x 4), (x.Nm 4, nmO x 4), (x.T 3, tupO x 3), (x.Nm 3, nmO x 3), (x.T 2, tupO x 2), (x.Nm 2, nmO x 2), (x.T 1, tupO x 1), (x.Nm 1, nmO x 1), (x.T 0, tupO x 0), (x.Nm 0, nmO x 0), (x.Ki, kindsO)]
section
variable {w : World} {s : Shared} {h₀ : Heap} {L fa : Addr} {cd : Value} {mg mb : Str → Option Value} {p : Program} {loose : List Str} {mean : ExcName → Option Value} {Q : Flow → Shared → Prop} {x : Fx} {ns : List Int} {m : Str → Option Value} {oc o2 : Obj} {a2 : Addr} {ocv : Option Value}
theorem tgt2 (P : Params) : ∃ elts xc tp, lawTgt2 (hd.heap_39 P) = .Tuple elts xc tp := ⟨_, _, _, rfl⟩
local macro_rules | `(tactic| k_all) => `(tactic| assumption)
local macro_rules | `(tactic| walk_at "pyIter ref") => `(tactic| (k_here; refine Halt.out ?_))
set_option maxHeartbeats 4000000 in
theorem afterSetup (B : Below callerA h₀ [] h₀) (X₀ : (hd.heap_39 w.params).In h₀) (T : Top p loose mean mg mb h₀) (hI : IntsAre x.ws ns) (hn : ns.length ≤ 64) (hca : x.ca = L + 1) (hoc : oc.data = .cell ocv)
    (F : Fr h₀ L s.heap (mB x m)) (N : News h₀ L s.heap ((x.R, W.listOf x.ws.toArray 0) :: (a2, o2) :: (x.H, W.listOf #[] 0) :: (setLed x a2 o2 ++ [(L + 1, oc)])))
    (n1 : ∀ p ∈ (x.R, W.listOf x.ws.toArray 0) :: (x.H, W.listOf #[] 0) :: setLed x a2 o2, p.1 ≠ L + 1) (n2 : ∀ p ∈ (x.R, W.listOf x.ws.toArray 0) :: setLed x a2 o2, p.1 ≠ x.H)
    (h : ∀ m' nx' h' tk, Fr h₀ L h' m' → News h₀ L h' nx' → Q (.ret (.bool true)) { s with heap := h', toks := tk }) :
    wpC (model prg4 w) (callerA.deeper (env4 w.params L fa cd)) (execs (lawRest (hd.heap_39 w.params)) (env4 w.params L fa cd)) Q (fun _ _ => False) s := by
  have : PySem.Challenge.rw_dm0089_04 = PySem.Challenge.rw_dm0089_04 ∧ hd.heap_39 = hd.heap_39 := by (k_fill; exact ⟨rfl, rfl⟩)
  clear this
  have e1 : lawRest (hd.heap_39 w.params) = lawRest (hd.heap_39 w.params) := rfl
  conv at e1 => rhs; whnf
  rw [e1]
  clear e1
  have ap : Apart x L := ⟨hca, n1 _ (.tail _ (.head _)), n1 _ (.head _), n1 (x.Ki, kindsO) (by k_mem), n1 _ (.tail _ (.tail _ (.head _))), n2 _ (.head _), n2 (x.Ki, kindsO) (by k_mem), n2 _ (.tail _ (.head _))⟩
  refine wpC_execs_cons (wpC_For ?_)
  have e2 : lawScope (hd.heap_39 w.params) = lawScope (hd.heap_39 w.params) := rfl
  conv at e2 => rhs; whnf
  dsimp only [env4]
  rw [e2]
  w_strict k_steps
  refine Halt.go ?_
  rename IsRange _ _ _ _ _ _ _ _ => rg
  rename Fr h₀ L _ _ => F1
  rename News h₀ L _ _ => N1
  have mm : ∀ q ∈ ((L + 1, oc) :: (x.H, heldO [] 0) :: (x.R, W.listOf x.ws.toArray 0) :: (x.Ki, kindsO) :: (x.S, shapesO x) :: setLed x a2 o2 : List (Addr × Obj)), q ∈ (x.R, W.listOf x.ws.toArray 0) :: (a2, o2) :: (x.H, W.listOf #[] 0) :: (setLed x a2 o2 ++ [(L + 1, oc)]) := by
    intro q hq
    rcases List.mem_cons.mp hq with rfl | hq
    · exact .tail _ (.tail _ (.tail _ (List.mem_append.mpr (.inr (.head _)))))
    rcases List.mem_cons.mp hq with rfl | hq
    · exact .tail _ (.tail _ (.head _))
    rcases List.mem_cons.mp hq with rfl | hq
    · exact .head _
    rcases List.mem_cons.mp hq with rfl | hq
    · exact .tail _ (.tail _ (.tail _ (List.mem_append.mpr (.inl (by k_mem)))))
    rcases List.mem_cons.mp hq with rfl | hq
    · exact .tail _ (.tail _ (.tail _ (.head _)))
    · exact .tail _ (.tail _ (.tail _ (List.mem_append.mpr (.inl hq))))
  refine loopC_range (n := ns.length) (news := (L + 1, oc) :: (x.H, heldO [] 0) :: (x.R, W.listOf x.ws.toArray 0) :: (x.Ki, kindsO) :: (x.S, shapesO x) :: setLed x a2 o2) (J4 w.params x L) rfl rg (by omega) rfl rfl F1 (fun p hp => N1 p (by repeat' (first | exact mm p hp | refine List.Mem.tail _ ?_))) ?J0 ?turn ?done
  case J0 =>
    refine ⟨[], oc, 0, setLed x a2 o2, rfl, Nat.le_refl _, ⟨⟨_, hoc⟩, (fun e he => nomatch he), ?shp, (fun p hp => n1 p (.tail _ (.tail _ hp))), (fun p hp => n2 p (.tail _ hp))⟩, ⟨rfl, rfl, rfl, rfl⟩⟩
    intro k hk
    have hk' : k = 0 ∨ k = 1 ∨ k = 2 ∨ k = 3 ∨ k = 4 ∨ k = 5 ∨ k = 6 ∨ k = 7 := by omega
    rcases hk' with rfl | rfl | rfl | rfl | rfl | rfl | rfl | rfl <;> exact ⟨by k_mem, by k_mem⟩
  case turn =>
    intro i t m1 nx h1 tk1 own hi off hJ F2 N2
    rw [← e2]
    exact turn04 B X₀ T hI hn hi ap off hJ F2 N2
  case done =>
    intro m1 nx h1 tk1 hJ F2 N2
    obtain ⟨es, oc', nH, rest', rfl, hlen, led, vars⟩ := hJ
    dsimp only
    refine wpC_execs_cons (wpC_For ?_)
    refine wpAny_Name (wpAny_loadName_local rfl rfl (Fr.ns F2) vars.held ?_) (by decide)
    refine loopC_listT (l := x.H) (vs := es.map fun e => Value.ref e.q) (nn := nH) (fun _ _ nx' => nx' = (L + 1, oc') :: (x.H, heldO es nH) :: (x.R, W.listOf x.ws.toArray 0) :: (x.Ki, kindsO) :: (x.S, shapesO x) :: rest') rfl (.tail _ (.head _)) F2 N2 rfl ?keep ?refs ?turn2 ?done2
    case keep => rintro i m nx rfl; exact .tail _ (.head _)
    case refs =>
      intro v hv
      obtain ⟨e, _, rfl⟩ := List.mem_map.mp hv
      exact ⟨_, rfl⟩
    case turn2 =>
      rintro i v m2 nx h2 tk2 own hv off rfl F3 N3
      rw [List.getElem?_map] at hv
      obtain ⟨e, he, rfl⟩ := Option.map_eq_some_iff.mp hv
      have hmem := List.mem_of_getElem? he
      rw [← e2]
      refine turn2 B X₀ T (led.held e hmem).1 F3 N3 (fun p hp => List.mem_append.mpr (.inl (.tail _ (.tail _ (.tail _ (.tail _ (.tail _ ((led.held e hmem).2 p hp)))))))) fun m' h' tk F' N' => ?_
      exact ⟨h', tk, m', _, _, rfl, F', N', fun p hp => List.mem_append.mpr (.inl hp), fun p hp => List.mem_append.mpr (.inr hp), off, rfl⟩
    case done2 =>
      rintro m2 nx h2 tk2 rfl F3 N3
      dsimp only
      refine wpC_any ?_
      clear F1 N1 F2 N2
      w_strict k_steps
      exact h _ _ _ _ F3 N3
end
end Mine
end

-- part X04f
section
open PySem PySem.W PySem.Calls PyProof.Rows
open Mine
set_option maxHeartbeats 8000000 in
theorem PySem.Challenge.cw_dm0089_04_holds : PySem.Challenge.rw_dm0089_04.Holds := by
  refine hd ?_
  k_fill
  intro w s₀ s₁ mg mb G Y fa o pm cd doc dV kV ho hd hcd hD hmg hg args vals as hpre hlay hrd hwl hlo
  have KX := kIn_of Y
  have X := (Ground.X G).1
  have V := (Ground.X G).2
  try w_nolog (first | (have GL := glob_more (Ground.glob G (by first | k_qdec | decide +kernel) (by first | k_qdec | decide +kernel)) V) | (have GL := glob_more (Ground.glob G (by decide +kernel)) V))
  refine Ground.open G ?_
  intro T B D TE TW
  try (refine guard_noD D (by decide +kernel) ?_; clear D)
  obtain ⟨_, _, M⟩ := bmod_of_top T
  have TA := at_of_top T
  try (obtain ⟨_, _, he, B0⟩ := based_of_top T rfl hmg ho hd; have he' : cd = _ := he; subst he'; clear he)
  clear hmg
  wrow_args hpre hlay hrd hwl hlo
  refine enterC ?_
  w_top on
  have K0 := below_caller (Top.heap T)
  have he := Dflts.none hD rfl; subst he; have he := Dflts.noKw hD; subst he
  refine call_cellsC (by decide) ho (fd_plain hd) (Top.nolimit T) hcd rfl (kinds_of (by kinds_ok)) (by decide) fun h₁ tk₁ cells F N0 X0 => ?_
  cells_open X0
  clear hd TA
  k_drop
  refine execsA ?_
  w_strict k_steps
  refine execsA ?_
  w_strict k_steps
  refine execsA ?_
  w_strict k_steps
  refine execsA ?_
  w_strict k_steps
  rename Fr _ _ _ _ => F9
  rename News _ _ _ _ => N9
  rename IntsAre _ (_ ++ _) => hI9
  refine' afterSetup (x := ⟨_, _, _, _, _, fun k => match k with | 0 => _ | 1 => _ | 2 => _ | 3 => _ | 4 => _ | 5 => _ | 6 => _ | _ => _, fun k => match k with | 0 => _ | 1 => _ | 2 => _ | 3 => _ | 4 => _ | 5 => _ | 6 => _ | _ => _, fun k => match k with | 0 => _ | 1 => _ | 2 => _ | 3 => _ | 4 => _ | 5 => _ | 6 => _ | _ => _, fun k => match k with | 1 => _ | 2 => _ | 4 => _ | 6 => _ | _ => _, fun _ => _, _⟩) K0 KX T hI9 ?len rfl ?cell F9 N9 ?n1 ?n2 ?fin
  case cell => assumption
  case len => (rw [List.length_append]; show _ + 1 ≤ 64; omega)
  case n1 => (repeat' (first | exact List.forall_mem_nil _ | refine List.forall_mem_cons.mpr ⟨?_, ?_⟩)) <;> (refine neN ?_; (with_unfolding_all show @Ne Nat _ _); (try dsimp only [Fx.T, Fx.Nm, Fx.R, Fx.H, Fx.S, Fx.Ki]); (try simp only []); omega)
  case n2 => (repeat' (first | exact List.forall_mem_nil _ | refine List.forall_mem_cons.mpr ⟨?_, ?_⟩)) <;> (refine neN ?_; (with_unfolding_all show @Ne Nat _ _); (try dsimp only [Fx.T, Fx.Nm, Fx.R, Fx.H, Fx.S, Fx.Ki]); (try simp only []); omega)
  case fin =>
    intro m8 nx8 h8 tk8 F8 N8
    refine ⟨.inl ⟨_, _, [], rfl, (fun _ => rfl), ReadsW.bool true, ?_, fun _ => ⟨List.nodup_nil, fun _ hm => nomatch hm⟩⟩, ?_, rfl, .of_eq hg⟩
    · first | rfl | wrow_post
    · exact .of_keep F8.keep
end
