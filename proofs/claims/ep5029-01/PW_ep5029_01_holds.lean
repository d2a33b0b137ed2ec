import PyProof.Rows.All
import Wide.All
import OpenK.AllK
import Wide.FinOn
import PySem.Challenge.RW_ep5029_01
set_option Elab.async false
section Hd
open PySem PySem.W PyProof.Rows
namespace Mine
set_option maxRecDepth 100000 in
set_option maxHeartbeats 8000000 in
open_top hd for PySem.Challenge.rw_ep5029_01
end Mine
end Hd
section Base
set_option maxRecDepth 100000
namespace Mine
open PySem PySem.W PySem.Spec PySem.Calls PyProof.Rows


noncomputable abbrev Vw : Program := Mine.hd.view_39
noncomputable abbrev Lo : List Str := looseW Mine.hd.view_39 [Str.ofString "SHORT_STRING"]

end Mine
end Base
section Exc1
set_option maxRecDepth 100000
namespace Mine
open PySem PySem.W PySem.Spec PySem.Calls PyProof.Rows
open Sem (wp)

section
variable {prog : Program} {w : World} {A : Around} {E : Value → Shared → Prop} {h : Heap} {g : Array GenState} {d : Drawn} {t : Nat} {os : OsState}
variable {nm q : Str} {C N : Addr} {bs bm bmB : List Value} {hdct : Bool} {sn : List Str} {sub : List Value} {ab : Bool} {col : Option Bool} {dd : Option Addr} {k0 k1 k2 k3 k5 : Option Value} {B newId initId : String}

def excObj (C tp : Addr) (d : Option Addr) : Obj := { cls := .ref C, dict := d, data := .fields #[.ref tp, .none, .none, .none, .bool false, .none] }

theorem type_call_own (F : ExcBaseFacts B newId initId bmB) (T : OwnTail h bmB bm) {mN : Str → Option Value} {f : Addr} {of : Obj} {rest : List Value} {Q : Fin → Shared → Prop}
    (hC : h.get? C = some (excClassObj nm q C N bs bm hdct sn sub ab col dd k0 k1 k2 k3 k5 newId)) (hn : h.Ns N mN) (hni : mN "__init__" = some (.ref f)) (hf : h.get? f = some of) (hfc : of.cls = .type "function")
    (hq : wpAny (model prog w) A (call (.ref f) (.ref (h.objs.size + 1) :: rest)) (fun v s' => v = .none ∧ Q (.done (.ret (.ref (h.objs.size + 1)))) s') E
       ⟨(h.push { cls := .type "tuple", data := .seq rest.toArray }).push (excObj C h.objs.size none), g, d, t, os⟩) (hrest : rest.length ≤ sizeLine := by size_fits) :
    wpAny (model prog w) A (Builtin.«type.__call__» ⟨.ref C :: rest, []⟩) Q E ⟨h, g, d, t, os⟩ := by
  unfold excObj at hq
  repeat (first | with_reducible refine wpAny_loadPart_at hC ?_ | with_reducible refine wpAny_madeBy_exc hC ?_ | wp_step)
  refine codeAny_call_builtin_code (Code.quiet_builtin _ F.quiet) (wpAny_check_new_subT F T hC ?_)
  refine codeAny_exc_new_subT F T hC ?_ hrest
  show wpAny _ _ _ _ _ _
  have hC₁ := Heap.get?_push_of_some { cls := .ref C, data := .fields #[.ref h.objs.size, .none, .none, .none, .bool false, .none] }
    (Heap.get?_push_of_some { cls := .type "tuple", data := .seq rest.toArray } hC)
  have hf₁ := Heap.get?_push_of_some { cls := .ref C, data := .fields #[.ref h.objs.size, .none, .none, .none, .bool false, .none] }
    (Heap.get?_push_of_some { cls := .type "tuple", data := .seq rest.toArray } hf)
  have hn₁ : ((h.push { cls := .type "tuple", data := .seq rest.toArray }).push { cls := .ref C, data := .fields #[.ref h.objs.size, .none, .none, .none, .bool false, .none] }).Ns N mN :=
    let ⟨o, es, ep, e, r⟩ := hn; ⟨o, es, ep, Heap.get?_push_of_some _ (Heap.get?_push_of_some _ e), r⟩
  have hget : ((h.push { cls := .type "tuple", data := .seq rest.toArray }).push
      { cls := .ref C, data := .fields #[.ref h.objs.size, .none, .none, .none, .bool false, .none] }).get? (h.objs.size + 1) = some
      { cls := .ref C, data := .fields #[.ref h.objs.size, .none, .none, .none, .bool false, .none] } := by heap_get
  have hcC : (Value.ref C :: bm).contains (.ref C) = true := by simp
  have T₁ := T.keeps (h' := (h.push { cls := .type "tuple", data := .seq rest.toArray }).push { cls := .ref C, data := .fields #[.ref h.objs.size, .none, .none, .none, .bool false, .none] })
    fun b o e => Heap.get?_push_of_some _ (Heap.get?_push_of_some _ e)
  unfold isInstance
  repeat (first | with_reducible refine wpAny_loadPart_at hget ?_ | (with_reducible refine wpAny_isSubtype_exc hC₁ ?_; rw [hcC]) | wp_step)
  show wpAny _ _ (typeLookup (.ref C) _) _ _ _
  refine wpAny_typeLookup_tail hC₁ hn₁ T₁ F.mroIs F.init.lookup ?_
  rw [hni]
  refine wpAny_holding (wpAny_bind (wpAny_bindSpecial_def hf₁ hfc ?_))
  refine wpAny_bind (wpAny_mono hq (fun v s' hv => ?_) fun _ _ z => z)
  obtain ⟨rfl, hv⟩ := hv
  wp_walk
  exact hv
end
end Mine
end Exc1
section Exc2
set_option maxRecDepth 100000
namespace Mine
open PySem PySem.W PySem.Spec PySem.Calls PyProof.Rows
open Sem (wp)

theorem slot_wd_get : Slot "wrapper_descriptor" "__get__" "wrapper_descriptor.__get__" :=
  .of (owner := "wrapper_descriptor") (n := "__get__") (by rw [typeLookup_type, builtinLookup_eq_fast]; kernel_rfl) (by decide +kernel) (by decide +kernel) (by decide +kernel)
    (by first | exact .inl (by decide +kernel) | exact .inr (by decide +kernel)) (by rw [isSubtype_type]; kernel_rfl)
theorem entry_wd_get : entryFor table "wrapper_descriptor.__get__" = some Builtin.«wrapper_descriptor.__get__» := entryFor_of_tree (by kernel_rfl)
theorem args_wd_get (a b c : Value) : argsOk "wrapper_descriptor.__get__" ⟨[a, b, c], []⟩ := by unfold argsOk; kernel_rfl
theorem owner_ei : (kfb_private% "ownerAndName") "Exception.__init__" = ("Exception", "__init__") := by first | decide +kernel | kernel_rfl
theorem type_ei : typeOf (.builtin "Exception.__init__") = pure (.type "wrapper_descriptor") := by show builtinType _ = _; rw [builtinType_eq_fast]; kernel_rfl
section
variable {M : Model} {A : Around} {E : Value → Shared → Prop} {h : Heap} {g : Array GenState} {d : Drawn} {t : Nat} {os : OsState}
def mwObj (x : Addr) : Obj := { cls := .type "method-wrapper", data := .fields #[.builtin "Exception.__init__", .ref x] }
theorem wd_get {x C : Addr} {Q : Fin → Shared → Prop} (hi : Looks M h (isInstance (.ref x) (.type "Exception")) true)
    (hq : Q (.done (.ret (.ref h.objs.size))) ⟨h.push (mwObj x), g, d, t, os⟩) :
    wpAny M A (Builtin.«wrapper_descriptor.__get__» ⟨[.builtin "Exception.__init__", .ref x, .ref C], []⟩) Q E ⟨h, g, d, t, os⟩ := by
  unfold Builtin.«wrapper_descriptor.__get__»
  refine wpAny_bind (wpAny_of_eq (a := (.builtin "Exception.__init__", some (.ref x), some (.ref C))) (by first | rfl | kernel_rfl) ?_)
  refine wpAny_bind (m := (kfb_private% "checkInstance") _ _) ?_
  refine wpAny_bind (m := (kfb_private% "nameAndClass") _) (wpAny_of_eq (a := (("__init__" : Str), Value.type "Exception")) (by first | kernel_rfl | rfl) ?_)
  refine wpAny_bind (hi.here ?_)
  refine wpAny_ite ?_
  simp only [Bool.not_true, Bool.false_eq_true, if_false]
  exact wpAny_pure (wpAny_bind (wpAny_newObj_type (wpAny_pure hq)))
end
section
variable {prog : Program} {w : World} {M : Model} {A : Around} {E : Value → Shared → Prop} {h : Heap} {g : Array GenState} {d : Drawn} {t : Nat} {os : OsState}

theorem super_ga_init {so D x C : Addr} {l₀ l : List Value} {K : Frag} {tk : Tok} {Q : Fin → Shared → Prop}
    (hso : h.get? so = some { cls := .type "super", dict := none, data := .fields #[.ref D, .ref x, .ref C], slots := #[] }) (hno : Looks (model prog w) h (opaqueClassAbove (.ref C)) none)
    (hC : Looks (model prog w) h (mroOf (.ref C)) l₀) (hl : (l₀.dropWhile (· != .ref D)).drop 1 = l) (X : K.In h)
    (hf : alongIn K "__init__" l = some (some (.builtin "Exception.__init__"))) (hi : Looks (model prog w) h (isInstance (.ref x) (.type "Exception")) true) (hxC : x ≠ C)
    (hq : Q (.done (.ret (.ref h.objs.size))) ⟨h.push (mwObj x), g, d, t, os⟩) :
    wpAny (model prog w) A (Builtin.«super.__getattribute__» ⟨[.ref so, .str "__init__" tk], []⟩) Q E ⟨h, g, d, t, os⟩ := by
  have hlk := slot_wd_get.lookup
  have hne : (Value.ref x == Value.ref C) = false := by simp [hxC]
  have hn : (("__init__" : Str) == ("__class__" : Str)) = false := by decide
  have hdt : ({ cls := .type "super", dict := none, data := .fields #[.ref D, .ref x, .ref C], slots := #[] } : Obj).data = .fields #[.ref D, .ref x, .ref C] := rfl
  have f0 : (#[.ref D, .ref x, .ref C] : Array Value)[0]? = some (.ref D) := rfl
  have f1 : (#[.ref D, .ref x, .ref C] : Array Value)[1]? = some (.ref x) := rfl
  have f2 : (#[.ref D, .ref x, .ref C] : Array Value)[2]? = some (.ref C) := rfl
  unfold Builtin.«super.__getattribute__»
  repeat (first
    | (with_reducible refine wpAny_field hso hdt f0 ?_) | (with_reducible refine wpAny_field hso hdt f1 ?_) | (with_reducible refine wpAny_field hso hdt f2 ?_)
    | (with_reducible refine ks_wpAny_notOpaque hno ?_)
    | (with_reducible refine Looks.at hC ?_; rw [hl])
    | (refine ks_forIn_along X (fun _ _ => rfl) rfl ?_ hf)
    | (with_reducible refine wpAny_bind (wpAny_of_eq type_ei ?_))
    | (with_reducible refine wpAny_of_eq type_ei ?_)
    | (refine wpAny_call_entry slot_wd_get type_ei entry_wd_get (wd_get hi ?_) (args_wd_get _ _ _))
    | (with_reducible refine ⟨_, rfl, ?_⟩)
    | (simp only [hn, hne, Bool.or_false, Bool.false_eq_true, if_false])
    | wp_step
    | dsimp only)
  all_goals exact hq
end
end Mine
end Exc2
section Exc3
set_option maxRecDepth 100000
namespace Mine
open PySem PySem.W PySem.Spec PySem.Calls PyProof.Rows
open Sem (wp)

section
variable {prog : Program} {w : World} {A : Around} {E : Value → Shared → Prop} {h : Heap} {g : Array GenState} {d : Drawn} {t : Nat} {os : OsState}

theorem refuse_exc (self : Value) : refuseLoop self "__setattr__" [.type "Exception", .type "BaseException", .type "object"] = pure () := by
  first | kernel_rfl | (unfold refuseLoop; kernel_rfl)

/-- what stands behind self.rlp = v -/
structure Stored (w : World) (h h' : Heap) (x tp dx : Addr) (v : Value) : Prop where
  keep : ∀ b o, b ≠ x → h.get? b = some o → h'.get? b = some o
  at_ : h'.get? x = some (excObj 46 tp (some dx))
  dict : ∃ tk, h'.get? dx = some (dictOf [⟨PyData.keyHash w.params "rlp", .str "rlp" tk, v⟩] 1)
  fresh : h.get? dx = none

theorem set_rlp {x tp : Addr} {v : Value} {Q : Unit → Shared → Prop} (X : (Mine.hd.heap_39 w.params).In h) (hx : h.get? x = some (excObj 46 tp none)) (hxK : (Mine.hd.heap_39 w.params).lookup x = none)
    (hq : ∀ h' dx t', Stored w h h' x tp dx v → Q () ⟨h', g, d, t', os⟩) : wpAny (model prog w) A (setAttr (.ref x) "rlp" v) Q E ⟨h, g, d, t, os⟩ := by
  have I : InstAt h x (excObj 46 tp none) 46 none := ⟨hx, rfl, rfl, trivial⟩
  refine set_plain (s := ⟨h, g, d, t, os⟩) X I (by rfl) ?_
  have SF := PySem.F.store_object
  have sub : Looks (model prog w) h (isInstance (.ref x) (.type "object")) true := I.type.andThen (looks_mroIn X (by rfl))
  refine codeAny_call_builtin SF.slot.plain SF.entry (@check_slot (model prog w) _ _ _ "object.__setattr__" "object" "__setattr__" (.ref x) [.str _ _, v] [] _ SF.kind SF.split sub (SF.args (.ref x) (.str _ _) v) ?_)
  have hm : Looks (model prog w) h (mroOf (.ref 46)) [.ref 46, .ref 24, .type "Exception", .type "BaseException", .type "object"] := (looks_clsIn X (by rfl)).andThen .now
  have ha : findIn (Mine.hd.heap_39 w.params) (.ref 46) "rlp" = some none := by rfl
  rw [osa_eq, refuse_eq]
  refine wpAny_bind (wpAny_bind (I.type.here (wpAny_bind (hm.here ?_))))
  rw [refuseLoop_ref, refuseLoop_ref, refuse_exc]
  refine wpAny_pure (wpAny_bind (I.type.here (wpAny_bind ((looks_findIn X ha).here (wpAny_bind (wpAny_pure ?_))))))
  dsimp only
  have hxlt := Heap.lt_size hx
  have hc : clsIn (Mine.hd.heap_39 w.params) 46 = some { name := "DecodingError", bases := [.ref 24], mro := [.ref 46, .ref 24, .type "Exception", .type "BaseException", .type "object"], ns := 45, qualname := "DecodingError" } := by rfl
  refine wpAny_bind (wpAny_pure (wpAny_bind (wpAny_bind (wpAny_loadPart hx (wpAny_bind ((looks_clsIn X hc).here ?_))))))
  refine wpAny_ite (W.ite_neg (by decide) ?_)
  refine wpAny_ite (W.ite_neg (show ¬ ((!true || !typeHasDict (.ref 46)) = true) from by decide) ?_)
  have hx₁ := Heap.get?_push_of_some { cls := .type "dict", data := .dict #[] } hx
  refine wpAny_bind (wpAny_alloc (wpAny_bind (wpAny_update hx₁ ?_)))
  refine wpAny_pure ?_
  dsimp only
  refine wpAny_bind (wpAny_pure (wpAny_bind ?_))
  have hne : x ≠ h.objs.size := Nat.ne_of_lt hxlt
  have hd₂ : ((h.push { cls := .type "dict", data := .dict #[] }).update x fun o => { cls := o.cls, dict := some h.objs.size, data := o.data, slots := o.slots }).get? h.objs.size = some { cls := .type "dict", data := .dict #[] } := by
    rw [Heap.get?_update_other _ _ hne]; exact Heap.get?_push_size _ rfl
  have hx₂ : ((h.push { cls := .type "dict", data := .dict #[] }).update x fun o => { cls := o.cls, dict := some h.objs.size, data := o.data, slots := o.slots }).get? x = some (excObj 46 tp (some h.objs.size)) :=
    Heap.get?_update_self _ hx₁ rfl
  unfold nsSet
  refine wpAny_bind (wpAny_bind (wpAny_askSetting (wpAny_pure (wpAny_bind (wpAny_mkText (wpAny_bind (wpAny_loadPart hd₂ ?_)))))))
  dsimp only
  refine wpAny_ite (W.ite_neg (by decide) ?_)
  have hd₃ := Heap.get?_update_self (Obj.putName "rlp" (PyData.keyHash w.params "rlp") (.str "rlp" (t + 1)) v) hd₂ rfl
  refine wpAny_updatePart hd₂ (wpAny_bind (wpAny_lookBehind hd₃ ?_ (wpAny_pure (hq _ h.objs.size _ ⟨fun b o hb e => ?_, ?_, ⟨t + 1, ?_⟩, Heap.get?_none_of_le (Nat.le_refl _)⟩))))
  · exact pastItsLine_dict (by show 1 ≤ _; rw [sizeLine_eq]; omega)
  · have hbs : h.objs.size ≠ b := Nat.ne_of_gt (Heap.lt_size e)
    rw [Heap.get?_update_other _ _ hbs, Heap.get?_update_other _ _ (Ne.symm hb)]
    exact Heap.get?_push_of_some _ e
  · rw [Heap.get?_update_other _ _ (Ne.symm hne)]; exact hx₂
  · exact hd₃
end
end Mine
end Exc3
section Exc4
set_option maxRecDepth 100000
namespace Mine
open PySem PySem.W PySem.Spec PySem.Calls PyProof.Rows
open Sem (wp)

section
variable {prog : Program} {w : World} {A : Around} {E : Value → Shared → Prop} {h : Heap} {g : Array GenState} {d : Drawn} {t : Nat} {os : OsState}

theorem getMethod_super_init {so D x C : Addr} {l₀ l : List Value} {K : Frag} {pl : Sem Bool} {Q : Value × List Value → Shared → Prop}
    (hso : h.get? so = some { cls := .type "super", dict := none, data := .fields #[.ref D, .ref x, .ref C], slots := #[] }) (hno : Looks (model prog w) h (opaqueClassAbove (.ref C)) none)
    (hC : Looks (model prog w) h (mroOf (.ref C)) l₀) (hl : (l₀.dropWhile (· != .ref D)).drop 1 = l) (X : K.In h)
    (hf : alongIn K "__init__" l = some (some (.builtin "Exception.__init__"))) (hi : Looks (model prog w) h (isInstance (.ref x) (.type "Exception")) true) (hxC : x ≠ C)
    (hq : Q (.ref h.objs.size, []) ⟨h.push (mwObj x), g, d, t + 1, os⟩) :
    wpAny (model prog w) A (getMethod (.ref so) "__init__" pl) Q E ⟨h, g, d, t, os⟩ := by
  have hlk := F.ks_slot_super_ga.lookup
  have hcan := F.ks_canon_super_ga
  have hT : ∀ t', (⟨h, g, d, t', os⟩ : Shared).TypeIs (.ref so) "super" := fun _ => ⟨_, hso, rfl⟩
  unfold getMethod
  refine wpAny_bind (wpAny_specialOf (hT _) hlk ?_)
  show wpAny _ _ (if (Manifest.canonical "super.__getattribute__" != "object.__getattribute__") = true then _ else _) _ _ _
  rw [if_pos hcan]
  unfold getAttr getAttrBy
  refine wpAny_bind (wpAny_bind (wpAny_mkText (wpAny_holding (wpAny_bind (wpAny_typeOf (hT _) (wpAny_bind (wpAny_of_eq hlk ?_)))))))
  show wpAny _ _ (getAttrByItsOwn (.ref so) (.str "__init__" t) (.type "super") (.builtin "super.__getattribute__") true false) _ _ _
  unfold getAttrByItsOwn hookBefore callGetattribute boundAndCalled
  refine wpAny_bind (wpAny_of_eq (show (if onTheHeap (.type "super") then typeLookup (.type "super") "__getattr__" else pure none) = pure none from rfl) ?_)
  refine wpAny_bind (wpAny_attempt (wpAny_holding ?_))
  show wpAny _ _ (bindSpecial (.builtin "super.__getattribute__") (.ref so) >>= _) _ _ _
  refine wpAny_bind (wpAny_of_eq (F.ks_slot_super_ga.bind _) ?_)
  refine wpAny_mono (Q := fun v s' => v = .ref h.objs.size ∧ s' = ⟨h.push (mwObj x), g, d, t + 1, os⟩) (E := fun _ _ => False)
    (wpAny_call_entry F.ks_slot_super_ga (hT _) F.ks_entry_super_ga (super_ga_init hso hno hC hl X hf hi hxC ⟨_, rfl, rfl, rfl⟩) (F.ks_gaArgs_super _ _)) (fun v s' hv => ?_) fun _ _ z => z.elim
  obtain ⟨rfl, rfl⟩ := hv
  exact wpAny_pure (wpAny_pure hq)

theorem callWith_mw {pos : Pos} {u x : Addr} {first : List Value} {args : List (Bool × Sem Value)} {Q : Value → Shared → Prop} {s : Shared} (hplain : args.any (·.1) = false)
    (h : wpAny (model prog w) A (evalArgs (.ref u) true args []) (fun y s₁ => s₁.heap.get? u = some (mwObj x) ∧ wpAny (model prog w) A (call (.ref u) (first ++ y.pos) y.kw) Q E s₁) E s) : wpAny (model prog w) A (callWith pos (.ref u) first args []) Q E s := by
  unfold callWith
  refine wpAny_bind (wpAny_holding (wpAny_mono h (fun x s₁ h₁ => wpAny_bind (wpAny_standAt ?_)) fun _ _ x => x))
  obtain ⟨ho, hcall⟩ := h₁
  simp only [hplain, List.any_nil, Bool.or_false]
  refine wpAny_bind (m := keeperOf (.ref u)) ?_
  unfold keeperOf
  refine wpAny_bind (wpAny_load ho ?_)
  simp only [mwObj, show (Value.type "method-wrapper" != Value.type "method") = true by decide, show (Value.type "method-wrapper" == Value.type "builtin_function_or_method" || Value.type "method-wrapper" == Value.type "method-wrapper") = true by decide, if_true]
  refine wpAny_pure ?_
  exact wpAny_bind (wpAny_mono hcall (fun r s₂ hr => wpAny_bind (wpAny_holding (wpAny_point (wpAny_pure hr)))) fun _ _ x => x)

abbrev dErr : Obj := excClassObj "DecodingError" "DecodingError" 46 45 [.ref 24] [.ref 24, .type "Exception", .type "BaseException", .type "object"] true [] [] false none none (some (.ref 28)) none (some (.str "DecodingError" 209)) (some (.str "DecodingError" 217)) (some (.bool true)) "Exception.__new__"
theorem dErr_in {w : World} {h : Heap} (X : (Mine.hd.heap_39 w.params).In h) : h.get? 46 = some dErr := X 46 _ rfl
theorem ns_at {h : Heap} {a : Addr} {c : Value} {od : Option Addr} {sl : Array (Option Value)} {es : Array DictEntry} {n : Nat} (e : h.get? a = some ⟨c, od, .dict es n, sl⟩)
    (k : (es.toList.all fun e => match e.key with | .str _ _ => true | _ => false) = true) : h.Ns a (nsFind es) :=
  ⟨_, es, n, e, rfl, by
    intro x hx
    have q := List.all_eq_true.mp k x (Array.mem_toList_iff.mpr hx)
    generalize x.key = y at q ⊢
    cases y <;> (first | exact ⟨_, _, rfl⟩ | cases q)
   , fun _ => rfl⟩
theorem dErr_ns {w : World} {h : Heap} (X : (Mine.hd.heap_39 w.params).In h) : ∃ mN, h.Ns 45 mN ∧ mN "__init__" = some (.ref 43) :=
  ⟨_, ns_at (X 45 _ rfl) (by rfl), by rfl⟩
theorem dErr_tail {w : World} {h : Heap} (X : (Mine.hd.heap_39 w.params).In h) : OwnTail h [.type "Exception", .type "BaseException", .type "object"] [.ref 24, .type "Exception", .type "BaseException", .type "object"] :=
  .own (X 24 _ rfl) (ns_at (X 23 _ rfl) (by rfl)) (by rfl) .base

theorem check_ei {M : Model} {x : Addr} {oe : Obj} {m : Value} {Q : Unit → Shared → Prop} (hC : h.get? 46 = some dErr) (he : h.get? x = some oe) (hcls : oe.cls = .ref 46) (hq : Q () ⟨h, g, d, t, os⟩) :
    wpAny M A (checkBoundCall "Exception.__init__" ⟨[.ref x, m], []⟩) Q E ⟨h, g, d, t, os⟩ := by
  have F := PySem.F.excBase_Exception
  have hcB : ((.ref 46 : Value) :: [.ref 24, .type "Exception", .type "BaseException", .type "object"]).contains (.type "Exception") = true := by decide
  have hshort := F.noStar
  simp only [checkBoundCall, F.initKind, F.initRow]
  repeat (first | (with_reducible refine wpAny_loadPart_at he ?_; rw [hcls]) | with_reducible refine wpAny_loadPart_at hC ?_ | (with_reducible refine wpAny_isSubtype_exc hC ?_; rw [hcB]) | wp_step)
  exact hq

theorem call_mw {q x tp : Addr} {v : Value} {Q : Value → Shared → Prop} (hm : h.get? q = some (mwObj x)) (hC : h.get? 46 = some dErr) (hx : h.get? x = some (excObj 46 tp none))
    (hq : ∀ h' tp', (∀ b o, b ≠ x → h.get? b = some o → h'.get? b = some o) → h'.get? x = some (excObj 46 tp' none) → h'.get? tp' = some { cls := .type "tuple", data := .seq #[v] } → h.get? tp' = none → Q .none ⟨h', g, d, t, os⟩) :
    wpAny (model prog w) A (call (.ref q) [v]) Q E ⟨h, g, d, t, os⟩ := by
  refine wpAny_call (codeAny_of_tree ?_)
  show wpAny _ A.in1 (callAny (.ref q) ⟨[v], []⟩) _ _ _
  simp only [callAny]
  refine wpAny_bind (wpAny_load hm ?_)
  simp only [mwObj, show (Value.type "method-wrapper" == Value.type "method" || Value.type "method-wrapper" == Value.type "builtin_function_or_method" || Value.type "method-wrapper" == Value.type "method-wrapper") = true by decide, if_true]
  refine KFB.if_so (by decide) ?_
  refine wpAny_bind (check_ei hC hx rfl ?_)
  refine wpAny_bind (wpAny_pure (wpAny_pure ?_))
  refine ⟨Code.quiet_builtin _ (by decide +kernel), codeAny_builtin PySem.F.excBase_Exception.initEntry ?_⟩
  have hget := hx
  unfold excObj at hget
  wp_walk
  have hne : x ≠ h.objs.size := Nat.ne_of_lt (Heap.lt_size hx)
  refine hq _ h.objs.size (fun b o hb e => ?_) ?_ ?_ (Heap.get?_none_of_le (Nat.le_refl _))
  · rw [Heap.get?_update_other _ _ (Ne.symm hb)]; exact Heap.get?_push_of_some _ e
  · exact Heap.get?_update_self _ (Heap.get?_push_of_some _ hx) rfl
  · rw [Heap.get?_update_other _ _ hne]; exact Heap.get?_push_size _ rfl
end
end Mine
end Exc4
section Fly
set_option maxRecDepth 100000
namespace Mine
open PySem PySem.W PySem.Spec PySem.Calls PyProof.Rows
open Sem (wp)

/-- what is said of an exception: its heap, its class, its dict, its args -/
abbrev XP := Heap → Value → Option Addr → Value → Prop
def Keen (P : XP) : Prop := ∀ (h h' : Heap) (c : Value) (d : Option Addr) (a : Value), h.UpToSlots h' → P h c d a → P h' c d a

def TracedX (P : XP) (h base : Heap) (e : Addr) : Prop :=
  ∃ oe vs a0 T oT ts, h.get? e = some oe ∧ oe.data = .fields vs ∧ vs[0]? = some a0 ∧ P h oe.cls oe.dict a0 ∧ vs[1]? = some (.ref T) ∧ base.get? T = none ∧ T ≠ e ∧ h.get? T = some oT ∧ oT.data = .fields ts ∧ ts[3]? = some .none

/-- an exception on its way out, all frames of l above base -/
structure FlyX (P : XP) (base h₀ : Heap) (L : Addr) (m : Str → Option Value) (l : List Env) (e : Addr) (h : Heap) : Prop where
  stays : base.StaysIn h
  up : h₀.UpToSlots h
  ns : h.Ns L m
  fresh : base.get? e = none
  frames : h.FunFrames base l
  traced : TracedX P h base e

section
variable {M : Model} {A : Around} {E : Value → Shared → Prop} {s : Shared}

theorem newEntryX {P : XP} (hP : Keen P) {base : Heap} {env : Env} {outer : List Env} {L e : Addr} {oe : Obj} {vs : Array Value} {a0 head : Value} {hadNext : Bool} {Q : Unit → Shared → Prop}
    (hfr : A.frames = some (env :: outer)) (hl : s.heap.FunFrames base (env :: outer)) (hf : env.frame = some L)
    (he : s.heap.get? e = some oe) (hkb : base.StaysIn s.heap) (hen : base.get? e = none) (hd : oe.data = .fields vs) (h0 : vs[0]? = some a0) (hp : P s.heap oe.cls oe.dict a0) (hsz : 1 < vs.size)
    (h : ∀ h', base.StaysIn h' → h'.FunFrames base (env :: outer) → TracedX P h' base e → s.heap.UpToSlots h' → Q () { s with heap := h' }) :
    wpAny M A (do let a ← frameOf env; let pl ← entryPlaceOf L hadNext; let b ← EntryCells.newEntry head a .none (rawInt L) .none pl; setField (.ref e) 1 b) (fun _ s' => wpAny M A (setFlight (.ref e) none) Q E s') E s := by
  have hene : e ∉ (env :: outer).filterMap (·.frame) := fun hm => by
    obtain ⟨_, o, ho, hnf⟩ := hl.mem hm
    rw [he] at ho; injection ho with ho; subst ho; exact hnf vs hd
  refine wpAny_bind (wpAny_frameOf_fun hfr hl hf fun h₁ hs₁ => ?_)
  refine wpAny_bind (wpAny_entryPlaceOf fun pl hpl => ?_)
  unfold EntryCells.newEntry newFields
  refine wpAny_bind (wpAny_newObj_type ?_ (hpl.sizeOk5 _ _ _ _ _))
  have he₁ : h₁.get? e = some oe := (hs₁.2.1 e hene).trans he
  have kb₁ : base.StaysIn h₁ := fun b o hbo => (hs₁.2.1 b fun hm => by rw [(hl.mem hm).1] at hbo; cases hbo).trans (hkb b o hbo)
  generalize ho : ({ cls := .type "traceback", dict := none, data := .fields ([head, .ref L, .none, rawInt L, .none] ++ (if pl.isEmpty then List.replicate 6 Value.none else pl)).toArray } : Obj) = oN
  have hoN : ∃ ts, oN.data = .fields ts ∧ 3 < ts.size := by
    subst ho
    exact ⟨_, rfl, by simp only [List.size_toArray, List.length_append, List.length_cons, List.length_nil] <;> omega⟩
  obtain ⟨ts, hts, hts3⟩ := hoN
  have he₂ := Heap.get?_push_of_some (h := h₁) oN he₁
  refine wpAny_setField he₂ hd hsz ?_
  have hTe : h₁.objs.size ≠ e := Nat.ne_of_gt (Heap.lt_size he₁)
  have hd₃ := Obj.data_mapFields hd (·.setIfInBounds 1 (Value.ref h₁.objs.size))
  have he₃ := Heap.get?_update_self (Obj.mapFields (·.setIfInBounds 1 (Value.ref h₁.objs.size))) he₂ (Obj.isFreed_of_fields hd₃)
  have hT₃ := (Heap.get?_update_other (h₁.push oN) (Obj.mapFields (·.setIfInBounds 1 (Value.ref h₁.objs.size))) (Ne.symm hTe)).trans (Heap.get?_push_size h₁ (Obj.isFreed_of_fields hts))
  unfold setFlight
  refine wpAny_bind (wpAny_field he₃ hd₃ (x := .ref h₁.objs.size) (by simp [hsz]) ?_)
  rw [if_pos (show (Value.ref h₁.objs.size != Value.none) = true from by simp)]
  refine wpAny_setField hT₃ hts hts3 ?_
  have keep : ∀ b o, b ≠ e → h₁.get? b = some o →
      (((h₁.push oN).update e (Obj.mapFields (·.setIfInBounds 1 (Value.ref h₁.objs.size)))).update h₁.objs.size (Obj.mapFields (·.setIfInBounds 3 ((none : Option Addr).elim Value.none fun f => rawInt f)))).get? b = some o := fun b o hbe hb => by
    have hbT : h₁.objs.size ≠ b := Nat.ne_of_gt (Heap.lt_size hb)
    rw [Heap.get?_update_other _ _ hbT, Heap.get?_update_other _ _ (Ne.symm hbe)]
    exact Heap.get?_push_of_some _ hb
  have noRecord : ∀ b o, s.heap.get? b = some o → (∀ vs, o.data ≠ .fields vs) → b ≠ e := fun b o hb hnf q => by
    rw [q, he] at hb; injection hb with hb; subst hb; exact hnf vs hd
  have up : s.heap.UpToSlots (((h₁.push oN).update e (Obj.mapFields (·.setIfInBounds 1 (Value.ref h₁.objs.size)))).update h₁.objs.size (Obj.mapFields (·.setIfInBounds 3 ((none : Option Addr).elim Value.none fun f => rawInt f)))) := fun b o hb hnf => by
    obtain ⟨sl, hs⟩ := hs₁.2.2 b o hb
    exact ⟨sl, keep b _ (noRecord b o hb hnf) hs⟩
  refine h _ (fun b o hbo => keep b o (fun q => by rw [q, hen] at hbo; cases hbo) (kb₁ b o hbo)) (hl.of_keeps fun b o hb hnf => ?_) ?_ up
  · obtain ⟨sl, hs⟩ := hs₁.2.2 b o hb
    exact ⟨_, keep b _ (noRecord b o hb hnf) hs, rfl⟩
  · refine ⟨_, _, a0, h₁.objs.size, _, _, (Heap.get?_update_other _ _ hTe).trans he₃, hd₃, ?_, ?_, by simp [hsz], kb₁.fresh, hTe, Heap.get?_update_self _ hT₃ (Obj.isFreed_of_fields (Obj.data_mapFields hts _)), Obj.data_mapFields hts _, ?_⟩
    · rw [Array.getElem?_setIfInBounds_ne (by decide)]; exact h0
    · have hc : (Obj.mapFields (fun x => x.setIfInBounds 1 (Value.ref h₁.objs.size)) oe).cls = oe.cls := Obj.cls_mapFields _ _
      have hdd : (Obj.mapFields (fun x => x.setIfInBounds 1 (Value.ref h₁.objs.size)) oe).dict = oe.dict := by obtain ⟨c, dd, dt, sl⟩ := oe; cases dt <;> rfl
      rw [hc, hdd]
      exact hP _ _ _ _ _ up hp
    · rw [Array.getElem?_setIfInBounds_self_of_lt hts3]; rfl

theorem leaveX_new {P : XP} (hP : Keen P) {base : Heap} {env : Env} {outer : List Env} {L e : Addr} {oe : Obj} {vs : Array Value} {a0 : Value} {Q : Unit → Shared → Prop}
    (hfr : A.frames = some (env :: outer)) (hl : s.heap.FunFrames base (env :: outer)) (hf : env.frame = some L)
    (he : s.heap.get? e = some oe) (hkb : base.StaysIn s.heap) (hen : base.get? e = none) (hd : oe.data = .fields vs) (h0 : vs[0]? = some a0) (hp : P s.heap oe.cls oe.dict a0) (h1 : vs[1]? = some .none)
    (h : ∀ h', base.StaysIn h' → h'.FunFrames base (env :: outer) → TracedX P h' base e → s.heap.UpToSlots h' → Q () { s with heap := h' }) : wpAny M A (leaving env (.ref e)) Q E s := by
  unfold leaving noteFrame
  simp only [hf]
  refine wpAny_bind (wpAny_bind (wpAny_field he hd h1 ?_))
  rw [if_neg (by decide)]
  exact newEntryX (P := P) hP hfr hl hf he hkb hen hd h0 hp (Array.getElem?_eq_some_iff.mp h1).1 h

theorem leaveX_on {P : XP} (hP : Keen P) {base : Heap} {env : Env} {outer : List Env} {L e : Addr} {Q : Unit → Shared → Prop}
    (hfr : A.frames = some (env :: outer)) (hl : s.heap.FunFrames base (env :: outer)) (hf : env.frame = some L) (ht : TracedX P s.heap base e) (hkb : base.StaysIn s.heap) (hen : base.get? e = none)
    (h : ∀ h', base.StaysIn h' → h'.FunFrames base (env :: outer) → TracedX P h' base e → s.heap.UpToSlots h' → Q () { s with heap := h' }) : wpAny M A (leaving env (.ref e)) Q E s := by
  obtain ⟨oe, vs, a0, T, oT, ts, he, hd, h0, hp, h1, hnT, hTe, hT, hdT, h3⟩ := ht
  unfold leaving noteFrame
  simp only [hf]
  refine wpAny_bind (wpAny_bind (wpAny_field he hd h1 ?_))
  rw [if_pos (show (Value.ref T != Value.none) = true from by simp)]
  refine wpAny_bind (wpAny_field hT hdT h3 ?_)
  rw [if_neg (show ¬ ((Value.none == rawInt L) = true) from by simp [rawInt])]
  refine wpAny_bind (wpAny_setField hT hdT (Array.getElem?_eq_some_iff.mp h3).1 ?_)
  have other : ∀ b, b ≠ T → (s.heap.update T (Obj.mapFields (·.setIfInBounds 3 Value.none))).get? b = s.heap.get? b := fun b hb => Heap.get?_update_other _ _ (Ne.symm hb)
  have noRecord : ∀ b o, s.heap.get? b = some o → (∀ vs, o.data ≠ .fields vs) → b ≠ T := fun b o hb hnf q => by
    rw [q, hT] at hb; injection hb with hb; subst hb; exact hnf ts hdT
  have up : s.heap.UpToSlots (s.heap.update T (Obj.mapFields (·.setIfInBounds 3 Value.none))) := fun b o hb hnf => ⟨o.slots, (other b (noRecord b o hb hnf)).trans hb⟩
  refine newEntryX (P := P) hP hfr (hl.of_keeps fun b o hb hnf => ⟨o, (other b (noRecord b o hb hnf)).trans hb, rfl⟩) hf ((other e (Ne.symm hTe)).trans he)
    (fun b o hbo => (other b fun q => by rw [q, hnT] at hbo; cases hbo).trans (hkb b o hbo)) hen hd h0 (hP _ _ _ _ _ up hp) (Array.getElem?_eq_some_iff.mp h1).1
    fun h' x1 x2 x3 x4 => h h' x1 x2 x3 (up.trans x4)
end
end Mine
end Fly
section Exc5
set_option maxRecDepth 100000
namespace Mine
open PySem PySem.W PySem.Spec PySem.Calls PyProof.Rows
open Sem (wp)

section
variable {w : World} {A₀ A : Around} {E : Value → Shared → Prop} {s : Shared} {base h₀ : Heap} {outer : List Env} {L : Addr} {m mg mb : Str → Option Value} {env : Env} {news : List (Addr × Obj)} {mean : ExcName → Option Value}
abbrev Pg : Program := PySem.Challenge.rw_ep5029_01.row.prog

theorem call_exc_own {rest : List Value} {Q : Value → Shared → Prop} {h : Heap} {g : Array GenState} {d : Drawn} {t : Nat} {os : OsState} (X : (Mine.hd.heap_39 w.params).In h)
    (hq : wpAny (model Pg w) (A.under (.builtin "type.__call__" ⟨.ref 46 :: rest, []⟩)) (call (.ref 43) (.ref (h.objs.size + 1) :: rest)) (fun v s' => v = .none ∧ Q (.ref (h.objs.size + 1)) s') E
       ⟨(h.push { cls := .type "tuple", data := .seq rest.toArray }).push (excObj 46 h.objs.size none), g, d, t, os⟩) (hrest : rest.length ≤ sizeLine := by size_fits) :
    wpAny (model Pg w) A (call (.ref 46) rest) Q E ⟨h, g, d, t, os⟩ := by
  have hC := dErr_in X
  obtain ⟨mN, hn, hni⟩ := dErr_ns X
  have f1 := tc_lookup
  have f2 := tc_bind (.ref 46)
  have hT : (⟨h, g, d, t, os⟩ : Shared).TypeIs (.ref 46) "type" := ⟨_, hC, rfl⟩
  refine wpAny_call (codeAny_of_tree ?_)
  show wpAny _ _ (callAny (.ref 46) _) _ _ _
  repeat (any_goals (first | assumption | with_reducible refine wpAny_loadPart_at hC ?_ | wp_step))
  refine ⟨rfl, ?_⟩
  refine codeAny_call_builtin_at (Code.quiet_builtin _ (by decide +kernel)) entry_typeCall (wpAny_check_type_call_sub hC (type_call_own (hrest := hrest) PySem.F.excBase_Exception (dErr_tail X) hC hn hni (X 43 _ rfl) rfl ?_))
  exact hq

theorem de_call {msg : Str} {mt bt : Tok} {b : Array UInt8} {Q : Value → Shared → Prop}
    (B : Below A₀ base outer h₀) (F : Fr h₀ L s.heap m) (X₀ : (Mine.hd.heap_39 w.params).In h₀) (N : News h₀ L s.heap news) (T : Top Vw Lo mean mg mb h₀)
    (hA : A.frames = some (env :: outer)) (hf : env.frame = some L) (hke : env.scope.kind = .function) (hroom : A.depth + 2 < recursionLimit)
    (hq : ∀ h' e tp dx tk tk', Fr h₀ L h' m → News h₀ L h' news → h₀.get? e = none → h'.get? e = some (excObj 46 tp (some dx)) →
      h'.get? tp = some { cls := .type "tuple", data := .seq #[.str msg mt] } → h'.get? dx = some (dictOf [⟨PyData.keyHash w.params "rlp", .str "rlp" tk', .bytes b bt⟩] 1) → Q (.ref e) { s with heap := h', toks := tk }) :
    wpAny (model Pg w) A (call (.ref 46) [.str msg mt, .bytes b bt]) Q E s := by
  obtain ⟨hh, g, d, t, os⟩ := s
  refine call_exc_own (X₀.keeps F.keep) ?_
  have F₁ := (F.push { cls := .type "tuple", data := .seq [Value.str msg mt, .bytes b bt].toArray }).push (excObj 46 hh.objs.size none)
  have N₁ := (N.push F { cls := .type "tuple", data := .seq [Value.str msg mt, .bytes b bt].toArray }).push (F.push _) (excObj 46 hh.objs.size none) rfl
  rw [Heap.size_push] at N₁
  refine wpAny_call ?_
  have hroom' : (A.under (.builtin "type.__call__" ⟨[.ref 46, .str msg mt, .bytes b bt], []⟩)).depth < recursionLimit := by
    show A.depth + Code.weight _ < _
    have q : Code.weight (.builtin "type.__call__" ⟨[.ref 46, .str msg mt, .bytes b bt], []⟩) = 1 := by rfl
    omega
  refine ks_code_super (s := ⟨_, _, _, _, _⟩) B F₁ X₀ N₁ T (show (A.under _).frames = _ from hA) hf hke (rfl : (Mine.hd.heap_39 w.params).lookup 43 = some _) (by rfl) hroom' (BindsTo.of_eq rfl) (locs rfl) ?_
  intro g' L' h₁ FG F' N' B' X' T' hlt
  refine ks_wpAt_execs_cons (ks_wpAt_Expr_any (ks_wpAt_MethodCall ?_))
  have I' : W.InstAt h₁ (hh.objs.size + 1) (excObj 46 hh.objs.size none) 46 none := ⟨(N' _ (.head _)).1, rfl, rfl, trivial⟩
  refine ks_node F' X' N' T' (rfl : (Mine.hd.heap_39 w.params).lookup 43 = some _) (by rfl) (by rfl) I' (by rfl) (by rfl) (by first | rfl | decide +kernel) (by rfl) (by rfl) (by rfl) (by rfl) (by decide) (by rfl) (by rfl) (by rfl) (by rfl) (by decide +kernel) (by first | boot_by_name | rfl | kernel_rfl) ?_
  intro so h₂ F₂ N₂ lso
  have X₂ := X'.keeps F₂.keep
  have I₂ : W.InstAt h₂ (hh.objs.size + 1) (excObj 46 hh.objs.size none) 46 none := ⟨(N₂ _ (.tail _ (.head _))).1, rfl, rfl, trivial⟩
  refine getMethod_super_init (h := h₂) (N₂ _ (.head _)).1 (looks_opaque X₂ (by rfl)) ((looks_clsIn X₂ (by rfl)).andThen .now) (by rfl) X₂ (by rfl) (I₂.type.andThen (looks_mroIn X₂ (by rfl))) ?_ ?_
  · intro q; exact absurd (N₂ _ (.tail _ (.head _))).2.2 (by rw [q, X' 46 _ rfl]; intro z; cases z)
  refine callWith_mw (x := hh.objs.size + 1) (by rfl) ?_
  have F₃ := F₂.push (mwObj (hh.objs.size + 1))
  have N₃ := N₂.push F₂ (mwObj (hh.objs.size + 1)) rfl
  refine evalArgs_plain ?_
  refine spliced_cons ?_
  refine nameX_L (m := _) F₃ (by rfl) ?_
  refine spliced_nil ⟨Heap.get?_push_size _ rfl, ?_⟩
  have X₃ := X'.keeps F₃.keep
  refine call_mw (h := h₂.push (mwObj (hh.objs.size + 1))) (N₃ _ (.head _)).1 (dErr_in X₃) (N₃ _ (.tail _ (.tail _ (.head _)))).1 fun h₄ tp' k₄ at₄ tup₄ fr₄ => ?_
  have eL : L' ≠ hh.objs.size + 1 := Ne.symm (N' _ (.head _)).2.1
  have eg : g'.get? (hh.objs.size + 1) = none := (N' _ (.head _)).2.2
  have F₄ : Fr g' L' h₄ _ := ⟨let ⟨o, es, ep, z, r⟩ := F₃.ns; ⟨o, es, ep, k₄ _ _ eL z, r⟩, fun b o z => k₄ b o (fun q => by rw [q, eg] at z; cases z) (F₃.keep b o z), F₃.above⟩
  have newsNe : ∀ p ∈ news, p.1 ≠ hh.objs.size + 1 := fun p hp => Nat.ne_of_lt (Nat.lt_succ_of_lt (Heap.lt_size (N p hp).1))
  have N₄ : News g' L' h₄ news := fun p hp => ⟨k₄ _ _ (newsNe p hp) (N₃ p (.tail _ (.tail _ (.tail _ (.tail _ hp))))).1, (N' p (.tail _ (.tail _ hp))).2⟩
  refine ks_wpAt_execs_cons (ks_wpAt_Assign_Attr (wpAt_of_wpAny (nameX_L (m := _) F₄ (by rfl) (nameX_L (m := _) F₄ (by rfl) ?_))))
  have X₄ := X'.keeps F₄.keep
  refine set_rlp (h := h₄) X₄ at₄ ?_ fun h₅ dx t₅ st => ?_
  · cases q : (Mine.hd.heap_39 w.params).lookup (hh.objs.size + 1) with
    | none => rfl
    | some o => have z := X' _ _ q; rw [eg] at z; cases z
  have F₅ : Fr g' L' h₅ _ := ⟨let ⟨o, es, ep, z, r⟩ := F₄.ns; ⟨o, es, ep, st.keep _ _ eL z, r⟩, fun b o z => st.keep b o (fun q => by rw [q, eg] at z; cases z) (F₄.keep b o z), F₄.above⟩
  have N₅ : News g' L' h₅ news := fun p hp => ⟨st.keep _ _ (newsNe p hp) (N₄ p hp).1, (N₄ p hp).2⟩
  refine wpAt_of_wpAny (wpAny_pure ?_)
  refine leaveK_ F₅ N₅ fun FF NN => ⟨rfl, ?_⟩
  obtain ⟨tk', hdx⟩ := st.dict
  refine hq _ _ _ _ _ tk' FF NN (N₁ _ (.head _)).2.2 st.at_ (st.keep _ _ (fun q => ?_) tup₄) hdx
  rw [q, (N₃ _ (.tail _ (.tail _ (.head _)))).1] at fr₄; cases fr₄
end
end Mine
end Exc5
section Call
set_option maxRecDepth 100000
namespace Mine
open PySem PySem.W PySem.Spec PySem.Calls PyProof.Rows
open Sem (wp)

/-- the two kinds of a refusal -/
inductive Ft where
  | index
  | fault (msg : Str)

def XIs (w : World) (b : Array UInt8) (x : Ft) (h : Heap) (c : Value) (d : Option Addr) (a0 : Value) : Prop :=
  match x with
  | .index => c = .type "IndexError"
  | .fault msg => c = .ref 46 ∧ ∃ dx tp tk bt mt sl sl2, d = some dx ∧ a0 = .ref tp ∧
      h.get? dx = some { dictOf [⟨PyData.keyHash w.params "rlp", .str "rlp" tk, .bytes b bt⟩] 1 with slots := sl } ∧
      h.get? tp = some { cls := .type "tuple", data := .seq #[.str msg mt], slots := sl2 }

theorem keen_is {w : World} {b : Array UInt8} {x : Ft} : Keen (XIs w b x) := by
  intro h h' c d a0 up hx
  cases x with
  | index => exact hx
  | fault msg =>
    obtain ⟨hc, dx, tp, tk, bt, mt, sl, sl2, hd, ha, h1, h2⟩ := hx
    obtain ⟨sl', h1'⟩ := up _ _ h1 (fun vs q => by cases q)
    obtain ⟨sl2', h2'⟩ := up _ _ h2 (fun vs q => by cases q)
    exact ⟨hc, dx, tp, tk, bt, mt, sl', sl2', hd, ha, h1', h2'⟩

/-- a call of f that may come back or raise; b: the octets that an error bears -/
def Does (w : World) (f : Addr) (vs : List Value) (nd nu : Nat) (news : List (Addr × Obj)) (Ret : List (Addr × Obj) → Value → Prop) (b : Array UInt8) (Err : Ft → Prop) : Prop :=
  ∀ (mean : ExcName → Option Value) (mg mb : Str → Option Value) (dp un : Nat) (gd : Option (List Code)) (cn : Str) (cs : Scope) (a : Addr) (ccd : Value) (cl : List (Str × Addr)) (outer : List Env) (A₀ : Around) (base h₀ : Heap) (L : Addr) (m : Str → Option Value) (s : Shared)
    (Q E : Value → Shared → Prop),
    Below A₀ base outer h₀ → Fr h₀ L s.heap m → (Mine.hd.heap_39 w.params).In h₀ → News h₀ L s.heap news → Top Vw Lo mean mg mb h₀ → cs.kind = .function →
    dp + nd < recursionLimit → un + nu < cLine →
    (∀ r tl h' tk', Fr h₀ L h' m → News h₀ L h' (news ++ tl) → (∀ q ∈ news, ∀ p ∈ tl, q.1 < p.1) → Ret tl r → Q r { s with heap := h', toks := tk' }) →
    (∀ x e h' tk', Err x → FlyX (XIs w b x) base h₀ L m (envX cn cs L a ccd cl :: outer) e h' → E (.ref e) { s with heap := h', toks := tk' }) →
    wpAny (model PySem.Challenge.rw_ep5029_01.row.prog w) (ktrTop dp un gd cn cs L a ccd cl outer) (call (.ref f) vs) Q E s

section
variable {M : Model} {A : Around} {E : Value → Shared → Prop} {s : Shared} {base h₀ g : Heap} {L L' a' : Addr} {m m' : Str → Option Value} {l : List Env} {cn' : Str} {cs' : Scope} {ccd' : Value} {w : World} {b : Array UInt8} {x : Ft} {e : Addr} {Err : Ft → Prop}

theorem frames_up {h : Heap} (B : Below A base l g) (F : Fr g L' h m') (hk : cs'.kind = .function) : h.FunFrames base (envOf cn' cs' L' a' ccd' :: l) :=
  Heap.FunFrames.cons (by show cs'.kind ≠ .module; rw [hk]; decide) rfl F.ns
    (by
      cases q : base.get? L' with
      | none => rfl
      | some o => exact absurd (Nat.lt_of_lt_of_le (Heap.lt_size (B.stays _ _ q)) F.above) (Nat.lt_irrefl _))
    (B.frames.of_keeps fun b o z _ => ⟨o, F.keep b o z, rfl⟩)

theorem none_in {h h' : Heap} {b : Addr} (k : ∀ b o, h.get? b = some o → h'.get? b = some o) (hn : h'.get? b = none) : h.get? b = none := TI.none_of k hn

theorem fly_up {P : XP} {h h' : Heap} (FG : Fr h₀ L g m) (hg : ∀ b o, g.get? b = some o → (∀ vs, o.data ≠ .fields vs) → ∃ sl, h.get? b = some { o with slots := sl }) (x1 : base.StaysIn h') (fresh : base.get? e = none) (x2 : h'.FunFrames base (envOf cn' cs' L' a' ccd' :: l)) (x3 : TracedX P h' base e) (x4 : h.UpToSlots h') : FlyX P base h₀ L m l e h' := by
  have gu : g.UpToSlots h' := fun b o z hn => by
    obtain ⟨sl, z'⟩ := hg b o z hn
    obtain ⟨sl', z''⟩ := x4 _ _ z' hn
    exact ⟨sl', z''⟩
  exact ⟨x1, fun b o z hn => gu b o (FG.keep b o z) hn, gu.ns FG.ns, fresh, x2.2.2, x3⟩

theorem end_index {oe : Obj} {t : Value} (B : Below A base l g) (F : Fr g L' s.heap m') (FG : Fr h₀ L g m) (hk : cs'.kind = .function) (hen : g.get? e = none) (he : s.heap.get? e = some oe) (hc : oe.cls = .type "IndexError") (hd : oe.data = .fields #[t, .none, .none, .none, .bool false, .none]) (hx : Err .index)
    (hexc : ∀ x e h' tk', Err x → FlyX (XIs w b x) base h₀ L m l e h' → E (.ref e) { s with heap := h', toks := tk' }) :
    wpAny M (A.deeper (envOf cn' cs' L' a' ccd')) (leaving (envOf cn' cs' L' a' ccd') (.ref e)) (fun _ s'' => E (.ref e) s'') (fun e' s'' => E e' s'') s :=
  have hb := none_in B.stays hen
  leaveX_new (P := XIs w b .index) keen_is (Around.frames_deeper B.stack) (frames_up B F hk) rfl he (fun b o z => F.keep b o (B.stays b o z)) hb hd rfl hc rfl
    fun h' x1 x2 x3 x4 => hexc _ _ h' s.toks hx (fly_up FG (fun b o z _ => ⟨o.slots, F.keep b o z⟩) x1 hb x2 x3 x4)

theorem end_fault {msg : Str} {mt bt tk' : Tok} {tp dx : Addr} (B : Below A base l g) (F : Fr g L' s.heap m') (FG : Fr h₀ L g m) (hk : cs'.kind = .function) (hen : g.get? e = none) (he : s.heap.get? e = some (excObj 46 tp (some dx)))
    (htp : s.heap.get? tp = some { cls := .type "tuple", data := .seq #[.str msg mt] }) (hdx : s.heap.get? dx = some (dictOf [⟨PyData.keyHash w.params "rlp", .str "rlp" tk', .bytes b bt⟩] 1)) (hx : Err (.fault msg))
    (hexc : ∀ x e h' tk', Err x → FlyX (XIs w b x) base h₀ L m l e h' → E (.ref e) { s with heap := h', toks := tk' }) :
    wpAny M (A.deeper (envOf cn' cs' L' a' ccd')) (leaving (envOf cn' cs' L' a' ccd') (.ref e)) (fun _ s'' => E (.ref e) s'') (fun e' s'' => E e' s'') s :=
  have hb := none_in B.stays hen
  leaveX_new (P := XIs w b (.fault msg)) keen_is (Around.frames_deeper B.stack) (frames_up B F hk) rfl he (fun b o z => F.keep b o (B.stays b o z)) hb rfl rfl ⟨rfl, dx, tp, tk', bt, mt, _, _, rfl, rfl, hdx, htp⟩ rfl
    fun h' x1 x2 x3 x4 => hexc _ _ h' s.toks hx (fly_up FG (fun b o z _ => ⟨o.slots, F.keep b o z⟩) x1 hb x2 x3 x4)

theorem end_fly (B : Below A base l g) (FG : Fr h₀ L g m) (fl : FlyX (XIs w b x) base g L' m' (envOf cn' cs' L' a' ccd' :: l) e s.heap) (hx : Err x)
    (hexc : ∀ x e h' tk', Err x → FlyX (XIs w b x) base h₀ L m l e h' → E (.ref e) { s with heap := h', toks := tk' }) :
    wpAny M (A.deeper (envOf cn' cs' L' a' ccd')) (leaving (envOf cn' cs' L' a' ccd') (.ref e)) (fun _ s'' => E (.ref e) s'') (fun e' s'' => E e' s'') s :=
  leaveX_on (P := XIs w b x) keen_is (Around.frames_deeper B.stack) fl.frames rfl fl.traced fl.stays fl.fresh
    fun h' x1 x2 x3 x4 => hexc _ _ h' s.toks hx (fly_up FG fl.up x1 fl.fresh x2 x3 x4)

/-- what raise wants of what its expression gives -/
def RaisX (E : Value → Shared → Prop) (v : Value) (s₁ : Shared) : Prop :=
  ∃ x tp dx, v = .ref x ∧ s₁.heap.get? 46 = some dErr ∧ s₁.heap.get? x = some (excObj 46 tp (some dx)) ∧ E (.ref x) s₁

theorem raise_de {ee : Expr} {env : Env} {pos : Pos} {Q : Flow → Shared → Prop} (hh : A.handled = none) (h : wpAny M A (eval ee env) (RaisX E) E s) : wpAny M A (exec (.Raise (some ee) none pos) env) Q E s := by
  show wpAny M A (do standAt pos; raiseStmt env (some (do let v ← eval ee env; standAt pos; pure v)) none) Q E s
  refine wpAny_bind (wpAny_standAt ?_)
  have hcB : (Value.ref 46 :: [.ref 24, .type "Exception", .type "BaseException", .type "object"]).contains (.type "BaseException") = true := by decide
  unfold raiseStmt
  dsimp only
  refine wpAny_bind (wpAny_bind (wpAny_mono h (fun v s₁ h₁ => wpAny_bind (wpAny_standAt (wpAny_pure ?_))) fun _ _ x => x))
  obtain ⟨e, tp, dx, rfl, hC, he, hE⟩ := h₁
  obtain ⟨hp, g, d, tk, os⟩ := s₁
  unfold excObj at he
  repeat (first | with_reducible refine wpAny_loadPart_at he ?_ | with_reducible refine wpAny_loadPart_at hC ?_ | (with_reducible refine wpAny_isSubtype_exc hC ?_; rw [hcB]) | wp_step)
  exact wpAny_raiseNew_none hh hE
end
end Mine
end Call
section Spec
set_option maxRecDepth 100000
namespace Mine
open PySem PySem.W PySem.Spec PySem.Calls PyProof.Rows

/-- what a head tells -/
structure Hd where
  pre : List Int
  lst : Bool
  size : Int
  pos : Int

def M1 : Str := "Encoded as short string although single byte was possible"
def M2 : Str := "Length starts with zero bytes"
def M3 : Str := "Long string prefix used for short string"
def M4 : Str := "Long list prefix used for short list"
def M5 : Str := "List length prefix announced a too small length"

def cut (ks : List Int) (lo hi : Int) : List Int := (ks.drop (clipAt ks.length lo)).take (clipAt ks.length hi - clipAt ks.length lo)

def longP (ks : List Int) (k ll : Int) (lst : Bool) : Except Ft Hd :=
  if cut ks (k + 1) (k + 2) = [0] then .error (.fault M2)
  else if KFB.value (cut ks (k + 1) (k + 1 + ll)) < 56 then .error (.fault (if lst then M4 else M3))
  else .ok ⟨cut ks k (k + 1) ++ cut ks (k + 1) (k + 1 + ll), lst, KFB.value (cut ks (k + 1) (k + 1 + ll)), k + 1 + ll⟩

def headP (ks : List Int) (k : Int) : Except Ft Hd :=
  if (ks.length : Int) ≤ k then .error .index
  else if ks.getD k.toNat 0 < 128 then .ok ⟨[], false, 1, k⟩
  else if ks.getD k.toNat 0 < 184 then
    if ks.getD k.toNat 0 - 128 = 1 then
      if (ks.length : Int) ≤ k + 1 then .error .index
      else if ks.getD (k + 1).toNat 0 < 128 then .error (.fault M1)
      else .ok ⟨cut ks k (k + 1), false, ks.getD k.toNat 0 - 128, k + 1⟩
    else .ok ⟨cut ks k (k + 1), false, ks.getD k.toNat 0 - 128, k + 1⟩
  else if ks.getD k.toNat 0 < 192 then longP ks k (ks.getD k.toNat 0 - 183) false
  else if ks.getD k.toNat 0 < 248 then .ok ⟨cut ks k (k + 1), true, ks.getD k.toNat 0 - 192, k + 1⟩
  else longP ks k (ks.getD k.toNat 0 - 192 - 56 + 1) true

def kindV (lst : Bool) : Value := .type (if lst then "list" else "bytes")

/-- the ledger bears what clp hands back -/
def HeadIn (n : List (Addr × Obj)) (v : Value) (h : Hd) : Prop :=
  ∃ a pb pt st ot, v = .ref a ∧ (a, ({ cls := .type "tuple", data := .seq #[.bytes pb pt, kindV h.lst, .int h.size st, .int h.pos ot] } : Obj)) ∈ n ∧ KBw.bInts pb = h.pre
def HeadRet (ks : List Int) (k : Int) (n : List (Addr × Obj)) (v : Value) : Prop := ∃ h, headP ks k = .ok h ∧ HeadIn n v h
def HeadErr (ks : List Int) (k : Int) (x : Ft) : Prop := headP ks k = .error x

/-- octets, or a row of such -/
inductive Tr where
  | leaf (ks : List Int)
  | node (ts : List Tr)

def firstOf : Tr → List Int
  | .node (.leaf b :: _) => b
  | _ => []

abbrev Res := Except Ft (Tr × Tr × Int)

mutual
noncomputable def pay (ks : List Int) (h : Hd) : Option Res :=
  if h.lst then loop ks (h.pos + h.size) h.pos [] [] h.pre
  else some (.ok (.leaf (cut ks h.pos (h.pos + h.size)), .node [.leaf (h.pre ++ cut ks h.pos (h.pos + h.size))], h.pos + h.size))
partial_fixpoint
noncomputable def loop (ks : List Int) (e k : Int) (its rls : List Tr) (body : List Int) : Option Res :=
  if k < e then
    match headP ks k with
    | .error x => some (.error x)
    | .ok h => pay ks h >>= fun r => match r with
      | .error x => some (.error x)
      | .ok (it, rl, nx) => loop ks e nx (its ++ [it]) (rls ++ [rl]) (body ++ firstOf rl)
  else if e < k then some (.error (.fault M5)) else some (.ok (.node its, .node (.leaf body :: rls), k))
partial_fixpoint
end

mutual
/-- the ledger bears the tree at v -/
inductive TrIn (n : List (Addr × Obj)) : Value → Tr → Prop where
  | leaf {b : Array UInt8} {t : Tok} {ks : List Int} : KBw.bInts b = ks → TrIn n (.bytes b t) (.leaf ks)
  | node {a : Addr} {vs : List Value} {ep : Nat} {ts : List Tr} : (a, listOf vs.toArray ep) ∈ n → TrsIn n vs ts → TrIn n (.ref a) (.node ts)
inductive TrsIn (n : List (Addr × Obj)) : List Value → List Tr → Prop where
  | nil : TrsIn n [] []
  | cons {v : Value} {t : Tr} {vs : List Value} {ts : List Tr} : TrIn n v t → TrsIn n vs ts → TrsIn n (v :: vs) (t :: ts)
end

mutual
theorem TrIn.mono {n n' : List (Addr × Obj)} (hs : ∀ p ∈ n, p ∈ n') : ∀ {v : Value} {t : Tr}, TrIn n v t → TrIn n' v t
  | _, _, .leaf e => .leaf e
  | _, _, .node hm r => .node (hs _ hm) (TrsIn.mono hs r)
theorem TrsIn.mono {n n' : List (Addr × Obj)} (hs : ∀ p ∈ n, p ∈ n') : ∀ {vs : List Value} {ts : List Tr}, TrsIn n vs ts → TrsIn n' vs ts
  | _, _, .nil => .nil
  | _, _, .cons h r => .cons (TrIn.mono hs h) (TrsIn.mono hs r)
end
theorem TrsIn.snoc {n : List (Addr × Obj)} {v : Value} {t : Tr} (h : TrIn n v t) : ∀ {vs : List Value} {ts : List Tr}, TrsIn n vs ts → TrsIn n (vs ++ [v]) (ts ++ [t])
  | _, _, .nil => .cons h .nil
  | _, _, .cons x r => .cons x (TrsIn.snoc h r)
theorem TrsIn.length {n : List (Addr × Obj)} : ∀ {vs : List Value} {ts : List Tr}, TrsIn n vs ts → vs.length = ts.length
  | _, _, .nil => rfl
  | _, _, .cons _ r => by rw [List.length_cons, List.length_cons, TrsIn.length r]

/-- what consume_payload hands back -/
def PayRet (ks : List Int) (h : Hd) (n : List (Addr × Obj)) (v : Value) : Prop :=
  ∃ it bd rls nx, pay ks h = some (.ok (it, .node (.leaf bd :: rls), nx)) ∧ ∃ a v1 a2 bb tb vs2 ep2 t, v = .ref a ∧
    (a, ({ cls := .type "tuple", data := .seq #[v1, .ref a2, .int nx t] } : Obj)) ∈ n ∧ TrIn n v1 it ∧ (a2, listOf (Value.bytes bb tb :: vs2).toArray ep2) ∈ n ∧ KBw.bInts bb = bd ∧ TrsIn n vs2 rls ∧
    h.pos ≤ nx ∧ (h.lst = false → nx = h.pos + h.size) ∧ (bd.length : Int) ≤ h.pre.length + (min nx ks.length - min h.pos ks.length)
def PayErr (ks : List Int) (h : Hd) (x : Ft) : Prop := pay ks h = some (.error x)
end Mine
end Spec
section Idx
set_option maxRecDepth 100000
namespace Mine
open PySem PySem.W PySem.Spec PySem.Calls PyProof.Rows
open Sem (wp)
section
variable {prog : Program} {w : World} {A : Around} {E : Value → Shared → Prop} {s : Shared} {b : Array UInt8} {t ui : Tok} {i : Int} {ks : List Int} {value slice : PySem.Expr} {Q : Value → Shared → Prop}

def raiseIdx : PySem.Spec := fun A R s => A.handled = none ∧ ∀ h' tk e, Heap.NewExc s.heap h' e "IndexError" → R (.error (.ref e)) { s with heap := h', toks := tk }

theorem meets_out (h0 : 0 ≤ i) (h1 : (b.size : Int) ≤ i) : Meets (Builtin.«bytes.__getitem__» ⟨[.bytes b t, .int i ui], []⟩) raiseIdx := by
  intro prog w A R s ⟨hh, hR⟩
  show wpAny _ _ (Builtin.Bytes.subscript? (.int i ui) >>= fun r => _) _ _ s
  refine wpAny_bind ?_
  unfold Builtin.Bytes.subscript?
  refine wpAny_bind (wpAny_specialOf (typeIs_int s i ui) F.slot_int_index.lookup ?_)
  show wpAny _ _ (if (!Builtin.Bytes.fitsIndex i) = true then _ else pure (some i)) _ _ s
  by_cases hf : Builtin.Bytes.fitsIndex i = true
  · rw [hf]
    refine wpAny_pure ?_
    show wpAny _ _ (match (seqIndex? i b.size).bind (b[·]?) with | some x => _ | none => _) _ _ s
    have hn : seqIndex? i b.size = none := by
      have h2 : ¬ i < 0 := by omega
      have h3 : ¬ (i < (b.size : Int)) := by omega
      simp [seqIndex?, h2, h3]
    rw [hn]
    refine wpAny_bind (wpAny_rule ?_)
    refine wpAny_bind (wpAny_raiseErrorWords plainExc_IndexError hh ?_)
    exact fun h' tk e hx => hR h' tk e hx
  · have hf' : Builtin.Bytes.fitsIndex i = false := by simpa using hf
    rw [hf']
    refine wpAny_bind (wpAny_rule (wpAny_bind (wpAny_typeNameOf' (typeIs_int s i ui) (by decide) ?_)))
    refine wpAny_bind (wpAny_raiseErrorWords plainExc_IndexError hh ?_)
    exact fun h' tk e hx => hR h' tk e hx

theorem idx_out (hk : KBw.bInts b = ks) (hh : A.handled = none) (h0 : 0 ≤ i) (h1 : (ks.length : Int) ≤ i)
    (h : ∀ h' tk e, Heap.NewExc s.heap h' e "IndexError" → E (.ref e) { s with heap := h', toks := tk })
    (hs : subscripted slice false (.bytes b t) (.int i ui) = operate [.bytes b t, .int i ui] (getItem (.bytes b t) (.int i ui)) := by with_unfolding_all rfl)
    (ht : ∀ r, letTemporaryGo value (.bytes b t) r = pure () := by intro _; with_unfolding_all rfl) : wpAny (model prog w) A (subscriptTail value slice (.bytes b t) (.int i ui)) Q E s := by
  subst hk
  rw [KBw.ints_length] at h1
  exact tail_of_ItemOn ⟨"bytes", _, FB.slot_bytes_getitem.lookup, typeIs_bytes _ _ _, getItem_meets (typeIs_bytes _ _ _) (by decide) FB.slot_bytes_getitem FB.entry_bytes_getitem (FB.args_bytes_getitem_2 _ _) (meets_out h0 h1)
    ⟨hh, h⟩⟩ hs ht

/-- an item of bytes: it is there, or IndexError -/
theorem idx_any (hk : KBw.bInts b = ks) (hfit : ks.length ≤ 1099511627776) (hh : A.handled = none) (h0 : 0 ≤ i)
    (hin : ∀ tk t', i < (ks.length : Int) → 0 ≤ ks.getD i.toNat 0 → ks.getD i.toNat 0 < 256 → Q (.int (ks.getD i.toNat 0) t') { s with toks := tk })
    (hout : ∀ h' tk e, (ks.length : Int) ≤ i → Heap.NewExc s.heap h' e "IndexError" → E (.ref e) { s with heap := h', toks := tk })
    (hs : subscripted slice false (.bytes b t) (.int i ui) = operate [.bytes b t, .int i ui] (getItem (.bytes b t) (.int i ui)) := by with_unfolding_all rfl)
    (ht : ∀ r, letTemporaryGo value (.bytes b t) r = pure () := by intro _; with_unfolding_all rfl) : wpAny (model prog w) A (subscriptTail value slice (.bytes b t) (.int i ui)) Q E s := by
  by_cases hi : i < (ks.length : Int)
  · exact KBw.item_K hk hfit h0 hi (fun t' k a b => hin k t' hi a b) hs ht
  · exact idx_out hk hh h0 (by omega) (fun h' tk e hx => hout h' tk e (by omega) hx) hs ht
end

section
variable {M : Model} {A : Around} {E : Value → Shared → Prop} {s : Shared} {base h₀ g : Heap} {L L' a' : Addr} {m m' : Str → Option Value} {l : List Env} {cn' : Str} {cs' : Scope} {ccd' : Value} {w : World} {b : Array UInt8} {x : Ft} {e : Addr} {Err : Ft → Prop}
theorem end_index' {h : Heap} (B : Below A base l g) (F : Fr g L' h m') (hN : Heap.NewExc h s.heap e "IndexError") (FG : Fr h₀ L g m) (hk : cs'.kind = .function) (hx : Err .index)
    (hexc : ∀ x e h' tk', Err x → FlyX (XIs w b x) base h₀ L m l e h' → E (.ref e) { s with heap := h', toks := tk' }) :
    wpAny M (A.deeper (envOf cn' cs' L' a' ccd')) (leaving (envOf cn' cs' L' a' ccd') (.ref e)) (fun _ s'' => E (.ref e) s'') (fun e' s'' => E e' s'') s := by
  obtain ⟨ob, t, he, hc, hd⟩ := hN.there
  obtain ⟨o, es, ep, z, r⟩ := F.ns
  exact end_index (m' := m') B ⟨⟨o, es, ep, hN.keeps _ _ z, r⟩, fun b o z => hN.keeps b o (F.keep b o z), F.above⟩ FG hk (none_in F.keep hN.new) he hc hd hx hexc
end
end Mine
end Idx
section Use
set_option maxRecDepth 100000
namespace Mine
open PySem PySem.W PySem.Spec PySem.Calls PyProof.Rows
local macro_rules | `(tactic| walk_at "my enter") => `(tactic| (refine' code_def ?k1 ?k2 ?k3 ?k4 ?k5 ?kA ?kF ?kK ?k6 ?k7 ?k8 ?k9 ?kB ?_ ?c2 ?c3 ?c4 ?c5; (case kA => exact rfl); (case kF => exact rfl); (case kK => first | assumption | exact rfl); (case k1 => k_asm); (case k2 => k_asm); (case k3 => k_asm); (case k4 => k_asm); (case k5 => k_asm); (case k6 => k_is); (case k7 => k_is); (case k8 => ktr_room); (case k9 => exact BindsTo.of_eq rfl); (case c5 => decide); (case kB => exact locs rfl); (case c2 => exact rfl); (case c3 => exact rfl); (case c4 => exact rfl); k_whole; intro g' L' h' FG' F' N' B' X' T'; (try dsimp only); (try k_fold)))

theorem use_does {w : World} {f : Addr} {vs : List Value} {nd nu : Nat} {news : List (Addr × Obj)} {Ret : List (Addr × Obj) → Value → Prop} {b : Array UInt8} {Err : Ft → Prop} {mean : ExcName → Option Value} {mg mb : Str → Option Value} {dp un : Nat} {gd : Option (List Code)} {cn : Str} {cs : Scope} {a : Addr} {ccd : Value} {cl : List (Str × Addr)} {outer : List Env} {A₀ : Around} {base h₀ : Heap} {L : Addr} {m : Str → Option Value} {s : Shared}
    {Q E : Value → Shared → Prop} (D : Does w f vs nd nu news Ret b Err) (B : Below A₀ base outer h₀) (F : Fr h₀ L s.heap m) (X : (Mine.hd.heap_39 w.params).In h₀) (N : News h₀ L s.heap news) (T : Top Vw Lo mean mg mb h₀) (hk : cs.kind = .function)
    (hd : dp + nd < recursionLimit) (hu : un + nu < cLine)
    (hret : ∀ r tl h' tk', Fr h₀ L h' m → News h₀ L h' (news ++ tl) → (∀ q ∈ news, ∀ p ∈ tl, q.1 < p.1) → Ret tl r → Q r { s with heap := h', toks := tk' })
    (hexc : ∀ x e h' tk', Err x → FlyX (XIs w b x) base h₀ L m (envX cn cs L a ccd cl :: outer) e h' → E (.ref e) { s with heap := h', toks := tk' }) :
    wpAny (model PySem.Challenge.rw_ep5029_01.row.prog w) (ktrTop dp un gd cn cs L a ccd cl outer) (call (.ref f) vs) Q E s :=
  D _ _ _ _ _ _ _ _ _ _ _ _ _ _ _ _ _ _ _ _ B F X N T hk hd hu hret hexc

theorem news_drop {h₀ h : Heap} {L : Addr} {news tl : List (Addr × Obj)} (N : News h₀ L h (news ++ tl)) : News h₀ L h news := fun p hp => N p (List.mem_append.mpr (.inl hp))

set_option maxHeartbeats 8000000 in
theorem be_does (w : World) (b b' : Array UInt8) (bt : Tok) (ks : List Int) (hbk : KBw.bInts b = ks) (hb : ks.length ≤ 8) (news : List (Addr × Obj)) :
   Does w 55 [.bytes b bt] 1 8 news (fun _ v => ∃ t', v = .int (KFB.value ks) t') b' (fun _ => False) := by
  unfold Does
  w_top off
  k_fill
  intro mean mg mb dp un gd cn cs a ccd cl outer A₀ base h₀ L m s Q E B F X N T hk hd hu hret hexc
  refine wpAny_call ?_
  k_dflt (walk_at "my enter")
  k_steps
  all_goals exact hret _ [] _ _ (by assumption) (by rw [List.append_nil]; exact fun p hp => (by assumption : News _ _ _ (_ :: news)) p (List.mem_cons_of_mem _ hp)) (fun _ _ _ h9 => nomatch h9) ⟨_, rfl⟩
end Mine
end Use
section Clp
set_option maxRecDepth 100000
namespace Mine
open PySem PySem.W PySem.Spec PySem.Calls PyProof.Rows
local macro_rules | `(tactic| walk_at "my enter") => `(tactic| (refine' code_def ?k1 ?k2 ?k3 ?k4 ?k5 ?kA ?kF ?kK ?k6 ?k7 ?k8 ?k9 ?kB ?_ ?c2 ?c3 ?c4 ?c5; (case kA => exact rfl); (case kF => exact rfl); (case kK => first | assumption | exact rfl); (case k1 => k_asm); (case k2 => k_asm); (case k3 => k_asm); (case k4 => k_asm); (case k5 => k_asm); (case k6 => k_is); (case k7 => k_is); (case k8 => ktr_room); (case k9 => exact BindsTo.of_eq rfl); (case c5 => decide); (case kB => exact locs rfl); (case c2 => exact rfl); (case c3 => exact rfl); (case c4 => exact rfl); k_whole; intro g' L' h' FG' F' N' B' X' T'; (try dsimp only); (try k_fold)))
local macro_rules | `(tactic| walk_at "exec Raise some none") => `(tactic| (k_here; refine raise_de rfl ?_))
local macro_rules | `(tactic| walk_at "call ref") => `(tactic| (k_here; (with_reducible show wpAny _ _ (call (Value.ref 46) _) _ _ _); k_dflt (refine' de_call ?k1 ?k2 ?k3 ?k4 ?k5 ?kA ?kF ?kK ?kR ?_; (case kA => exact rfl); (case kF => exact rfl); (case kK => exact rfl); (case k1 => k_asm); (case k2 => k_asm); (case k3 => k_asm); (case k4 => k_asm); (case k5 => k_asm); (case kR => ktr_room); k_whole); intro h9 e9 tp9 dx9 tk9 tk9' F9 N9 en9 ee9 et9 ed9))
local macro_rules | `(tactic| walk_at "subscriptTail") => `(tactic| (k_here; (with_reducible show wpAny _ _ (subscriptTail _ _ (Value.bytes _ _) (Value.int _ _)) _ _ _); (refine idx_any (by kba_ints) (by kba_size) (by rfl) (by omega) ?_ ?_); all_goals (intro _ _ _)))
local macro_rules | `(tactic| walk_at "leaving ref") => `(tactic| (k_here; (rename Heap.NewExc _ _ _ _ => hN); k_dflt (refine' end_index' ?kB ?kF hN ?kG ?kH ?_ ?kE; (case kB => k_asm); (case kF => k_asm); (case kG => k_asm); (case kH => exact rfl); (case kE => assumption))))

theorem clip_of {n : Nat} {i : Int} (h : 0 ≤ i) : clipAt n i = min i.toNat n := by
  obtain ⟨k, rfl⟩ := Int.eq_ofNat_of_zero_le h
  rw [clipAt_nat, Int.toNat_natCast]
theorem cut_len {ks : List Int} {lo hi : Int} (h0 : 0 ≤ lo) (h1 : lo ≤ hi) : (cut ks lo hi).length = min hi.toNat ks.length - min lo.toNat ks.length := by
  unfold cut
  rw [List.length_take, List.length_drop, clip_of h0, clip_of (Int.le_trans h0 h1)]
  omega
theorem cut_len_le {ks : List Int} {lo hi : Int} (h0 : 0 ≤ lo) (h1 : lo ≤ hi) : ((cut ks lo hi).length : Int) ≤ hi - lo := by
  rw [cut_len h0 h1]; omega
local macro_rules | `(tactic| walk_at "call ref") => `(tactic| (k_here; (with_reducible show wpAny _ _ (call (Value.ref 55) _) _ _ _); k_dflt (refine' use_does (be_does _ _ #[] _ (cut _ _ _) ?kb ?kl _) ?k1 ?k2 ?k3 ?k4 ?k5 ?kK ?kd ?ku ?_ ?kx; (case kb => assumption); (case kl => exact Int.ofNat_le.mp (Int.le_trans (cut_len_le (by omega) (by omega)) (by omega))); (case k1 => k_asm); (case k2 => k_asm); (case k3 => k_asm); (case k4 => k_asm); (case k5 => k_asm); (case kK => exact rfl); (case kd => ktr_room); (case ku => ktr_units); (case kx => intro x9 e9 h9 tk9 z9; exact z9.elim); (intro r9 tl9 h9 tk9 F9 N9 o9 ret9; replace N9 := news_drop N9; clear o9; obtain ⟨t9, e9⟩ := ret9; subst e9; try dsimp only))))

theorem rais_end {M : Model} {A : Around} {E : Value → Shared → Prop} {s s₁ : Shared} {base h₀ g : Heap} {L L' a' : Addr} {m m' : Str → Option Value} {l : List Env} {cn' : Str} {cs' : Scope} {ccd' : Value} {w : World} {b : Array UInt8} {e : Addr} {Err : Ft → Prop} {msg : Str} {mt bt tk' : Tok} {tp dx : Addr}
    (hexc : ∀ x e h' tk', Err x → FlyX (XIs w b x) base h₀ L m l e h' → E (.ref e) { s with heap := h', toks := tk' }) (hs : ∃ h t, s₁ = { s with heap := h, toks := t }) (en : g.get? e = none) (he : s₁.heap.get? e = some (excObj 46 tp (some dx)))
    (htp : s₁.heap.get? tp = some { cls := .type "tuple", data := .seq #[.str msg mt] }) (hdx : s₁.heap.get? dx = some (dictOf [⟨PyData.keyHash w.params "rlp", .str "rlp" tk', .bytes b bt⟩] 1))
    (F : Fr g L' s₁.heap m') (FG : Fr h₀ L g m) (B : Below A base l g) (X : (Mine.hd.heap_39 w.params).In g) (hk : cs'.kind = .function) (hx : Err (.fault msg)) :
    RaisX (fun e s' => wpAny M (A.deeper (envOf cn' cs' L' a' ccd')) (leaving (envOf cn' cs' L' a' ccd') e) (fun _ s'' => E e s'') (fun e' s'' => E e' s'') s') (.ref e) s₁ := by
  obtain ⟨h, t, rfl⟩ := hs
  exact ⟨_, _, _, rfl, dErr_in (X.keeps F.keep), he, end_fault B F FG hk en he htp hdx hx hexc⟩

theorem bytes_zero {b : Array UInt8} : (b.toList == (#[0] : Array UInt8).toList) = decide (KBw.bInts b = [0]) := by
  obtain ⟨l⟩ := b
  have key : ∀ l : List UInt8, (l == [0]) = decide (l.map (fun c => (c.toNat : Int)) = [0]) := by
    intro l
    match l with
    | [] => rfl
    | [c] =>
      have q : (c = 0) ↔ ((c.toNat : Int) = 0) := by
        constructor
        · rintro rfl; rfl
        · intro z; exact UInt8.toNat_inj.mp (by have : c.toNat = 0 := by omega
                                                rw [this]; rfl)
      by_cases hc : c = 0
      · subst hc; rfl
      · have q' : ¬ (c.toNat = 0) := fun z => hc (q.mpr (by omega))
        have q'' : (c == 0) = false := beq_eq_false_iff_ne.mpr hc
        simp [q', q'']
    | _ :: _ :: _ => simp
  exact key l

theorem ret_end {h₀ h : Heap} {L D : Addr} {m : Str → Option Value} {news : List (Addr × Obj)} {o : Obj} {t : Nat} {s : Shared} {Q : Value → Shared → Prop} {Ret : List (Addr × Obj) → Value → Prop}
    (hret : ∀ r tl h' tk', Fr h₀ L h' m → News h₀ L h' (news ++ tl) → (∀ q ∈ news, ∀ p ∈ tl, q.1 < p.1) → Ret tl r → Q r { s with heap := h', toks := tk' })
    (F : Fr h₀ L h m) (N : News h₀ L h ((D, o) :: news)) (l : ∀ p ∈ news, p.1 < D) (R : Ret [(D, o)] (.ref D)) : Q (.ref D) { s with heap := h, toks := t } :=
  hret _ [_] _ _ F (ktn_tl1 N) (fun q hq p hp => by rw [List.mem_singleton.mp hp]; exact l q hq) R

theorem headRet_of {ks : List Int} {k : Int} {n : List (Addr × Obj)} {a : Addr} {pb : Array UInt8} {pt st ot : Tok} {ty : Value} {lst : Bool} {sz ps : Int} {pre : List Int}
    (m : (a, ({ cls := .type "tuple", data := .seq #[.bytes pb pt, ty, .int sz st, .int ps ot] } : Obj)) ∈ n) (ht : ty = kindV lst) (hb : KBw.bInts pb = pre) (e : headP ks k = .ok ⟨pre, lst, sz, ps⟩) : HeadRet ks k n (.ref a) :=
  ⟨_, e, a, pb, pt, st, ot, rfl, by rw [← ht]; exact m, hb⟩

set_option maxHeartbeats 8000000 in
theorem clp_does (w : World) (b : Array UInt8) (bt : Tok) (ks : List Int) (k : Int) (kt : Tok) (hbk : KBw.bInts b = ks) (hb : ks.length ≤ 200) (hk0 : 0 ≤ k) (news : List (Addr × Obj)) :
   Does w 62 [.bytes b bt, .int k kt] 9 80 news (HeadRet ks k) b (HeadErr ks k) := by
  unfold Does
  w_top off
  k_fill
  intro mean mg mb dp un gd cn cs a ccd cl outer A₀ base h₀ L m s Q E B F X N T hk hd hu hret hexc
  refine wpAny_call ?_
  k_dflt (walk_at "my enter")
  k_steps
  all_goals (try (rename (((KBy.picked _ _ _).toList == _) = _) => hz0; rw [bytes_zero, (by assumption : KBw.bInts (KBy.picked b (some (k + 1)) (some (k + 2))) = _)] at hz0; replace hz0 := (by simpa using hz0)))
  all_goals (try (refine rais_end hexc ⟨_, _, rfl⟩ (by assumption) (by assumption) (by assumption) (by assumption) (by assumption) (by assumption) (by assumption) (by assumption) rfl ?_))
  all_goals (try (refine ret_end hret (by assumption) (by assumption) (by first | assumption | exact ktn_ltOf (by assumption)) ?_; refine headRet_of (.head _) (by first | exact (rfl : _ = kindV true) | exact (rfl : _ = kindV false)) (by first | assumption | exact (rfl : KBw.bInts #[] = [])) ?_))
  all_goals (try (show headP _ _ = _))
  all_goals (unfold headP)
  all_goals (repeat (first | rw [if_pos (by first | assumption | omega)] | rw [if_neg (by first | assumption | omega)]))
  all_goals (try unfold longP)
  all_goals (repeat (first | rw [if_pos (by first | assumption | omega)] | rw [if_neg (by first | assumption | omega)]))
  all_goals (try rfl)
end Mine
end Clp
section Facts
set_option maxRecDepth 100000
namespace Mine
open PySem PySem.W PySem.Spec PySem.Calls PyProof.Rows

structure HdOk (ks : List Int) (k : Int) (h : Hd) : Prop where
  k0 : 0 ≤ k
  kl : k < ks.length
  sz : 0 ≤ h.size
  kp : k ≤ h.pos
  kn : k < h.pos + h.size ∨ k < h.pos
  lp : h.lst = true → k < h.pos
  p9 : h.pos ≤ k + 9
  pl : (h.pre.length : Int) ≤ min h.pos ks.length - k

theorem val_nonneg {l : List Int} (h : ∀ x ∈ l, 0 ≤ x) : 0 ≤ KFB.value l := by
  have key : ∀ (l : List Int) (a : Int), 0 ≤ a → (∀ x ∈ l, 0 ≤ x) → 0 ≤ l.foldl (fun a k => a * 256 + k) a := by
    intro l
    induction l with
    | nil => intro a ha _; exact ha
    | cons x r ih =>
      intro a ha hx
      rw [List.foldl_cons]
      have := hx x (.head _)
      exact ih _ (by omega) fun y hy => hx y (.tail _ hy)
  exact key l 0 (Int.le_refl _) h

theorem headP_ok {ks : List Int} {k : Int} {h : Hd} (hk : 0 ≤ k) (hb : ∀ x ∈ ks, 0 ≤ x ∧ x < 256) (e : headP ks k = .ok h) : HdOk ks k h := by
  have hl : ∀ (ll : Int) (lst : Bool), 1 ≤ ll → ll ≤ 8 → k < ks.length → longP ks k ll lst = .ok h → HdOk ks k h := by
    intro ll lst l1 l8 kl e
    unfold longP at e
    split at e
    · cases e
    · split at e
      · cases e
      · rename_i hz hv
        cases e
        have c1 := @cut_len ks k (k + 1) hk (by omega)
        have c2 := @cut_len ks (k + 1) (k + 1 + ll) (by omega) (by omega)
        have pl : ((cut ks k (k + 1) ++ cut ks (k + 1) (k + 1 + ll)).length : Int) ≤ min (k + 1 + ll) ks.length - k := by
          rw [List.length_append]
          omega
        exact ⟨hk, kl, by show 0 ≤ KFB.value _; omega, by show k ≤ k + 1 + ll; omega, by right; show k < k + 1 + ll; omega, fun _ => by show k < k + 1 + ll; omega, by show k + 1 + ll ≤ k + 9; omega, pl⟩
  unfold headP at e
  split at e
  · cases e
  rename_i kl
  have kl' : k < ks.length := by omega
  have hf : 0 ≤ ks.getD k.toNat 0 ∧ ks.getD k.toNat 0 < 256 := KBw.getD_in hb
  have c1 := @cut_len ks k (k + 1) hk (by omega)
  generalize hx : ks.getD k.toNat 0 = f at *
  have sh : ∀ (lst : Bool) (sz : Int), 0 ≤ sz → HdOk ks k ⟨cut ks k (k + 1), lst, sz, k + 1⟩ := fun lst sz hz =>
    ⟨hk, kl', hz, by show k ≤ k + 1; omega, by right; show k < k + 1; omega, fun _ => by show k < k + 1; omega, by show k + 1 ≤ k + 9; omega, by show ((cut ks k (k + 1)).length : Int) ≤ min (k + 1) ks.length - k; omega⟩
  split at e
  · cases e
    exact ⟨hk, kl', by show (0 : Int) ≤ 1; omega, Int.le_refl _, by left; show k < k + 1; omega, (fun q => by cases q), by show k ≤ k + 9; omega, by show (0 : Int) ≤ min k ks.length - k; omega⟩
  split at e
  · split at e
    · split at e
      · cases e
      · split at e
        · cases e
        · cases e; exact sh _ _ (by omega)
    · cases e; exact sh _ _ (by omega)
  split at e
  · exact hl _ _ (by omega) (by omega) kl' e
  split at e
  · cases e; exact sh _ _ (by omega)
  · exact hl _ _ (by omega) (by omega) kl' e

theorem pay_leaf {ks : List Int} {h : Hd} (e : h.lst = false) : pay ks h = some (.ok (.leaf (cut ks h.pos (h.pos + h.size)), .node [.leaf (h.pre ++ cut ks h.pos (h.pos + h.size))], h.pos + h.size)) := by
  rw [pay, if_neg (by rw [e]; decide)]
theorem pay_list {ks : List Int} {h : Hd} (e : h.lst = true) : pay ks h = loop ks (h.pos + h.size) h.pos [] [] h.pre := by
  rw [pay, if_pos e]
theorem loop_done {ks : List Int} {e k : Int} {its rls : List Tr} {body : List Int} (h : k = e) : loop ks e k its rls body = some (.ok (.node its, .node (.leaf body :: rls), k)) := by
  rw [loop, if_neg (by omega), if_neg (by omega)]
theorem loop_over {ks : List Int} {e k : Int} {its rls : List Tr} {body : List Int} (h : e < k) : loop ks e k its rls body = some (.error (.fault M5)) := by
  rw [loop, if_neg (by omega), if_pos h]
theorem loop_bad {ks : List Int} {e k : Int} {its rls : List Tr} {body : List Int} {x : Ft} (h : k < e) (q : headP ks k = .error x) : loop ks e k its rls body = some (.error x) := by
  rw [loop, if_pos h, q]
theorem loop_part {ks : List Int} {e k : Int} {its rls : List Tr} {body : List Int} {hd : Hd} {x : Ft} (h : k < e) (q : headP ks k = .ok hd) (p : pay ks hd = some (.error x)) : loop ks e k its rls body = some (.error x) := by
  rw [loop, if_pos h, q]
  show (pay ks hd >>= _) = _
  rw [p]
  rfl
theorem loop_turn {ks : List Int} {e k nx : Int} {its rls : List Tr} {body : List Int} {hd : Hd} {it rl : Tr} (h : k < e) (q : headP ks k = .ok hd) (p : pay ks hd = some (.ok (it, rl, nx))) :
    loop ks e k its rls body = loop ks e nx (its ++ [it]) (rls ++ [rl]) (body ++ firstOf rl) := by
  rw [loop, if_pos h, q]
  show (pay ks hd >>= _) = _
  rw [p]
  rfl

/-- a while by a state that counts down -/
def LoopNext (J : Nat → Shared → Prop) (n : Nat) (s : Shared) : Prop := ∃ n', n' < n ∧ J n' s
def LoopPost (J : Nat → Shared → Prop) (n : Nat) (Q : Flow → Shared → Prop) (f : Flow) (s : Shared) : Prop :=
  match f with
  | .next => LoopNext J n s
  | .cont => LoopNext J n s
  | .brk => Q .next s
  | .ret v => Q (.ret v) s

theorem whl_inv {prog : Program} {w : World} {A : Around} {E : Value → Shared → Prop} {env : Env} {test : PySem.Expr} {body orelse : List Stmt} {pos : Pos} {Q : Flow → Shared → Prop} {s : Shared} (J : Nat → Shared → Prop) (n : Nat) (hE : PassesOwn (model prog w) A env E)
    (step : ∀ n s, J n s → wpAny (model prog w) A (isTrue test env (eval test env)) (fun b s₂ => if b = true then wpAny (model prog w) A (execs body env) (LoopPost J n Q) E s₂ else wpAny (model prog w) A (execs orelse env) Q E s₂) E s) (h : J n s) :
    wpAny (model prog w) A (exec (.While test body orelse pos) env) Q E s := by
  refine whl_start 0 ?_
  have key : ∀ n s, J n s → WhlRest prog w A E env test body orelse Q 0 s := by
    intro n
    induction n using Nat.strongRecOn with
    | ind n ih =>
      intro s hs
      refine whl_turn (k := 0) hE (wpAny_mono (step n s hs) (fun b s₂ h₂ => ?_) fun _ _ z => z)
      cases b with
      | false => exact WhlIf.no rfl (by simpa using h₂)
      | true =>
        refine WhlIf.yes rfl (wpAny_mono (by simpa using h₂) (fun f s₃ h₃ => ?_) fun _ _ z => z)
        cases f with
        | next => obtain ⟨n', l, j⟩ := h₃; exact ih n' l s₃ j
        | cont => obtain ⟨n', l, j⟩ := h₃; exact ih n' l s₃ j
        | brk => exact h₃
        | ret v => exact h₃
  exact key n s h
end Mine
end Facts
section Pay
set_option maxRecDepth 100000
namespace Mine
open PySem PySem.W PySem.Spec PySem.Calls PyProof.Rows
local macro_rules | `(tactic| walk_at "my enter") => `(tactic| (refine' code_def ?k1 ?k2 ?k3 ?k4 ?k5 ?kA ?kF ?kK ?k6 ?k7 ?k8 ?k9 ?kB ?_ ?c2 ?c3 ?c4 ?c5; (case kA => exact rfl); (case kF => exact rfl); (case kK => first | assumption | exact rfl); (case k1 => k_asm); (case k2 => k_asm); (case k3 => k_asm); (case k4 => k_asm); (case k5 => k_asm); (case k6 => k_is); (case k7 => k_is); (case k8 => ktr_room); (case k9 => exact BindsTo.of_eq rfl); (case c5 => decide); (case kB => exact locs rfl); (case c2 => exact rfl); (case c3 => exact rfl); (case c4 => exact rfl); k_whole; intro g' L' h' FG' F' N' B' X' T'; (try dsimp only); (try k_fold)))
local macro_rules | `(tactic| walk_at "exec Raise some none") => `(tactic| (k_here; refine raise_de rfl ?_))
local macro_rules | `(tactic| walk_at "call ref") => `(tactic| (k_here; (with_reducible show wpAny _ _ (call (Value.ref 46) _) _ _ _); k_dflt (refine' de_call ?k1 ?k2 ?k3 ?k4 ?k5 ?kA ?kF ?kK ?kR ?_; (case kA => exact rfl); (case kF => exact rfl); (case kK => exact rfl); (case k1 => k_asm); (case k2 => k_asm); (case k3 => k_asm); (case k4 => k_asm); (case k5 => k_asm); (case kR => ktr_room); k_whole); intro h9 e9 tp9 dx9 tk9 tk9' F9 N9 en9 ee9 et9 ed9))
local macro_rules | `(tactic| walk_at "subscriptTail") => `(tactic| (k_here; (with_reducible show wpAny _ _ (subscriptTail _ _ (Value.bytes _ _) (Value.int _ _)) _ _ _); (refine idx_any (by kba_ints) (by kba_size) (by rfl) (by omega) ?_ ?_); all_goals (intro _ _ _)))
local macro_rules | `(tactic| walk_at "leaving ref") => `(tactic| (k_here; (rename Heap.NewExc _ _ _ _ => hN); k_dflt (refine' end_index' ?kB ?kF hN ?kG ?kH ?_ ?kE; (case kB => k_asm); (case kF => k_asm); (case kG => k_asm); (case kH => exact rfl); (case kE => assumption))))
def need (ks : List Int) (h : Hd) : Nat := if h.lst then (ks.length - h.pos).toNat + 12 else 3

theorem ret_own {h₀ h : Heap} {L : Addr} {m : Str → Option Value} {news own : List (Addr × Obj)} {t : Nat} {s : Shared} {Q : Value → Shared → Prop} {Ret : List (Addr × Obj) → Value → Prop} {v : Value}
    (hret : ∀ r tl h' tk', Fr h₀ L h' m → News h₀ L h' (news ++ tl) → (∀ q ∈ news, ∀ p ∈ tl, q.1 < p.1) → Ret tl r → Q r { s with heap := h', toks := tk' })
    (F : Fr h₀ L h m) (N : News h₀ L h (own ++ news)) (l : ∀ q ∈ news, ∀ p ∈ own, q.1 < p.1) (R : Ret own v) : Q v { s with heap := h, toks := t } :=
  hret _ own _ _ F (fun p hp => N p (by rcases List.mem_append.mp hp with z | z; exact List.mem_append.mpr (.inr z); exact List.mem_append.mpr (.inl z))) l R
theorem mem_own {p : Addr × Obj} {news own : List (Addr × Obj)} (h : p ∈ own) : p ∈ news ++ own := List.mem_append.mpr (.inr h)
theorem own_lt2 {news : List (Addr × Obj)} {p q : Addr × Obj} (h1 : ∀ x ∈ news, x.1 < p.1) (h2 : AllLt q.1 news) : ∀ x ∈ news, ∀ y ∈ [q, p], x.1 < y.1 := by
  intro x hx y hy
  rcases List.mem_cons.mp hy with rfl | hy
  · exact ktn_ltOf h2 x hx
  · rw [List.mem_singleton.mp hy]; exact h1 x hx

set_option maxHeartbeats 8000000 in
theorem pay_leaf_does (w : World) (b : Array UInt8) (bt : Tok) (ks : List Int) (hbk : KBw.bInts b = ks) (hb : ks.length ≤ 200) (pre : List Int) (size pos : Int) (k0 : Int) (ho : HdOk ks k0 ⟨pre, false, size, pos⟩)
   (pb : Array UInt8) (pt st szt : Tok) (hpb : KBw.bInts pb = pre) (news : List (Addr × Obj)) :
   Does w 69 [.bytes b bt, .bytes pb pt, .int pos st, .type "bytes", .int size szt] 3 100 news (PayRet ks ⟨pre, false, size, pos⟩) b (PayErr ks ⟨pre, false, size, pos⟩) := by
  unfold Does
  w_top off
  k_fill
  have hpl : pre.length ≤ 200 := by have q := ho.pl; have q2 := ho.k0; dsimp only at q; omega
  intro mean mg mb dp un gd cn cs a ccd cl outer A₀ base h₀ L m s Q E B F X N T hk hd hu hret hexc
  refine wpAny_call ?_
  k_dflt (walk_at "my enter")
  k_steps
  have c1 := @cut_len ks k0 pos ho.k0 ho.kp
  have c2 := @cut_len ks pos (pos + size) (Int.le_trans ho.k0 ho.kp) (by have := ho.sz; dsimp only at this; omega)
  have c3 := ho.kp
  have c4 := ho.k0
  have c5 := ho.sz
  dsimp only at c3 c5
  refine ret_own (own := [_, _]) hret (by assumption) (by assumption) (own_lt2 (by assumption) (And.right (by assumption))) ?_
  refine ⟨_, _, [], _, pay_leaf rfl, _, _, _, _, _, [], _, _, rfl, .head _, TrIn.leaf (by assumption), .tail _ (.head _), by assumption, .nil, ?_, fun _ => rfl, ?_⟩
  · dsimp only; omega
  · rw [List.length_append]; dsimp only; omega
end Mine
end Pay
section Iadd
namespace Mine
open PySem PySem.W PySem.Calls PyProof.Rows
theorem noIadd : typeLookup (.type "bytes") (dunderI "add") = pure none := by rw [typeLookup_type, builtinLookup_eq_fast]; kernel_rfl
theorem iadd_bytes {prog : Program} {w : World} {A : Around} {E : Value → Shared → Prop} {s : Shared} {b c : Array UInt8} {t u : Tok} {Q : Value → Shared → Prop} (hsz : b.size + c.size ≤ 16777216) (h : ∀ t' k, Q (.bytes (b ++ c) t') { s with toks := k }) : wpAny (model prog w) A (inplaceOp .Add (.bytes b t) (.bytes c u)) Q E s := by
  refine wpAny_inplaceOp_concat (typeIs_bytes s b t) (typeIs_bytes s c u) noIadd KBy.noFill_bytes_add KBy.seq_bytes_add ?_
  refine call_meets FB.slot_bytes_add (typeIs_bytes s b t) FB.entry_bytes_add (FB.args_bytes_add_2 _ _) (KBy.gives_bytes_add (KBy.tooLong_not hsz)).meets ?_
  show Made.post _ _ _
  by_cases hb : b.isEmpty = true
  · rw [if_pos hb]
    have e : b = #[] := Array.isEmpty_iff.1 hb
    have h' := h u s.toks
    rw [e, Array.empty_append] at h'
    exact h'
  · rw [if_neg hb]
    by_cases hc : c.isEmpty = true
    · rw [if_pos hc]
      have e : c = #[] := Array.isEmpty_iff.1 hc
      have h' := h t s.toks
      rw [e, Array.append_empty] at h'
      exact h'
    · rw [if_neg hc]
      exact ⟨by rw [Array.size_append, sizeLine_eq]; exact hsz, h s.toks (s.toks + 1)⟩
theorem iadd_K {prog : Program} {w : World} {A : Around} {E : Value → Shared → Prop} {s : Shared} {b c : Array UInt8} {t u : Tok} {ks ls : List Int} {Q : Value → Shared → Prop} (hb : KBw.bInts b = ks) (hc : KBw.bInts c = ls) (hsz : ks.length + ls.length ≤ 16777216) (h : ∀ t' k, KBw.bInts (b ++ c) = ks ++ ls → Q (.bytes (b ++ c) t') { s with toks := k }) : wpAny (model prog w) A (inplaceOp .Add (.bytes b t) (.bytes c u)) Q E s :=
  iadd_bytes (by rw [← KBw.ints_length b, ← KBw.ints_length c, hb, hc]; exact hsz) fun t' k => h t' k (KBw.ints_app hb hc)
end Mine
end Iadd
section PayL
set_option maxRecDepth 100000
namespace Mine
open PySem PySem.W PySem.Spec PySem.Calls PyProof.Rows
local macro_rules | `(tactic| walk_at "my enter") => `(tactic| (refine' code_def ?k1 ?k2 ?k3 ?k4 ?k5 ?kA ?kF ?kK ?k6 ?k7 ?k8 ?k9 ?kB ?_ ?c2 ?c3 ?c4 ?c5; (case kA => exact rfl); (case kF => exact rfl); (case kK => first | assumption | exact rfl); (case k1 => k_asm); (case k2 => k_asm); (case k3 => k_asm); (case k4 => k_asm); (case k5 => k_asm); (case k6 => k_is); (case k7 => k_is); (case k8 => ktr_room); (case k9 => exact BindsTo.of_eq rfl); (case c5 => decide); (case kB => exact locs rfl); (case c2 => exact rfl); (case c3 => exact rfl); (case c4 => exact rfl); k_whole; intro g' L' h' FG' F' N' B' X' T'; (try dsimp only); (try k_fold)))
local macro_rules | `(tactic| walk_at "exec Raise some none") => `(tactic| (k_here; refine raise_de rfl ?_))
local macro_rules | `(tactic| walk_at "call ref") => `(tactic| (k_here; (with_reducible show wpAny _ _ (call (Value.ref 46) _) _ _ _); k_dflt (refine' de_call ?k1 ?k2 ?k3 ?k4 ?k5 ?kA ?kF ?kK ?kR ?_; (case kA => exact rfl); (case kF => exact rfl); (case kK => exact rfl); (case k1 => k_asm); (case k2 => k_asm); (case k3 => k_asm); (case k4 => k_asm); (case k5 => k_asm); (case kR => ktr_room); k_whole); intro h9 e9 tp9 dx9 tk9 tk9' F9 N9 en9 ee9 et9 ed9))
local macro_rules | `(tactic| walk_at "subscriptTail") => `(tactic| (k_here; (with_reducible show wpAny _ _ (subscriptTail _ _ (Value.bytes _ _) (Value.int _ _)) _ _ _); (refine idx_any (by kba_ints) (by kba_size) (by rfl) (by omega) ?_ ?_); all_goals (intro _ _ _)))
local macro_rules | `(tactic| walk_at "leaving ref") => `(tactic| (k_here; (rename Heap.NewExc _ _ _ _ => hN); k_dflt (refine' end_index' ?kB ?kF hN ?kG ?kH ?_ ?kE; (case kB => k_asm); (case kF => k_asm); (case kG => k_asm); (case kH => exact rfl); (case kE => assumption))))
local macro_rules | `(tactic| k_mem) => `(tactic| ((with_reducible show @List.Mem (Addr × Obj) _ (_ ++ _)); first | (refine List.mem_append.mpr (Or.inl ?_); k_mem) | (refine List.mem_append.mpr (Or.inr ?_); k_mem)))
local macro_rules | `(tactic| k_mem) => `(tactic| ((with_reducible show @List.Mem (Addr × Obj) _ _); (show Membership.mem (γ := List (Addr × Obj)) _ _); ktr_member))
theorem does_weaken {w : World} {f : Addr} {vs : List Value} {nd nu nd' nu' : Nat} {news : List (Addr × Obj)} {Ret : List (Addr × Obj) → Value → Prop} {b : Array UInt8} {Err : Ft → Prop} (D : Does w f vs nd nu news Ret b Err) (h1 : nd ≤ nd') (h2 : nu ≤ nu') : Does w f vs nd' nu' news Ret b Err :=
  fun mean mg mb dp un gd cn cs a ccd cl outer A₀ base h₀ L m s Q E B F X N T hk hd hu hret hexc => D mean mg mb dp un gd cn cs a ccd cl outer A₀ base h₀ L m s Q E B F X N T hk (by omega) (by omega) hret hexc

theorem away_app {rest tl ledger : List (Addr × Obj)} {a : Addr} {o : Obj} (h : ∀ p ∈ rest, p.1 ≠ a) (ho : ∀ q ∈ ledger, ∀ p ∈ tl, q.1 < p.1) (hm : (a, o) ∈ ledger) : ∀ p ∈ rest ++ tl, p.1 ≠ a := fun p hp => by
  rcases List.mem_append.mp hp with z | z
  · exact h p z
  · exact Nat.ne_of_gt (ho _ hm p z)

def Held (P : Prop) : Prop := P
theorem held {P : Prop} (h : Held P) : P := h
theorem unheld {P : Prop} (h : P) : Held P := h
local macro_rules | `(tactic| walk_at "exec While Compare cons nil") => `(tactic| (refine held ?_))
local macro_rules | `(tactic| walk_at "call ref") => `(tactic| ((with_reducible show wpAny _ _ (call (Value.ref 62) _) _ _ _); refine held ?_))
local macro_rules | `(tactic| walk_at "call ref") => `(tactic| ((with_reducible show wpAny _ _ (call (Value.ref 69) _) _ _ _); refine held ?_))
local macro_rules | `(tactic| walk_at "eval Name") => `(tactic| (k_here; k_dflt (refine' ld ?k1 ?k2 ?_; (case k1 => k_asm); (case k2 => assumption); k_whole)))
local macro_rules | `(tactic| k_all) => `(tactic| assumption)

theorem idx_list0 {prog : Program} {w : World} {A : Around} {E : Value → Shared → Prop} {s : Shared} {value slice : PySem.Expr} {h₀ : Heap} {L l : Addr} {news : List (Addr × Obj)} {v0 : Value} {vs : List Value} {n : Nat} {u : Tok} {Q : Value → Shared → Prop}
    (N : News h₀ L s.heap news) (hm : (l, W.listOf (v0 :: vs).toArray n) ∈ news) (h : Q v0 s)
    (hs : subscripted slice false (.ref l) (.int 0 u) = operate [.ref l, .int 0 u] (getItem (.ref l) (.int 0 u)) := by with_unfolding_all rfl) :
    wpAny (model prog w) A (subscriptTail value slice (.ref l) (.int 0 u)) Q E s :=
  have hl : s.heap.IsList l (v0 :: vs).toArray := ⟨_, (N _ hm).1, rfl, n, rfl⟩
  tail_any hl.typeIs slot_list_getitem.lookup (wpAny_getItem_list hl (by decide) (by decide) rfl h) hs
local macro_rules | `(tactic| walk_at "subscriptTail") => `(tactic| (k_here; (with_reducible show wpAny _ _ (subscriptTail _ _ (Value.ref _) (Value.int 0 _)) _ _ _); (refine' idx_list0 ?k1 ?k2 ?_ ?k3; (case k1 => k_asm); (case k2 => k_mem); (case k3 => with_unfolding_all rfl); k_whole)))
local macro_rules | `(tactic| walk_at "loadName") => `(tactic| (k_here; k_dflt (refine' ldn ?k1 ?k2 ?_; (case k1 => k_asm); (case k2 => first | exact rfl | assumption); k_whole)))

local macro_rules | `(tactic| walk_at "inplaceOp Add bytes bytes") => `(tactic| (k_here; (refine iadd_K rfl (by assumption) (by omega) ?_); intro t7 k7 app7))

theorem news_swap {h₀ h : Heap} {L : Addr} {x y z : Addr × Obj} {news tl : List (Addr × Obj)} (N : News h₀ L h (x :: y :: z :: (news ++ tl))) : News h₀ L h ((x :: y :: z :: tl) ++ news) := fun p hp => N p (by
  simp only [List.cons_append, List.mem_cons, List.mem_append] at hp ⊢
  rcases hp with h | h | h | h | h
  · exact .inl h
  · exact .inr (.inl h)
  · exact .inr (.inr (.inl h))
  · exact .inr (.inr (.inr (.inr h)))
  · exact .inr (.inr (.inr (.inl h))))

theorem loop_next {J : Nat → Shared → Prop} {n : Nat} {Q : Flow → Shared → Prop} {s : Shared} (h : LoopNext J n s) : LoopPost J n Q .next s := h

structure PayJ (b : Array UInt8) (bt : Tok) (ks pre : List Int) (size pos : Int) (g' : Heap) (L' aI aR : Addr) (news : List (Addr × Obj))
    (mm : Str → Option Value) (k : Int) (its rls : List Tr) (lb : Array UInt8) (lt kt te : Tok) (vs2 vs3 : List Value) (ep ep3 : Nat) (tl : List (Addr × Obj)) (h' : Heap) : Prop where
  F : Fr g' L' h' mm
  N : News g' L' h' ((aR, W.listOf vs3.toArray ep3) :: (aI, W.listOf vs2.toArray ep) :: (news ++ tl))
  aw1 : ∀ p ∈ news ++ tl, p.1 ≠ aR
  aw2 : ∀ p ∈ news ++ tl, p.1 ≠ aI
  ord : ∀ q ∈ news, ∀ p ∈ tl, q.1 < p.1
  m1 : mm "rlp" = some (.bytes b bt)
  m2 : mm "end" = some (.int (pos + size) te)
  m3 : mm "next_item_start" = some (.int k kt)
  m4 : mm "items" = some (.ref aI)
  m5 : mm "per_item_rlp" = some (.ref aR)
  m6 : mm "list_rlp" = some (.bytes lb lt)
  T2 : TrsIn tl vs2 its
  T3 : TrsIn tl vs3 rls
  kp : pos ≤ k
  bl : ((KBw.bInts lb).length : Int) ≤ pre.length + (min k ks.length - min pos ks.length)
  il : (its.length : Int) ≤ min k ks.length - min pos ks.length
  rl : (rls.length : Int) ≤ min k ks.length - min pos ks.length
  eq : loop ks (pos + size) pos [] [] pre = loop ks (pos + size) k its rls (KBw.bInts lb)

set_option maxHeartbeats 8000000 in
theorem pay_does (w : World) (b : Array UInt8) (bt : Tok) (ks : List Int) (hbk : KBw.bInts b = ks) (hb : ks.length ≤ 200) (hin : ∀ x ∈ ks, 0 ≤ x ∧ x < 256) :
   ∀ (n : Nat) (k0 : Int) (h : Hd), HdOk ks k0 h → need ks h ≤ n → ∀ (pb : Array UInt8) (pt st szt : Tok), KBw.bInts pb = h.pre → ∀ news : List (Addr × Obj),
   Does w 69 [.bytes b bt, .bytes pb pt, .int h.pos st, kindV h.lst, .int h.size szt] (need ks h) (4 * need ks h + 100) news (PayRet ks h) b (PayErr ks h) := by
  intro n
  induction n with
  | zero => intro k0 h ho hn; unfold need at hn; split at hn <;> omega
  | succ n IH =>
  intro k0 h ho hn pb pt st szt hpb news
  obtain ⟨pre, lst, size, pos⟩ := h
  cases lst with
  | false => exact does_weaken (pay_leaf_does w b bt ks hbk hb pre size pos k0 ho pb pt st szt hpb news) (Nat.le_of_eq rfl) (by unfold need; dsimp only; omega)
  | true =>
  have hpl : pre.length ≤ 200 := by have q := ho.pl; have q2 := ho.k0; dsimp only at q; omega
  have c1 := @cut_len ks k0 pos ho.k0 ho.kp
  have c3 := ho.kp
  have c4 := ho.k0
  have c5 := ho.sz
  have c6 := ho.pl
  dsimp only at c3 c5 c6
  have hnd : need ks ⟨pre, true, size, pos⟩ = ((ks.length : Int) - pos).toNat + 12 := rfl
  rw [hnd] at hn ⊢
  replace hpb : KBw.bInts pb = pre := hpb
  show Does w 69 [.bytes b bt, .bytes pb pt, .int pos st, .type "list", .int size szt] _ _ _ _ _ _
  unfold Does
  w_top off
  k_fill
  intro mean mg mb dp un gd cn cs a ccd cl outer A₀ base h₀ L m s Q E B F X N T hk hd hu hret hexc
  refine wpAny_call ?_
  k_dflt (walk_at "my enter")
  k_steps
  refine unheld ?_
  (with_reducible rename Fr _ _ _ _ => F1)
  (with_reducible rename News _ _ _ _ => N1)
  rename_i g' L' h1 FG' B' X' T' n1 aI h2 lI h3 n2 aR h4 lR h5 h6 h7 h8
  clear h1 h2 h3 h4 h5 h6
  refine whl_inv (fun n s' => ∃ (mm : Str → Option Value) (k : Int) (its rls : List Tr) (lb : Array UInt8) (lt kt te : Tok) (vs2 vs3 : List Value) (ep ep3 : Nat) (tl : List (Addr × Obj)) (h' : Heap) (tk : Nat),
    s' = { s with heap := h', toks := tk } ∧ PayJ b bt ks pre size pos g' L' aI aR news mm k its rls lb lt kt te vs2 vs3 ep ep3 tl h' ∧ n = ((ks.length : Int) - k).toNat) _ ?_ ?_ ⟨_, pos, [], [], pb, pt, _, _, [], [], 0, 0, [], _, _, rfl, ⟨F1, ?_, ?_, ?_, (fun _ _ _ z => nomatch z), rfl, rfl, rfl, rfl, rfl, rfl, .nil, .nil, Int.le_refl _, ?_, ?_, ?_, ?_⟩, rfl⟩
  · passes_own
  · clear F1 N1
    intro n s' hJ
    obtain ⟨mm, k, its, rls, lb, lt, kt, te, vs2, vs3, ep, ep3, tl, h', tk, rfl, J, rfl⟩ := hJ
    obtain ⟨F1, N1, aw1, aw2, ord, m1, m2, m3, m4, m5, m6, T2, T3, kp, bl, il, rl, eq⟩ := J
    have hvl2 := TrsIn.length T2
    have hvl3 := TrsIn.length T3
    k_steps
    · refine unheld ?_
      refine use_does (clp_does w b bt ks k kt hbk hb (by omega) _) B' F1 ((by assumption : (Mine.hd.heap_39 w.params).In g')) N1 T' rfl (by ktr_room) (by ktr_units) ?_ ?_
      · intro r9 tl9 h9 tk9 F9 N9 o9 ret9
        obtain ⟨hd9, eh9, a9, pb9, pt9, st9, ot9, rfl, mem9, epb9⟩ := ret9
        have ho9 := headP_ok (by omega) hin eh9
        have aw1' := away_app aw1 o9 (.head _)
        have aw2' := away_app aw2 o9 (.tail _ (.head _))
        simp only [List.cons_append, List.append_assoc] at N9 aw1' aw2'
        clear aw1 aw2 N1 F1
        try dsimp only
        try k_fold
        k_steps
        refine unheld ?_
        (with_reducible rename Fr _ _ _ _ => F2)
        (with_reducible rename News _ _ _ _ => N2)
        have hneed : need ks hd9 + 1 ≤ ((ks.length : Int) - pos).toNat + 12 := by
          have z1 := ho9.lp
          have z2 := ho9.kl
          unfold need
          split
          · rename_i zl; have := z1 zl; omega
          · omega
        k_dflt (refine' use_does (IH k hd9 ho9 (by omega) pb9 pt9 ot9 st9 epb9 _) B' ?k2 X' ?k4 T' ?kK ?kd ?ku ?kr ?kx)
        case k2 => exact F2
        case k4 => exact N2
        case kK => exact rfl
        case kd => show dp + 1 + need ks hd9 < recursionLimit; omega
        case ku => show un + 3 + (4 * need ks hd9 + 100) < cLine; omega
        case kr =>
          intro r8 tl8 h8 tk8 F8 N8 o8 ret8
          obtain ⟨it8, bd8, rls8, nx8, eq8, a8, v8, a82, bb8, tb8, vs8, epp8, t8, rfl, mem8, ti8, mem82, hbd8, ts8, np8, nf8, bl8⟩ := ret8
          have aw1'' := away_app aw1' o8 (.head _)
          have aw2'' := away_app aw2' o8 (.tail _ (.head _))
          simp only [List.cons_append, List.append_assoc] at N8 aw1'' aw2''
          clear aw1' aw2' N2 F2
          have p1 := ho9.pl
          have p2 := ho9.kl
          have p3 := ho9.kp
          have p4 := ho9.sz
          have p5 := ho9.kn
          have p6 := ho9.k0
          try dsimp only
          try k_fold
          k_steps
          (with_reducible rename Fr _ _ _ _ => F3)
          (with_reducible rename News _ _ _ _ => N3)
          (rename KBw.bInts (lb ++ bb8) = _ => app7)
          have hgt : k < nx8 := by
            cases hl : hd9.lst with
            | false => have z1 := nf8 hl; omega
            | true => have z1 := ho9.lp hl; omega
          have hsub9 : ∀ p ∈ tl, p ∈ tl ++ (tl9 ++ tl8) := fun p hp => List.mem_append.mpr (.inl hp)
          have hsub8 : ∀ p ∈ tl8, p ∈ tl ++ (tl9 ++ tl8) := fun p hp => List.mem_append.mpr (.inr (List.mem_append.mpr (.inr hp)))
          refine loop_next ⟨((ks.length : Int) - nx8).toNat, by omega, _, nx8, its ++ [it8], rls ++ [.node (.leaf bd8 :: rls8)], lb ++ bb8, _, _, _, vs2 ++ [v8], vs3 ++ [.ref a82], ep + 1, ep3 + 1, tl ++ (tl9 ++ tl8), _, _, rfl,
            ⟨F3, by simpa only [List.push_toArray] using N3, aw1'', aw2'', ?_, m1, m2, rfl, m4, m5, rfl, TrsIn.snoc (ti8.mono hsub8) (T2.mono hsub9), TrsIn.snoc (TrIn.node (hsub8 _ mem82) (.cons (.leaf hbd8) (ts8.mono hsub8))) (T3.mono hsub9), by omega, ?_, ?_, ?_, ?_⟩, rfl⟩
          · intro q hq p hp
            rcases List.mem_append.mp hp with z | z
            · exact ord q hq p z
            · rcases List.mem_append.mp z with z | z
              · exact o9 q (.tail _ (.tail _ (List.mem_append.mpr (.inl hq)))) p z
              · exact o8 q (.tail _ (.tail _ (List.mem_append.mpr (.inl hq)))) p z
          · rw [app7, List.length_append]; omega
          · rw [List.length_append, List.length_singleton]; omega
          · rw [List.length_append, List.length_singleton]; omega
          · rw [eq, app7]; exact loop_turn (by assumption) eh9 eq8
        case kx =>
          intro x8 e8 h8 tk8 z8 fl8
          refine end_fly B' FG' fl8 ?_ hexc
          show pay _ _ = _
          rw [pay_list rfl, eq]
          exact loop_part (by assumption) eh9 z8
      · intro x9 e9 h9 tk9 z9 fl9
        refine end_fly B' FG' fl9 ?_ hexc
        show pay _ _ = _
        rw [pay_list rfl, eq]
        exact loop_bad (by assumption) z9
    · refine kl_insert (l := .bytes lb lt :: vs3) F1 N1 (by rfl) (by rfl) (Upd.head (by k_all)) (by rw [sizeLine_eq]; simp only [List.size_toArray]; omega) ?_
      intro h9 F9 N9
      clear F1 N1
      try dsimp only
      try k_fold
      k_steps
      · refine rais_end hexc ⟨_, _, rfl⟩ (by assumption) (by assumption) (by assumption) (by assumption) (by assumption) (by assumption) (by assumption) (by assumption) rfl ?_
        show pay _ _ = _
        rw [pay_list rfl, eq]
        exact loop_over (by assumption)
      · (rename (_ < _ ∧ _ < _ ∧ AllLt _ _) => lD)
        have hke : k = pos + size := by omega
        refine ret_own (own := _ :: _ :: _ :: tl) hret (by assumption) (news_swap (by assumption)) ?_ ?_
        · intro q hq p hp
          rcases List.mem_cons.mp hp with rfl | hp
          · exact ktn_ltOf lD.2.2 q (List.mem_append.mpr (.inl hq))
          · rcases List.mem_cons.mp hp with rfl | hp
            · exact ktn_ltOf lR.2 q hq
            · rcases List.mem_cons.mp hp with rfl | hp
              · exact lI q hq
              · exact ord q hq p hp
        · have sub3 : ∀ (x y z : Addr × Obj), ∀ p ∈ tl, p ∈ x :: y :: z :: tl := fun _ _ _ _ hp => .tail _ (.tail _ (.tail _ hp))
          refine ⟨.node its, KBw.bInts lb, rls, k, ?_, _, .ref aI, aR, lb, lt, vs3, ep3 + 1, kt, rfl, .head _, .node (.tail _ (.tail _ (.head _))) (T2.mono (sub3 _ _ _)), .tail _ (.head _), rfl, T3.mono (sub3 _ _ _), kp, (fun q => by cases q), bl⟩
          rw [pay_list rfl, eq]
          exact loop_done hke
  · rw [List.append_nil]; exact N1
  · rw [List.append_nil]; exact fun p hp => Nat.ne_of_lt (ktn_ltOf lR.2 p hp)
  · rw [List.append_nil]; exact fun p hp => Nat.ne_of_lt (lI p hp)
  · rw [hpb]; omega
  · show (0 : Int) ≤ _; omega
  · show (0 : Int) ≤ _; omega
  · rw [hpb]
end Mine
end PayL
section Item
set_option maxRecDepth 100000
namespace Mine
open PySem PySem.W PySem.Spec PySem.Calls PyProof.Rows
local macro_rules | `(tactic| walk_at "my enter") => `(tactic| (refine' code_def ?k1 ?k2 ?k3 ?k4 ?k5 ?kA ?kF ?kK ?k6 ?k7 ?k8 ?k9 ?kB ?_ ?c2 ?c3 ?c4 ?c5; (case kA => exact rfl); (case kF => exact rfl); (case kK => first | assumption | exact rfl); (case k1 => k_asm); (case k2 => k_asm); (case k3 => k_asm); (case k4 => k_asm); (case k5 => k_asm); (case k6 => k_is); (case k7 => k_is); (case k8 => ktr_room); (case k9 => exact BindsTo.of_eq rfl); (case c5 => decide); (case kB => exact locs rfl); (case c2 => exact rfl); (case c3 => exact rfl); (case c4 => exact rfl); k_whole; intro g' L' h' FG' F' N' B' X' T'; (try dsimp only); (try k_fold)))
local macro_rules | `(tactic| walk_at "exec Raise some none") => `(tactic| (k_here; refine raise_de rfl ?_))
local macro_rules | `(tactic| walk_at "call ref") => `(tactic| (k_here; (with_reducible show wpAny _ _ (call (Value.ref 46) _) _ _ _); k_dflt (refine' de_call ?k1 ?k2 ?k3 ?k4 ?k5 ?kA ?kF ?kK ?kR ?_; (case kA => exact rfl); (case kF => exact rfl); (case kK => exact rfl); (case k1 => k_asm); (case k2 => k_asm); (case k3 => k_asm); (case k4 => k_asm); (case k5 => k_asm); (case kR => ktr_room); k_whole); intro h9 e9 tp9 dx9 tk9 tk9' F9 N9 en9 ee9 et9 ed9))
local macro_rules | `(tactic| walk_at "subscriptTail") => `(tactic| (k_here; (with_reducible show wpAny _ _ (subscriptTail _ _ (Value.bytes _ _) (Value.int _ _)) _ _ _); (refine idx_any (by kba_ints) (by kba_size) (by rfl) (by omega) ?_ ?_); all_goals (intro _ _ _)))
local macro_rules | `(tactic| walk_at "leaving ref") => `(tactic| (k_here; (rename Heap.NewExc _ _ _ _ => hN); k_dflt (refine' end_index' ?kB ?kF hN ?kG ?kH ?_ ?kE; (case kB => k_asm); (case kF => k_asm); (case kG => k_asm); (case kH => exact rfl); (case kE => assumption))))
local macro_rules | `(tactic| k_mem) => `(tactic| ((with_reducible show @List.Mem (Addr × Obj) _ (_ ++ _)); first | (refine List.mem_append.mpr (Or.inl ?_); k_mem) | (refine List.mem_append.mpr (Or.inr ?_); k_mem)))
local macro_rules | `(tactic| k_mem) => `(tactic| ((with_reducible show @List.Mem (Addr × Obj) _ _); (show Membership.mem (γ := List (Addr × Obj)) _ _); ktr_member))
local macro_rules | `(tactic| walk_at "call ref") => `(tactic| ((with_reducible show wpAny _ _ (call (Value.ref 62) _) _ _ _); refine held ?_))
local macro_rules | `(tactic| walk_at "call ref") => `(tactic| ((with_reducible show wpAny _ _ (call (Value.ref 69) _) _ _ _); refine held ?_))

noncomputable def itemP (ks : List Int) (k : Int) : Option Res := match headP ks k with
  | .error x => some (.error x)
  | .ok h => pay ks h
def ItemRet (ks : List Int) (k : Int) (n : List (Addr × Obj)) (v : Value) : Prop := ∃ h, headP ks k = .ok h ∧ PayRet ks h n v
def ItemErr (ks : List Int) (k : Int) (x : Ft) : Prop := itemP ks k = some (.error x)

theorem payRet_mono {ks : List Int} {h : Hd} {n n' : List (Addr × Obj)} {v : Value} (hs : ∀ p ∈ n, p ∈ n') (r : PayRet ks h n v) : PayRet ks h n' v := by
  obtain ⟨it, bd, rls, nx, e, a, v1, a2, bb, tb, vs2, ep2, t, rfl, m1, t1, m2, eb, t2, r1, r2, r3⟩ := r
  exact ⟨it, bd, rls, nx, e, a, v1, a2, bb, tb, vs2, ep2, t, rfl, hs _ m1, t1.mono hs, hs _ m2, eb, t2.mono hs, r1, r2, r3⟩

set_option maxHeartbeats 8000000 in
theorem item_does (w : World) (b : Array UInt8) (bt : Tok) (ks : List Int) (hbk : KBw.bInts b = ks) (hb : ks.length ≤ 200) (hin : ∀ x ∈ ks, 0 ≤ x ∧ x < 256) (k : Int) (kt : Tok) (hk0 : 0 ≤ k) (news : List (Addr × Obj)) :
   Does w 76 [.bytes b bt, .int k kt] 220 1000 news (ItemRet ks k) b (ItemErr ks k) := by
  unfold Does
  w_top off
  k_fill
  intro mean mg mb dp un gd cn cs a ccd cl outer A₀ base h₀ L m s Q E B F X N T hk hd hu hret hexc
  refine wpAny_call ?_
  k_dflt (walk_at "my enter")
  (with_reducible rename Fr _ _ _ _ => F1)
  (with_reducible rename News _ _ _ _ => N1)
  rename_i g' L' h1 FG' B' X' T'
  k_steps
  refine unheld ?_
  k_dflt (refine' use_does (clp_does w b bt ks k kt hbk hb hk0 _) B' ?k2 X' ?k4 T' ?kK ?kd ?ku ?kr ?kx)
  case k2 => exact F1
  case k4 => exact N1
  case kK => exact rfl
  case kd => ktr_room
  case ku => ktr_units
  case kx =>
    intro x9 e9 h9 tk9 z9 fl9
    refine end_fly B' FG' fl9 ?_ hexc
    have z : headP ks k = .error x9 := z9
    show itemP _ _ = _
    unfold itemP
    rw [z]
  case kr =>
    intro r9 tl9 h9 tk9 F9 N9 o9 ret9
    obtain ⟨hd9, eh9, a9, pb9, pt9, st9, ot9, rfl, mem9, epb9⟩ := ret9
    have ho9 := headP_ok hk0 hin eh9
    clear N1 F1
    try dsimp only
    try k_fold
    k_steps
    refine unheld ?_
    (with_reducible rename Fr _ _ _ _ => F2)
    (with_reducible rename News _ _ _ _ => N2)
    have hneed : need ks hd9 ≤ 212 := by
      unfold need
      have z1 := ho9.kp
      split <;> omega
    k_dflt (refine' use_does (pay_does w b bt ks hbk hb hin _ k hd9 ho9 (Nat.le_refl _) pb9 pt9 ot9 st9 epb9 _) B' ?k2 X' ?k4 T' ?kK ?kd ?ku ?kr ?kx)
    case k2 => exact F2
    case k4 => exact N2
    case kK => exact rfl
    case kd => show dp + 1 + need ks hd9 < recursionLimit; omega
    case ku => show un + 3 + (4 * need ks hd9 + 100) < cLine; omega
    case kx =>
      intro x8 e8 h8 tk8 z8 fl8
      refine end_fly B' FG' fl8 ?_ hexc
      have z : pay ks hd9 = some (.error x8) := z8
      show itemP _ _ = _
      unfold itemP
      rw [eh9]
      exact z
    case kr =>
      intro r8 tl8 h8 tk8 F8 N8 o8 ret8
      obtain ⟨it8, bd8, rls8, nx8, eq8, a8, rest8⟩ := id ret8
      try dsimp only
      try k_fold
      k_steps
      refine hret r8 (tl9 ++ tl8) _ _ (by assumption) (by rw [← List.append_assoc]; assumption) ?_ ⟨hd9, eh9, payRet_mono (fun p hp => List.mem_append.mpr (.inr hp)) ret8⟩
      intro q hq p hp
      rcases List.mem_append.mp hp with z | z
      · exact o9 q hq p z
      · exact o8 q (List.mem_append.mpr (.inl hq)) p z
end Mine
end Item
section Cut
set_option maxRecDepth 100000
namespace Mine
open PySem PySem.W PySem.Spec PySem.Calls PyProof.Rows

theorem cut_nat {ks : List Int} {lo hi : Int} (h0 : 0 ≤ lo) (h1 : 0 ≤ hi) : cut ks lo hi = (ks.drop lo.toNat).take (hi.toNat - lo.toNat) := by
  unfold cut
  rw [clip_of h0, clip_of h1]
  by_cases hl : lo.toNat ≤ ks.length
  · rw [Nat.min_eq_left hl]
    by_cases hh : hi.toNat ≤ ks.length
    · rw [Nat.min_eq_left hh]
    · rw [Nat.min_eq_right (by omega), List.take_of_length_le (by rw [List.length_drop]; omega), List.take_of_length_le (by rw [List.length_drop]; omega)]
  · have e1 : ks.drop (min lo.toNat ks.length) = [] := List.drop_eq_nil_iff.mpr (by omega)
    have e2 : ks.drop lo.toNat = [] := List.drop_eq_nil_iff.mpr (by omega)
    rw [e1, e2]; simp
theorem cut_cons {ks : List Int} {lo hi : Int} (h0 : 0 ≤ lo) (h1 : lo < ks.length) (h2 : lo < hi) : cut ks lo hi = ks.getD lo.toNat 0 :: cut ks (lo + 1) hi := by
  rw [cut_nat h0 (by omega), cut_nat (by omega) (by omega)]
  have e : (lo + 1).toNat = lo.toNat + 1 := by omega
  have hl : lo.toNat < ks.length := by omega
  have e2 : hi.toNat - lo.toNat = (hi.toNat - (lo.toNat + 1)) + 1 := by omega
  rw [e, e2, List.drop_eq_getElem_cons hl, List.take_succ_cons, List.getD_eq_getElem?_getD, List.getElem?_eq_getElem hl]
  rfl
theorem cut_out {ks : List Int} {lo hi : Int} (h0 : 0 ≤ lo) (h1 : (ks.length : Int) ≤ lo) (h2 : lo ≤ hi) : cut ks lo hi = [] := by
  have := @cut_len ks lo hi h0 h2
  exact List.length_eq_zero_iff.mp (by omega)
theorem cut_self {ks : List Int} {lo : Int} (h0 : 0 ≤ lo) : cut ks lo lo = [] := by
  have := @cut_len ks lo lo h0 (Int.le_refl _)
  exact List.length_eq_zero_iff.mp (by omega)
theorem cut_one {ks : List Int} {k : Int} (h0 : 0 ≤ k) (h1 : k < ks.length) : cut ks k (k + 1) = [ks.getD k.toNat 0] := by
  rw [cut_cons h0 h1 (by omega), cut_self (by omega)]

theorem rangeKs_succ (a : Int) (n : Nat) : rangeKs a (n + 1) = a :: rangeKs (a + 1) n := by
  unfold rangeKs
  rw [List.range_succ_eq_map, List.map_cons, List.map_map]
  congr 1
  · simp
  · apply List.map_congr_left
    intro i _
    show a + ((i + 1 : Nat) : Int) = a + 1 + (i : Int)
    omega
theorem cut_fold (ks : List Int) : ∀ (n : Nat) (lo : Int) (acc : List Int), 0 ≤ lo → (rangeKs lo n).foldl (fun l p => if p < (ks.length : Int) then l ++ [ks.getD p.toNat 0] else l) acc = acc ++ cut ks lo (lo + n) := by
  intro n
  induction n with
  | zero => intro lo acc h0; simp [rangeKs, cut_self h0]
  | succ n ih =>
    intro lo acc h0
    rw [rangeKs_succ, List.foldl_cons]
    by_cases hl : lo < (ks.length : Int)
    · rw [if_pos hl, ih _ _ (by omega), cut_cons (hi := lo + ((n + 1 : Nat) : Int)) h0 hl (by omega), List.append_assoc, show lo + ((n + 1 : Nat) : Int) = lo + 1 + (n : Int) by omega]
      rfl
    · rw [if_neg hl, ih _ _ (by omega), cut_out (lo := lo + 1) (hi := lo + 1 + (n : Int)) (by omega) (by omega) (by omega), cut_out (lo := lo) (hi := lo + ((n + 1 : Nat) : Int)) h0 (by omega) (by omega)]
theorem cut_in {ks : List Int} {lo hi : Int} (hin : ∀ x ∈ ks, 0 ≤ x ∧ x < 256) : ∀ x ∈ cut ks lo hi, 0 ≤ x ∧ x < 256 := fun x hx => hin x (List.mem_of_mem_drop (List.mem_of_mem_take hx))
/-- the first octet behind the head is nought -/
theorem cut_zero {ks : List Int} {k ll : Int} (h0 : 0 ≤ k) (hl : 1 ≤ ll) : cut ks (k + 1) (k + 2) = [0] ↔ (0 < (cut ks (k + 1) (k + 1 + ll)).length ∧ (cut ks (k + 1) (k + 1 + ll)).getD 0 0 = 0) := by
  by_cases h1 : k + 1 < (ks.length : Int)
  · have e : k + 2 = k + 1 + 1 := by omega
    rw [e, cut_one (by omega) h1, cut_cons (lo := k + 1) (hi := k + 1 + ll) (by omega) h1 (by omega)]
    simp
  · rw [cut_out (lo := k + 1) (hi := k + 2) (by omega) (by omega) (by omega), cut_out (lo := k + 1) (hi := k + 1 + ll) (by omega) (by omega) (by omega)]
    simp
end Mine
end Cut
section Rul
set_option maxRecDepth 100000
namespace Mine
open PySem PySem.W PySem.Spec PySem.Calls PyProof.Rows
section
variable {prog : Program} {w : World} {A : Around} {E : Value → Shared → Prop} {s : Shared} {value slice : PySem.Expr} {h₀ : Heap} {L l : Addr} {news : List (Addr × Obj)} {vs : List Value} {ns : List Int} {n : Nat} {k : Int} {u : Tok} {Q : Value → Shared → Prop}
theorem list_of (N : News h₀ L s.heap news) (hm : (l, W.listOf vs.toArray n) ∈ news) : s.heap.IsList l vs.toArray := ⟨_, (N _ hm).1, rfl, n, rfl⟩
theorem len_ints (N : News h₀ L s.heap news) (hm : (l, W.listOf vs.toArray n) ∈ news) (hi : IntsAre vs ns) (hfit : ns.length ≤ 1000000) (h : ∀ t tk, Q (.int (ns.length : Nat) t) { s with toks := tk }) :
    wpAny (model prog w) A (call (.builtin "len") [.ref l]) Q E s := by
  have e : vs.toArray.size = ns.length := by simp [hi.length]
  refine len_list (list_of N hm) (by rw [e]; omega) ?_
  rw [e]
  exact h _ _
theorem len_any (N : News h₀ L s.heap news) (hm : (l, W.listOf vs.toArray n) ∈ news) (hfit : vs.length ≤ 1000000) (h : ∀ t tk, Q (.int (vs.length : Nat) t) { s with toks := tk }) :
    wpAny (model prog w) A (call (.builtin "len") [.ref l]) Q E s := by
  have e : vs.toArray.size = vs.length := by simp
  refine len_list (list_of N hm) (by rw [e]; omega) ?_
  rw [e]
  exact h _ _
theorem item_ints (N : News h₀ L s.heap news) (hm : (l, W.listOf vs.toArray n) ∈ news) (hi : IntsAre vs ns) (h0 : 0 ≤ k) (h1 : k < ns.length) (hfit : ns.length ≤ 1000000) (h : ∀ t, Q (.int (ns.getD k.toNat 0) t) s)
    (hs : subscripted slice false (.ref l) (.int k u) = operate [.ref l, .int k u] (getItem (.ref l) (.int k u)) := by with_unfolding_all rfl) :
    wpAny (model prog w) A (subscriptTail value slice (.ref l) (.int k u)) Q E s := item_anyK (list_of N hm) hi h0 h1 (by omega) h hs
end
end Mine
end Rul
section Head
set_option maxRecDepth 100000
namespace Mine
open PySem PySem.W PySem.Spec PySem.Calls PyProof.Rows
local macro_rules | `(tactic| walk_at "my enter") => `(tactic| (refine' code_def ?k1 ?k2 ?k3 ?k4 ?k5 ?kA ?kF ?kK ?k6 ?k7 ?k8 ?k9 ?kB ?_ ?c2 ?c3 ?c4 ?c5; (case kA => exact rfl); (case kF => exact rfl); (case kK => first | assumption | exact rfl); (case k1 => k_asm); (case k2 => k_asm); (case k3 => k_asm); (case k4 => k_asm); (case k5 => k_asm); (case k6 => k_is); (case k7 => k_is); (case k8 => ktr_room); (case k9 => exact BindsTo.of_eq rfl); (case c5 => decide); (case kB => exact locs rfl); (case c2 => exact rfl); (case c3 => exact rfl); (case c4 => exact rfl); k_whole; intro g' L' h' FG' F' N' B' X' T'; (try dsimp only); (try k_fold)))
local macro_rules | `(tactic| k_mem) => `(tactic| ((with_reducible show @List.Mem (Addr × Obj) _ (_ ++ _)); first | (refine List.mem_append.mpr (Or.inl ?_); k_mem) | (refine List.mem_append.mpr (Or.inr ?_); k_mem)))
local macro_rules | `(tactic| k_mem) => `(tactic| ((with_reducible show @List.Mem (Addr × Obj) _ _); (show Membership.mem (γ := List (Addr × Obj)) _ _); ktr_member))
local macro_rules | `(tactic| walk_at "my enterC") => `(tactic| (refine' code_defC ?k1 ?k2 ?k3 ?k4 ?k5 ?kA ?kF ?kK ?k6 ?k7 ?k8 ?k9 ?kB ?kD ?_ ?c2 ?c3 ?c4; (case kA => exact rfl); (case kF => exact rfl); (case kK => first | assumption | exact rfl); (case k1 => k_asm); (case k2 => k_asm); (case k3 => k_asm); (case k4 => k_asm); (case k5 => k_asm); (case k6 => k_is); (case k7 => k_is); (case k8 => ktr_room); (case k9 => exact BindsTo.of_eq rfl); (case kB => exact rfl); (case kD => decide +kernel); (case c2 => exact rfl); (case c3 => exact rfl); (case c4 => exact rfl); k_whole; intro g' L' h' tk' cells' FG' F' N' Y' B' X' T' l1; (try k_lt l1); k_cells Y'; (try simp only [List.cons_append, List.nil_append] at N'); (try dsimp only); (try k_fold)))
def tup (vs : Array Value) : Obj := { cls := .type "tuple", data := .seq vs }
def HeadTup (n : List (Addr × Obj)) (a : Addr) : Except Ft Hd → Prop
  | .error .index => ∃ t, (a, ({ cls := .type "tuple", data := .seq #[.str "index" t] } : Obj)) ∈ n
  | .error (.fault msg) => ∃ t t', (a, ({ cls := .type "tuple", data := .seq #[.str "fault" t, .str msg t'] } : Obj)) ∈ n
  | .ok h => ∃ t pb pt st ot, (a, ({ cls := .type "tuple", data := .seq #[.str "ok" t, .bytes pb pt, kindV h.lst, .int h.size st, .int h.pos ot] } : Obj)) ∈ n ∧ KBw.bInts pb = h.pre
def LHeadRet (ks : List Int) (k : Int) (n : List (Addr × Obj)) (v : Value) : Prop := ∃ a, v = .ref a ∧ HeadTup n a (headP ks k)

local macro_rules | `(tactic| walk_at "CompSrcT") => `(tactic| (refine held ?_))
local macro_rules | `(tactic| walk_at "exec For Name Name cons nil") => `(tactic| (refine held ?_))
local macro_rules | `(tactic| walk_at "pyIter ref") => `(tactic| (refine held ?_))
local macro_rules | `(tactic| walk_at "call builtin:len") => `(tactic| (k_here; (with_reducible show wpAny _ _ (call (Value.builtin "len") [Value.ref _]) _ _ _); k_dflt (refine' len_ints ?k1 ?k2 ?k3 ?k4 ?_; (case k1 => k_asm); (case k2 => k_mem); (case k3 => assumption); (case k4 => omega); k_whole); intro _ _))
local macro_rules | `(tactic| walk_at "subscriptTail") => `(tactic| (k_here; (with_reducible show wpAny _ _ (subscriptTail _ _ (Value.ref _) (Value.int _ _)) _ _ _); k_dflt (refine' item_ints ?k1 ?k2 ?k3 ?k4 ?k5 ?k6 ?_ ?k7; (case k1 => k_asm); (case k2 => k_mem); (case k3 => assumption); (case k4 => decide); (case k5 => omega); (case k6 => omega); (case k7 => with_unfolding_all rfl); k_whole); intro _))
local macro_rules | `(tactic| walk_at "eval Name") => `(tactic| (k_here; k_dflt (refine' nameX_L ?F ?v ?_ ?a ?b; (case F => k_asm); (case a => rfl); (case b => rfl); (case v => assumption); k_whole)))
theorem value_take {dg : List Int} {i : Nat} {n : Int} (h : dg[i]? = some n) : KFB.value (dg.take (i + 1)) = KFB.value (dg.take i) * 256 + n := by
  rw [List.take_add_one, h]
  unfold KFB.value
  rw [List.foldl_append]
  rfl

section
variable {ks : List Int} {k : Int}
theorem headP_index (h : (ks.length : Int) ≤ k) : headP ks k = .error .index := if_pos h
theorem headP_one (h : ¬ (ks.length : Int) ≤ k) (h1 : ks.getD k.toNat 0 < 128) : headP ks k = .ok ⟨[], false, 1, k⟩ := by
  unfold headP; rw [if_neg h, if_pos h1]
theorem headP_s (h0 : 0 ≤ k) (h : ¬ (ks.length : Int) ≤ k) (h1 : ¬ ks.getD k.toNat 0 < 128) (h2 : ks.getD k.toNat 0 < 184) (h3 : ks.getD k.toNat 0 ≠ 129) : headP ks k = .ok ⟨[ks.getD k.toNat 0], false, ks.getD k.toNat 0 - 128, k + 1⟩ := by
  unfold headP; rw [if_neg h, if_neg h1, if_pos h2, if_neg (by omega), cut_one h0 (by omega)]
theorem headP_s1 (h : ¬ (ks.length : Int) ≤ k) (h3 : ks.getD k.toNat 0 = 129) (h4 : (ks.length : Int) ≤ k + 1) : headP ks k = .error .index := by
  unfold headP; rw [if_neg h, if_neg (by omega), if_pos (by omega), if_pos (by omega), if_pos h4]
theorem headP_s2 (h : ¬ (ks.length : Int) ≤ k) (h3 : ks.getD k.toNat 0 = 129) (h4 : ¬ (ks.length : Int) ≤ k + 1) (h5 : ks.getD (k + 1).toNat 0 < 128) : headP ks k = .error (.fault M1) := by
  unfold headP; rw [if_neg h, if_neg (by omega), if_pos (by omega), if_pos (by omega), if_neg h4, if_pos h5]
theorem headP_s3 (h0 : 0 ≤ k) (h : ¬ (ks.length : Int) ≤ k) (h3 : ks.getD k.toNat 0 = 129) (h4 : ¬ (ks.length : Int) ≤ k + 1) (h5 : ¬ ks.getD (k + 1).toNat 0 < 128) : headP ks k = .ok ⟨[ks.getD k.toNat 0], false, ks.getD k.toNat 0 - 128, k + 1⟩ := by
  unfold headP; rw [if_neg h, if_neg (by omega), if_pos (by omega), if_pos (by omega), if_neg h4, if_neg h5, cut_one h0 (by omega)]
theorem headP_l (h0 : 0 ≤ k) (h : ¬ (ks.length : Int) ≤ k) (h1 : 192 ≤ ks.getD k.toNat 0) (h2 : ks.getD k.toNat 0 < 248) : headP ks k = .ok ⟨[ks.getD k.toNat 0], true, ks.getD k.toNat 0 - 192, k + 1⟩ := by
  unfold headP; rw [if_neg h, if_neg (by omega), if_neg (by omega), if_neg (by omega), if_pos h2, cut_one h0 (by omega)]
theorem longP_eq {ll : Int} {l : Bool} (h0 : 0 ≤ k) (h : ¬ (ks.length : Int) ≤ k) (h1 : 1 ≤ ll) {dg : List Int} (hd : cut ks (k + 1) (k + 1 + ll) = dg) : longP ks k ll l =
    if 0 < dg.length ∧ dg.getD 0 0 = 0 then .error (.fault M2) else if KFB.value dg < 56 then .error (.fault (if l then M4 else M3)) else .ok ⟨ks.getD k.toNat 0 :: dg, l, KFB.value dg, k + 1 + ll⟩ := by
  have z := @cut_zero ks k ll h0 h1
  unfold longP
  rw [hd] at z ⊢
  rw [cut_one h0 (by omega)]
  by_cases hz : 0 < dg.length ∧ dg.getD 0 0 = 0
  · rw [if_pos (z.mpr hz), if_pos hz]
  · rw [if_neg (fun e => hz (z.mp e)), if_neg hz]; rfl
theorem headP_LL (h0 : 0 ≤ k) (h : ¬ (ks.length : Int) ≤ k) (h1 : 192 ≤ ks.getD k.toNat 0) (h2 : ¬ ks.getD k.toNat 0 - 192 < 56) {dg : List Int} (hd : cut ks (k + 1) (k + 1 + (ks.getD k.toNat 0 - 192 - 55)) = dg) : headP ks k =
    if 0 < dg.length ∧ dg.getD 0 0 = 0 then .error (.fault M2) else if KFB.value dg < 56 then .error (.fault M4) else .ok ⟨ks.getD k.toNat 0 :: dg, true, KFB.value dg, k + 1 + (ks.getD k.toNat 0 - 192 - 55)⟩ := by
  have e := @longP_eq ks k (ks.getD k.toNat 0 - 192 - 55) true h0 h (by omega) dg hd
  unfold headP
  rw [if_neg h, if_neg (by omega), if_neg (by omega), if_neg (by omega), if_neg (by omega), show ks.getD k.toNat 0 - 192 - 56 + 1 = ks.getD k.toNat 0 - 192 - 55 by omega, e]
  rfl
theorem headP_LS (h0 : 0 ≤ k) (h : ¬ (ks.length : Int) ≤ k) (h1 : ks.getD k.toNat 0 < 192) (h2 : ¬ ks.getD k.toNat 0 - 128 < 56) {dg : List Int} (hd : cut ks (k + 1) (k + 1 + (ks.getD k.toNat 0 - 128 - 55)) = dg) : headP ks k =
    if 0 < dg.length ∧ dg.getD 0 0 = 0 then .error (.fault M2) else if KFB.value dg < 56 then .error (.fault M3) else .ok ⟨ks.getD k.toNat 0 :: dg, false, KFB.value dg, k + 1 + (ks.getD k.toNat 0 - 128 - 55)⟩ := by
  have e := @longP_eq ks k (ks.getD k.toNat 0 - 128 - 55) false h0 h (by omega) dg hd
  unfold headP
  rw [if_neg h, if_neg (by omega), if_neg (by omega), if_pos h1, show ks.getD k.toNat 0 - 183 = ks.getD k.toNat 0 - 128 - 55 by omega, e]
  rfl
end
/-- one new object alone is told -/
theorem ret_one {h₀ h : Heap} {L D : Addr} {o : Obj} {m : Str → Option Value} {news big : List (Addr × Obj)} {t : Nat} {s : Shared} {Q : Value → Shared → Prop} {Ret : List (Addr × Obj) → Value → Prop} {v : Value}
    (hret : ∀ r tl h' tk', Fr h₀ L h' m → News h₀ L h' (news ++ tl) → (∀ q ∈ news, ∀ p ∈ tl, q.1 < p.1) → Ret tl r → Q r { s with heap := h', toks := tk' })
    (F : Fr h₀ L h m) (N : News h₀ L h big) (hm : (D, o) ∈ big) (hs : ∀ p ∈ news, p ∈ big) (l : AllLt D news) (R : Ret [(D, o)] v) : Q v { s with heap := h, toks := t } :=
  ret_own (own := [(D, o)]) hret F (fun p hp => N p (by rcases List.mem_append.mp hp with z | z; exact List.mem_singleton.mp z ▸ hm; exact hs p z))
    (fun q hq p hp => List.mem_singleton.mp hp ▸ ktn_ltOf l q hq) R
theorem lh_index {ks : List Int} {k : Int} {a : Addr} {n : List (Addr × Obj)} {t : Tok} (e : headP ks k = .error .index) (h : (a, ({ cls := .type "tuple", data := .seq #[.str "index" t] } : Obj)) ∈ n) : LHeadRet ks k n (.ref a) := by
  refine ⟨a, rfl, ?_⟩; rw [e]; exact ⟨t, h⟩
theorem lh_fault {ks : List Int} {k : Int} {a : Addr} {n : List (Addr × Obj)} {t t' : Tok} {msg : Str} (e : headP ks k = .error (.fault msg)) (h : (a, ({ cls := .type "tuple", data := .seq #[.str "fault" t, .str msg t'] } : Obj)) ∈ n) : LHeadRet ks k n (.ref a) := by
  refine ⟨a, rfl, ?_⟩; rw [e]; exact ⟨t, t', h⟩
theorem lh_ok {ks : List Int} {k : Int} {a : Addr} {n : List (Addr × Obj)} {t pt st ot : Tok} {pb : Array UInt8} {pre : List Int} {l : Bool} {size pos : Int} (e : headP ks k = .ok ⟨pre, l, size, pos⟩) (hp : KBw.bInts pb = pre) (h : (a, ({ cls := .type "tuple", data := .seq #[.str "ok" t, .bytes pb pt, kindV l, .int size st, .int pos ot] } : Obj)) ∈ n) : LHeadRet ks k n (.ref a) := by
  refine ⟨a, rfl, ?_⟩; rw [e]; exact ⟨t, pb, pt, st, ot, h, hp⟩
set_option maxHeartbeats 8000000 in
theorem lhead_does (w : World) (b : Array UInt8) (bt : Tok) (ks : List Int) (hbk : KBw.bInts b = ks) (hb : ks.length ≤ 200) (hin : ∀ x ∈ ks, 0 ≤ x ∧ x < 256) (k : Int) (kt : Tok) (hk0 : 0 ≤ k) (news : List (Addr × Obj)) :
   Does w 89 [.bytes b bt, .int k kt] 10 100 news (LHeadRet ks k) b (fun _ => False) := by
  unfold Does
  w_top off
  k_fill
  intro mean mg mb dp un gd cn cs a ccd cl outer A₀ base h₀ L m s Q E B F X N T hk hd hu hret hexc
  refine wpAny_call ?_
  k_dflt (walk_at "my enterC")
  k_steps
  · (with_reducible rename Fr _ _ _ _ => FQ)
    (with_reducible rename News _ _ _ _ => NQ)
    refine ret_one hret FQ NQ (.head _) (fun p hp => by repeat (first | exact hp | apply List.mem_cons_of_mem)) (by first | assumption | exact And.right (a := _) (by assumption) | exact And.right (a := _) (And.right (a := _) (by assumption)) | exact And.right (a := _) (And.right (a := _) (And.right (a := _) (by assumption))) | exact And.right (a := _) (And.right (a := _) (And.right (a := _) (And.right (a := _) (by assumption)))) | exact And.right (a := _) (And.right (a := _) (And.right (a := _) (And.right (a := _) (And.right (a := _) (by assumption))))) | exact And.right (a := _) (And.right (a := _) (And.right (a := _) (And.right (a := _) (And.right (a := _) (And.right (a := _) (by assumption))))))) ?_
    exact lh_index (headP_index (by assumption)) (.head _)
  · (with_reducible rename Fr _ _ _ _ => FQ)
    (with_reducible rename News _ _ _ _ => NQ)
    refine ret_one hret FQ NQ (.head _) (fun p hp => by repeat (first | exact hp | apply List.mem_cons_of_mem)) (by first | assumption | exact And.right (a := _) (by assumption) | exact And.right (a := _) (And.right (a := _) (by assumption)) | exact And.right (a := _) (And.right (a := _) (And.right (a := _) (by assumption))) | exact And.right (a := _) (And.right (a := _) (And.right (a := _) (And.right (a := _) (by assumption)))) | exact And.right (a := _) (And.right (a := _) (And.right (a := _) (And.right (a := _) (And.right (a := _) (by assumption))))) | exact And.right (a := _) (And.right (a := _) (And.right (a := _) (And.right (a := _) (And.right (a := _) (And.right (a := _) (by assumption))))))) ?_
    exact lh_ok (headP_one (by assumption) (by assumption)) rfl (.head _)
  · exfalso; omega
  · (with_reducible rename Fr _ _ _ _ => FQ)
    (with_reducible rename News _ _ _ _ => NQ)
    refine ret_one hret FQ NQ (.head _) (fun p hp => by repeat (first | exact hp | apply List.mem_cons_of_mem)) (by first | assumption | exact And.right (a := _) (by assumption) | exact And.right (a := _) (And.right (a := _) (by assumption)) | exact And.right (a := _) (And.right (a := _) (And.right (a := _) (by assumption))) | exact And.right (a := _) (And.right (a := _) (And.right (a := _) (And.right (a := _) (by assumption)))) | exact And.right (a := _) (And.right (a := _) (And.right (a := _) (And.right (a := _) (And.right (a := _) (by assumption))))) | exact And.right (a := _) (And.right (a := _) (And.right (a := _) (And.right (a := _) (And.right (a := _) (And.right (a := _) (by assumption))))))) ?_
    refine lh_ok (headP_l hk0 (by assumption) (by assumption) (by omega)) (KBa.ints_make (ns := [ks.getD k.toNat 0]) (by intro x hx; rw [List.mem_singleton.mp hx]; exact ⟨by assumption, by assumption⟩)) (.head _)
  · refine unheld ?_
    (with_reducible rename Fr _ _ _ _ => F2)
    (with_reducible rename News _ _ _ _ => N2)
    (rename IsRange _ _ _ _ _ _ _ _ => R2)
    refine LCt.CompSrcT.range (by rfl) F2 N2 R2 (by first | decide | exact small_one (by l_bnd) (by l_bnd) (by l_bnd) (by l_bnd)) (by first | exact rangeSize_nat _ _ | rfl) (by rw [PySem.sizeLine_eq]; omega) ?_
    intro g'
    refine' kci_range (fun l p => if p < ks.length then l ++ [ks.getD p.toNat 0] else l) ?turn ?fin ?grow
    case turn =>
      intro k' t' I' oI' C' oC' D' m' ys' l' h' tk' E' hlo' hhi' hI' hC' hx' F' N' off' ne' _
      have off9 := off'
      simp only [LCg.Off3, and_true] at off'
      k_steps
      · refine ⟨_, _, _, rfl, by assumption, by assumption, off9, trivial, rfl, _, _, rfl, if_pos (by assumption)⟩
      · refine ⟨_, _, _, rfl, by assumption, by assumption, off9, trivial, rfl, if_neg (by assumption)⟩
    case fin =>
      intro ys hys hlen D h tk F3 N3 off3
      rw [cut_fold _ _ _ _ (by omega), List.nil_append] at hys
      have hdl := @cut_len_le ks (k + 1) (k + 1 + (ks.getD k.toNat 0 - 192 - 55)) (by omega) (by omega)
      have hst : k + 1 + (((k + 1 + (ks.getD k.toNat 0 - 192 - 55) - (k + 1)).toNat : Nat) : Int) = k + 1 + (ks.getD k.toNat 0 - 192 - 55) := by omega
      rw [hst] at hys
      have hcin := @cut_in ks (k + 1) (k + 1 + (ks.getD k.toNat 0 - 192 - 55)) hin
      have hfi : 0 ≤ ks.getD k.toNat 0 ∧ ks.getD k.toNat 0 < 256 := by omega
      have hHd := @headP_LL ks k hk0 (by omega) (by omega) (by omega) _ rfl
      generalize hdg : cut ks (k + 1) (k + 1 + (ks.getD k.toNat 0 - 192 - 55)) = dg at hys hdl hcin hHd
      (try dsimp only)
      (try k_fold)
      k_steps
      · (with_reducible rename Fr _ _ _ _ => FQ)
        (with_reducible rename News _ _ _ _ => NQ)
        refine ret_one hret FQ NQ (.head _) (fun p hp => by repeat (first | exact hp | apply List.mem_cons_of_mem)) (by first | assumption | exact And.right (a := _) (by assumption) | exact And.right (a := _) (And.right (a := _) (by assumption)) | exact And.right (a := _) (And.right (a := _) (And.right (a := _) (by assumption))) | exact And.right (a := _) (And.right (a := _) (And.right (a := _) (And.right (a := _) (by assumption)))) | exact And.right (a := _) (And.right (a := _) (And.right (a := _) (And.right (a := _) (And.right (a := _) (by assumption))))) | exact And.right (a := _) (And.right (a := _) (And.right (a := _) (And.right (a := _) (And.right (a := _) (And.right (a := _) (by assumption))))))) ?_
        refine lh_fault (hHd.trans (if_pos ⟨by omega, by assumption⟩)) (.head _)
      all_goals (
        have hnz : ¬ (0 < dg.length ∧ dg.getD 0 0 = 0) := fun ⟨q1, q2⟩ => by first | omega | exact absurd q2 (by assumption)
        rw [if_neg hnz] at hHd
        (with_reducible rename Fr _ _ _ _ => F4)
        (with_reducible rename News _ _ _ _ => N4)
        obtain ⟨m₀, hm₀, F4⟩ : ∃ m₀, m₀ = _ ∧ Fr _ _ _ m₀ := ⟨_, rfl, F4⟩
        have e1 : m₀ "digits" = some (.ref D) := by rw [hm₀]; rfl
        obtain ⟨t2, e2⟩ : ∃ t, m₀ "first" = some (.int (ks.getD k.toNat 0) t) := ⟨_, by rw [hm₀]; rfl⟩
        have e3 : m₀ "k" = some (.int k kt) := by rw [hm₀]; rfl
        obtain ⟨t4, e4⟩ : ∃ t, m₀ "many" = some (.int (ks.getD k.toNat 0 - 192 - 55) t) := ⟨_, by rw [hm₀]; rfl⟩
        have e5 : m₀ "kind" = some (.type "list") := by rw [hm₀]; rfl
        obtain ⟨t6, e6⟩ : ∃ t, m₀ "size" = some (.int 0 t) := ⟨_, by rw [hm₀]; rfl⟩
        clear hm₀
        refine unheld ?_
        refine For_invVF F4 rfl rfl ?_
        k_steps
        refine unheld ?_
        obtain ⟨lg, hlg, N4⟩ : ∃ lg, lg = _ ∧ News _ _ _ lg := ⟨_, rfl, N4⟩
        have hml : (D, W.listOf ys.toArray ys.length) ∈ lg := by rw [hlg]; exact .head _
        refine iter_invNL (fun i m nx => nx = lg ∧ (∃ t, m "size" = some (.int (KFB.value (dg.take i)) t)) ∧ (∀ y : Str, y ≠ "size" → y ≠ "d" → m y = m₀ y)) rfl hml hys F4 N4 ⟨rfl, ⟨t6, e6⟩, fun _ _ _ => rfl⟩ ?_ ?_
        · intro i n t m₁ news₁ h tk own hi hadr hoff hmem hJ F5 N5
          obtain ⟨rfl, ⟨t7, e7⟩, hm⟩ := hJ
          k_steps
          all_goals (
            refine InvEndN.intro (by assumption) (by assumption) ⟨hmem, rfl, ?_, ?_⟩ rfl (fun p hp => List.mem_append.mpr (.inl hp)) (fun p hp => List.mem_append.mpr (.inr hp))
            · exact ⟨_, by rw [value_take hi]; rfl⟩
            · intro y h1 h2
              show (if y = "size" then _ else if y = "d" then _ else m₁ y) = _
              rw [if_neg h1, if_neg h2]; exact hm y h1 h2)
        · intro m₁ news₁ h tk hmem hJ F5 N5
          obtain ⟨rfl, ⟨t7, e7⟩, hm⟩ := hJ
          rw [List.take_length] at e7
          replace e1 := (hm _ (by decide) (by decide)).trans e1
          replace e2 := (hm _ (by decide) (by decide)).trans e2
          replace e3 := (hm _ (by decide) (by decide)).trans e3
          replace e4 := (hm _ (by decide) (by decide)).trans e4
          replace e5 := (hm _ (by decide) (by decide)).trans e5
          subst hlg
          (try dsimp only)
          (try k_fold)
          k_steps
          · (with_reducible rename Fr _ _ _ _ => FQ)
            (with_reducible rename News _ _ _ _ => NQ)
            refine ret_one hret FQ NQ (.head _) (fun p hp => by repeat (first | exact hp | apply List.mem_cons_of_mem)) (by first | assumption | exact And.right (a := _) (by assumption) | exact And.right (a := _) (And.right (a := _) (by assumption)) | exact And.right (a := _) (And.right (a := _) (And.right (a := _) (by assumption))) | exact And.right (a := _) (And.right (a := _) (And.right (a := _) (And.right (a := _) (by assumption)))) | exact And.right (a := _) (And.right (a := _) (And.right (a := _) (And.right (a := _) (And.right (a := _) (by assumption))))) | exact And.right (a := _) (And.right (a := _) (And.right (a := _) (And.right (a := _) (And.right (a := _) (And.right (a := _) (by assumption))))))) ?_
            refine lh_fault (hHd.trans (if_pos (by assumption))) (.head _)
          · (with_reducible rename Fr _ _ _ _ => F6)
            (with_reducible rename News _ _ _ _ => N6)
            (rename IntsAre _ _ => hIa)
            have hIn : KBa.In ([ks.getD k.toNat 0] ++ dg) := by
              intro x hx
              rcases List.mem_cons.mp hx with rfl | hx
              · exact hfi
              · exact hcin x hx
            k_here
            k_dflt (refine KBa.make_K F6 N6 rfl (list_of N6 (.head _)) hIa hIn (by rw [List.length_append]; dsimp only [List.length_cons, List.length_nil]; omega) ?_)
            intro h7 t7' k7 F7 N7 _
            have hpb := KBa.ints_make hIn
            (try k_fold)
            k_steps
            (with_reducible rename Fr _ _ _ _ => FQ)
            (with_reducible rename News _ _ _ _ => NQ)
            refine ret_one hret FQ NQ (.head _) (fun p hp => by repeat (first | exact hp | apply List.mem_cons_of_mem)) (by first | assumption | exact And.right (a := _) (by assumption) | exact And.right (a := _) (And.right (a := _) (by assumption)) | exact And.right (a := _) (And.right (a := _) (And.right (a := _) (by assumption))) | exact And.right (a := _) (And.right (a := _) (And.right (a := _) (And.right (a := _) (by assumption)))) | exact And.right (a := _) (And.right (a := _) (And.right (a := _) (And.right (a := _) (And.right (a := _) (by assumption))))) | exact And.right (a := _) (And.right (a := _) (And.right (a := _) (And.right (a := _) (And.right (a := _) (And.right (a := _) (by assumption))))))) ?_
            exact lh_ok (hHd.trans (if_neg (by assumption))) hpb (.head _))
    case grow =>
      intro l p
      dsimp only
      split
      · rw [List.length_append]; exact Nat.le_refl _
      · omega
  · (with_reducible rename Fr _ _ _ _ => FQ)
    (with_reducible rename News _ _ _ _ => NQ)
    refine ret_one hret FQ NQ (.head _) (fun p hp => by repeat (first | exact hp | apply List.mem_cons_of_mem)) (by first | assumption | exact And.right (a := _) (by assumption) | exact And.right (a := _) (And.right (a := _) (by assumption)) | exact And.right (a := _) (And.right (a := _) (And.right (a := _) (by assumption))) | exact And.right (a := _) (And.right (a := _) (And.right (a := _) (And.right (a := _) (by assumption)))) | exact And.right (a := _) (And.right (a := _) (And.right (a := _) (And.right (a := _) (And.right (a := _) (by assumption))))) | exact And.right (a := _) (And.right (a := _) (And.right (a := _) (And.right (a := _) (And.right (a := _) (And.right (a := _) (by assumption))))))) ?_
    exact lh_index (headP_s1 (by assumption) (by assumption) (by assumption)) (.head _)
  · (with_reducible rename Fr _ _ _ _ => FQ)
    (with_reducible rename News _ _ _ _ => NQ)
    refine ret_one hret FQ NQ (.head _) (fun p hp => by repeat (first | exact hp | apply List.mem_cons_of_mem)) (by first | assumption | exact And.right (a := _) (by assumption) | exact And.right (a := _) (And.right (a := _) (by assumption)) | exact And.right (a := _) (And.right (a := _) (And.right (a := _) (by assumption))) | exact And.right (a := _) (And.right (a := _) (And.right (a := _) (And.right (a := _) (by assumption)))) | exact And.right (a := _) (And.right (a := _) (And.right (a := _) (And.right (a := _) (And.right (a := _) (by assumption))))) | exact And.right (a := _) (And.right (a := _) (And.right (a := _) (And.right (a := _) (And.right (a := _) (And.right (a := _) (by assumption))))))) ?_
    exact lh_fault (headP_s2 (by assumption) (by assumption) (by assumption) (by assumption)) (.head _)
  · (with_reducible rename Fr _ _ _ _ => FQ)
    (with_reducible rename News _ _ _ _ => NQ)
    refine ret_one hret FQ NQ (.head _) (fun p hp => by repeat (first | exact hp | apply List.mem_cons_of_mem)) (by first | assumption | exact And.right (a := _) (by assumption) | exact And.right (a := _) (And.right (a := _) (by assumption)) | exact And.right (a := _) (And.right (a := _) (And.right (a := _) (by assumption))) | exact And.right (a := _) (And.right (a := _) (And.right (a := _) (And.right (a := _) (by assumption)))) | exact And.right (a := _) (And.right (a := _) (And.right (a := _) (And.right (a := _) (And.right (a := _) (by assumption))))) | exact And.right (a := _) (And.right (a := _) (And.right (a := _) (And.right (a := _) (And.right (a := _) (And.right (a := _) (by assumption))))))) ?_
    exact lh_ok (headP_s3 hk0 (by assumption) (by assumption) (by assumption) (by assumption)) (KBa.ints_make (ns := [ks.getD k.toNat 0]) (by intro x hx; rw [List.mem_singleton.mp hx]; exact ⟨by assumption, by assumption⟩)) (.head _)
  · (with_reducible rename Fr _ _ _ _ => FQ)
    (with_reducible rename News _ _ _ _ => NQ)
    refine ret_one hret FQ NQ (.head _) (fun p hp => by repeat (first | exact hp | apply List.mem_cons_of_mem)) (by first | assumption | exact And.right (a := _) (by assumption) | exact And.right (a := _) (And.right (a := _) (by assumption)) | exact And.right (a := _) (And.right (a := _) (And.right (a := _) (by assumption))) | exact And.right (a := _) (And.right (a := _) (And.right (a := _) (And.right (a := _) (by assumption)))) | exact And.right (a := _) (And.right (a := _) (And.right (a := _) (And.right (a := _) (And.right (a := _) (by assumption))))) | exact And.right (a := _) (And.right (a := _) (And.right (a := _) (And.right (a := _) (And.right (a := _) (And.right (a := _) (by assumption))))))) ?_
    exact lh_ok (headP_s hk0 (by assumption) (by assumption) (by omega) (by assumption)) (KBa.ints_make (ns := [ks.getD k.toNat 0]) (by intro x hx; rw [List.mem_singleton.mp hx]; exact ⟨by assumption, by assumption⟩)) (.head _)
  · refine unheld ?_
    (with_reducible rename Fr _ _ _ _ => F2)
    (with_reducible rename News _ _ _ _ => N2)
    (rename IsRange _ _ _ _ _ _ _ _ => R2)
    refine LCt.CompSrcT.range (by rfl) F2 N2 R2 (by first | decide | exact small_one (by l_bnd) (by l_bnd) (by l_bnd) (by l_bnd)) (by first | exact rangeSize_nat _ _ | rfl) (by rw [PySem.sizeLine_eq]; omega) ?_
    intro g'
    refine' kci_range (fun l p => if p < ks.length then l ++ [ks.getD p.toNat 0] else l) ?turn ?fin ?grow
    case turn =>
      intro k' t' I' oI' C' oC' D' m' ys' l' h' tk' E' hlo' hhi' hI' hC' hx' F' N' off' ne' _
      have off9 := off'
      simp only [LCg.Off3, and_true] at off'
      k_steps
      · refine ⟨_, _, _, rfl, by assumption, by assumption, off9, trivial, rfl, _, _, rfl, if_pos (by assumption)⟩
      · refine ⟨_, _, _, rfl, by assumption, by assumption, off9, trivial, rfl, if_neg (by assumption)⟩
    case fin =>
      intro ys hys hlen D h tk F3 N3 off3
      rw [cut_fold _ _ _ _ (by omega), List.nil_append] at hys
      have hdl := @cut_len_le ks (k + 1) (k + 1 + (ks.getD k.toNat 0 - 128 - 55)) (by omega) (by omega)
      have hst : k + 1 + (((k + 1 + (ks.getD k.toNat 0 - 128 - 55) - (k + 1)).toNat : Nat) : Int) = k + 1 + (ks.getD k.toNat 0 - 128 - 55) := by omega
      rw [hst] at hys
      have hcin := @cut_in ks (k + 1) (k + 1 + (ks.getD k.toNat 0 - 128 - 55)) hin
      have hfi : 0 ≤ ks.getD k.toNat 0 ∧ ks.getD k.toNat 0 < 256 := by omega
      have hHd := @headP_LS ks k hk0 (by omega) (by omega) (by omega) _ rfl
      generalize hdg : cut ks (k + 1) (k + 1 + (ks.getD k.toNat 0 - 128 - 55)) = dg at hys hdl hcin hHd
      (try dsimp only)
      (try k_fold)
      k_steps
      · (with_reducible rename Fr _ _ _ _ => FQ)
        (with_reducible rename News _ _ _ _ => NQ)
        refine ret_one hret FQ NQ (.head _) (fun p hp => by repeat (first | exact hp | apply List.mem_cons_of_mem)) (by first | assumption | exact And.right (a := _) (by assumption) | exact And.right (a := _) (And.right (a := _) (by assumption)) | exact And.right (a := _) (And.right (a := _) (And.right (a := _) (by assumption))) | exact And.right (a := _) (And.right (a := _) (And.right (a := _) (And.right (a := _) (by assumption)))) | exact And.right (a := _) (And.right (a := _) (And.right (a := _) (And.right (a := _) (And.right (a := _) (by assumption))))) | exact And.right (a := _) (And.right (a := _) (And.right (a := _) (And.right (a := _) (And.right (a := _) (And.right (a := _) (by assumption))))))) ?_
        refine lh_fault (hHd.trans (if_pos ⟨by omega, by assumption⟩)) (.head _)
      all_goals (
        have hnz : ¬ (0 < dg.length ∧ dg.getD 0 0 = 0) := fun ⟨q1, q2⟩ => by first | omega | exact absurd q2 (by assumption)
        rw [if_neg hnz] at hHd
        (with_reducible rename Fr _ _ _ _ => F4)
        (with_reducible rename News _ _ _ _ => N4)
        obtain ⟨m₀, hm₀, F4⟩ : ∃ m₀, m₀ = _ ∧ Fr _ _ _ m₀ := ⟨_, rfl, F4⟩
        have e1 : m₀ "digits" = some (.ref D) := by rw [hm₀]; rfl
        obtain ⟨t2, e2⟩ : ∃ t, m₀ "first" = some (.int (ks.getD k.toNat 0) t) := ⟨_, by rw [hm₀]; rfl⟩
        have e3 : m₀ "k" = some (.int k kt) := by rw [hm₀]; rfl
        obtain ⟨t4, e4⟩ : ∃ t, m₀ "many" = some (.int (ks.getD k.toNat 0 - 128 - 55) t) := ⟨_, by rw [hm₀]; rfl⟩
        have e5 : m₀ "kind" = some (.type "bytes") := by rw [hm₀]; rfl
        obtain ⟨t6, e6⟩ : ∃ t, m₀ "size" = some (.int 0 t) := ⟨_, by rw [hm₀]; rfl⟩
        clear hm₀
        refine unheld ?_
        refine For_invVF F4 rfl rfl ?_
        k_steps
        refine unheld ?_
        obtain ⟨lg, hlg, N4⟩ : ∃ lg, lg = _ ∧ News _ _ _ lg := ⟨_, rfl, N4⟩
        have hml : (D, W.listOf ys.toArray ys.length) ∈ lg := by rw [hlg]; exact .head _
        refine iter_invNL (fun i m nx => nx = lg ∧ (∃ t, m "size" = some (.int (KFB.value (dg.take i)) t)) ∧ (∀ y : Str, y ≠ "size" → y ≠ "d" → m y = m₀ y)) rfl hml hys F4 N4 ⟨rfl, ⟨t6, e6⟩, fun _ _ _ => rfl⟩ ?_ ?_
        · intro i n t m₁ news₁ h tk own hi hadr hoff hmem hJ F5 N5
          obtain ⟨rfl, ⟨t7, e7⟩, hm⟩ := hJ
          k_steps
          all_goals (
            refine InvEndN.intro (by assumption) (by assumption) ⟨hmem, rfl, ?_, ?_⟩ rfl (fun p hp => List.mem_append.mpr (.inl hp)) (fun p hp => List.mem_append.mpr (.inr hp))
            · exact ⟨_, by rw [value_take hi]; rfl⟩
            · intro y h1 h2
              show (if y = "size" then _ else if y = "d" then _ else m₁ y) = _
              rw [if_neg h1, if_neg h2]; exact hm y h1 h2)
        · intro m₁ news₁ h tk hmem hJ F5 N5
          obtain ⟨rfl, ⟨t7, e7⟩, hm⟩ := hJ
          rw [List.take_length] at e7
          replace e1 := (hm _ (by decide) (by decide)).trans e1
          replace e2 := (hm _ (by decide) (by decide)).trans e2
          replace e3 := (hm _ (by decide) (by decide)).trans e3
          replace e4 := (hm _ (by decide) (by decide)).trans e4
          replace e5 := (hm _ (by decide) (by decide)).trans e5
          subst hlg
          (try dsimp only)
          (try k_fold)
          k_steps
          · (with_reducible rename Fr _ _ _ _ => FQ)
            (with_reducible rename News _ _ _ _ => NQ)
            refine ret_one hret FQ NQ (.head _) (fun p hp => by repeat (first | exact hp | apply List.mem_cons_of_mem)) (by first | assumption | exact And.right (a := _) (by assumption) | exact And.right (a := _) (And.right (a := _) (by assumption)) | exact And.right (a := _) (And.right (a := _) (And.right (a := _) (by assumption))) | exact And.right (a := _) (And.right (a := _) (And.right (a := _) (And.right (a := _) (by assumption)))) | exact And.right (a := _) (And.right (a := _) (And.right (a := _) (And.right (a := _) (And.right (a := _) (by assumption))))) | exact And.right (a := _) (And.right (a := _) (And.right (a := _) (And.right (a := _) (And.right (a := _) (And.right (a := _) (by assumption))))))) ?_
            refine lh_fault (hHd.trans (if_pos (by assumption))) (.head _)
          · (with_reducible rename Fr _ _ _ _ => F6)
            (with_reducible rename News _ _ _ _ => N6)
            (rename IntsAre _ _ => hIa)
            have hIn : KBa.In ([ks.getD k.toNat 0] ++ dg) := by
              intro x hx
              rcases List.mem_cons.mp hx with rfl | hx
              · exact hfi
              · exact hcin x hx
            k_here
            k_dflt (refine KBa.make_K F6 N6 rfl (list_of N6 (.head _)) hIa hIn (by rw [List.length_append]; dsimp only [List.length_cons, List.length_nil]; omega) ?_)
            intro h7 t7' k7 F7 N7 _
            have hpb := KBa.ints_make hIn
            (try k_fold)
            k_steps
            (with_reducible rename Fr _ _ _ _ => FQ)
            (with_reducible rename News _ _ _ _ => NQ)
            refine ret_one hret FQ NQ (.head _) (fun p hp => by repeat (first | exact hp | apply List.mem_cons_of_mem)) (by first | assumption | exact And.right (a := _) (by assumption) | exact And.right (a := _) (And.right (a := _) (by assumption)) | exact And.right (a := _) (And.right (a := _) (And.right (a := _) (by assumption))) | exact And.right (a := _) (And.right (a := _) (And.right (a := _) (And.right (a := _) (by assumption)))) | exact And.right (a := _) (And.right (a := _) (And.right (a := _) (And.right (a := _) (And.right (a := _) (by assumption))))) | exact And.right (a := _) (And.right (a := _) (And.right (a := _) (And.right (a := _) (And.right (a := _) (And.right (a := _) (by assumption))))))) ?_
            exact lh_ok (hHd.trans (if_neg (by assumption))) hpb (.head _))
    case grow =>
      intro l p
      dsimp only
      split
      · rw [List.length_append]; exact Nat.le_refl _
      · omega
end Mine
end Head
section Seq
set_option maxRecDepth 100000
namespace Mine
open PySem PySem.W PySem.Spec PySem.Calls PyProof.Rows
section
variable {prog : Program} {w : World} {A : Around} {E : Value → Shared → Prop} {s : Shared} {value slice : PySem.Expr} {h₀ : Heap} {L l : Addr} {news : List (Addr × Obj)} {vs : List Value} {n : Nat} {k : Int} {u : Tok} {v : Value} {Q : Value → Shared → Prop}
theorem idx_vals (N : News h₀ L s.heap news) (hm : (l, W.listOf vs.toArray n) ∈ news) (h0 : 0 ≤ k) (h1 : k < 1000000) (hx : vs[k.toNat]? = some v) (h : Q v s)
    (hs : subscripted slice false (.ref l) (.int k u) = operate [.ref l, .int k u] (getItem (.ref l) (.int k u)) := by with_unfolding_all rfl) :
    wpAny (model prog w) A (subscriptTail value slice (.ref l) (.int k u)) Q E s :=
  have hl := list_of N hm
  tail_any hl.typeIs slot_list_getitem.lookup (wpAny_getItem_list hl h0 (by omega) (by rw [List.getElem?_toArray]; exact hx) h) hs
theorem idx_last (N : News h₀ L s.heap news) (hm : (l, W.listOf (vs ++ [v]).toArray n) ∈ news) (h : Q v s)
    (hs : subscripted slice false (.ref l) (.int (-1) u) = operate [.ref l, .int (-1) u] (getItem (.ref l) (.int (-1) u)) := by with_unfolding_all rfl) :
    wpAny (model prog w) A (subscriptTail value slice (.ref l) (.int (-1) u)) Q E s :=
  have hl := list_of N hm
  tail_any hl.typeIs slot_list_getitem.lookup (wpAny_getItem_list_neg hl (by decide) (by rw [List.size_toArray, List.length_append, List.length_singleton]; omega) (by decide)
    (by rw [List.size_toArray, List.length_append, List.length_singleton, List.getElem?_toArray, show (-1 + ((vs.length + 1 : Nat) : Int)).toNat = vs.length by omega]; simp) h) hs
theorem idx_tup {vs : Array Value} {j : Nat} (N : News h₀ L s.heap news) (hm : (l, ({ cls := .type "tuple", data := .seq vs } : Obj)) ∈ news) (h0 : 0 ≤ k) (h1 : k < 1000000) (hj : seqIndex? k vs.toList.length = some j) (hx : vs.toList[j]? = some v) (h : Q v s)
    (hs : subscripted slice false (.ref l) (.int k u) = operate [.ref l, .int k u] (getItem (.ref l) (.int k u)) := by with_unfolding_all rfl) :
    wpAny (model prog w) A (subscriptTail value slice (.ref l) (.int k u)) Q E s :=
  item_tupleT (l := vs.toList) ⟨_, (N _ hm).1, rfl, by exact ⟨_, rfl⟩⟩ (by omega) (by omega) hj hx h hs
theorem last_app : ∀ (l : List Value) (y : Value), kl_last (l ++ [y]) = some (l, y)
  | [], _ => rfl
  | [_], _ => rfl
  | x :: z :: r, y => by
    have q := last_app (z :: r) y
    simp only [List.cons_append] at q ⊢
    unfold kl_last
    rw [q]
end
section
variable {prog : Program} {w : World} {A : Around} {E : Value → Shared → Prop} {s : Shared} {env : Env} {h₀ : Heap} {x : Str} {body : List Stmt} {Q : Flow → Shared → Prop}
/-- what a turn over a list leaves: the ledger as it was -/
def TurnEnd (h₀ : Heap) (L : Addr) (lg : List (Addr × Obj)) (J : (Str → Option Value) → Prop) (s₁ : Shared) (Q : Flow → Shared → Prop) (f : Flow) (s₂ : Shared) : Prop :=
  match f with
  | .ret v => Q (.ret v) s₂
  | .brk => Q .next s₂
  | _ => ∃ h' tk m', s₂ = { s₁ with heap := h', toks := tk } ∧ Fr h₀ L h' m' ∧ News h₀ L h' lg ∧ J m'
theorem iter_vals {l : Addr} {vs : List Value} {nn : Nat} {m₀ : Str → Option Value} {lg : List (Addr × Obj)} (J : Nat → (Str → Option Value) → Prop)
    (hh : A.handled = none) (hl : (l, W.listOf vs.toArray nn) ∈ lg) (F : Fr h₀ env.locals s.heap m₀) (N : News h₀ env.locals s.heap lg) (hj : J 0 m₀)
    (turn : ∀ i v m₁ h tk lg', vs[i]? = some v → (∀ p ∈ lg, p ∈ lg') → J i m₁ → Fr h₀ env.locals h (fun y => if y = x then some v else m₁ y) → News h₀ env.locals h lg' →
      wpAny (model prog w) A (execs body env) (TurnEnd h₀ env.locals lg' (J (i + 1)) { s with heap := h, toks := tk } Q) E { s with heap := h, toks := tk })
    (done : ∀ m₁ h tk, J vs.length m₁ → Fr h₀ env.locals h m₁ → News h₀ env.locals h lg → Q .next { s with heap := h, toks := tk }) :
    wpAny (model prog w) A (pyIter (.ref l)) (fun it s₂ => LoopAtV prog w A h₀ env x body Q E it s₂) E s := by
  have hol : s.heap.get? l = some (listOf vs.toArray nn) := (N _ hl).1
  have hls : s.heap.IsList l vs.toArray := ⟨_, hol, rfl, nn, rfl⟩
  refine wpAny_pyIter_list hls ?_
  have W := Walks.list (prog := prog) (w := w) hh s.heap.objs.size l (Nat.ne_of_lt (Heap.lt_size hol)) vs.toArray
  rw [List.size_toArray] at W
  refine ⟨_, _, _, vs.length, _, _, m₀, lg, (fun i m nx => nx = lg ∧ J i m), rfl, W,
    ?_, ?_, ?_, ⟨⟨_, Heap.get?_push_size _ rfl, rfl, rfl⟩, hls.at fun o e => Heap.get?_push_of_some _ e⟩, F.push _, (fun p hp => ⟨Heap.get?_push_of_some _ (N p hp).1, (N p hp).2⟩), ⟨rfl, hj⟩, ?_, ?_⟩
  · intro hm
    rcases List.mem_cons.mp hm with e | hm
    · exact absurd F.ns.lt (e ▸ Nat.lt_irrefl _)
    · exact (N _ hl).2.1 ((List.mem_singleton.mp hm).symm)
  · intro b hb
    rw [List.mem_singleton.mp hb]
    exact next_is_new F
  · intro p hp hI
    exact absurd (Heap.lt_size (N p hp).1) ((List.mem_singleton.mp hI) ▸ Nat.lt_irrefl _)
  · rintro i v m₁ news₁ s₁ own ⟨hh', tk', rfl⟩ hin hP ⟨rfl, hJ⟩ hoff hown hget hfp _ F₁ N₁
    have hv : vs[i]? = some v := by simpa using hP
    refine wpAny_mono (turn i v m₁ hh' tk' (own ++ news₁) hv (fun p hp => List.mem_append.mpr (.inr hp)) hJ F₁ N₁) (fun f s₂ p => ?_) fun _ _ e => e
    cases f with
    | ret v => exact .ret p
    | brk => exact .brk p
    | next => obtain ⟨h', tk, m', e, F', N', j⟩ := p; exact .next ⟨rfl, h', tk, m', _, e, F', N', hoff, rfl, j⟩
    | cont => obtain ⟨h', tk, m', e, F', N', j⟩ := p; exact .cont ⟨rfl, h', tk, m', _, e, F', N', hoff, rfl, j⟩
  · rintro h' tk m' news' F' N' _ ⟨rfl, hJ⟩
    exact done m' h' tk hJ F' N'
end
theorem TrsIn.get {n : List (Addr × Obj)} : ∀ {vs : List Value} {ts : List Tr} {i : Nat} {v : Value}, TrsIn n vs ts → vs[i]? = some v → ∃ t, ts[i]? = some t ∧ TrIn n v t
  | _, _, i, v, .nil, h => by simp at h
  | _, _, 0, v, .cons x r, h => ⟨_, rfl, by simp at h; exact h ▸ x⟩
  | _, _, i + 1, v, .cons x r, h => TrsIn.get (i := i) r (by simpa using h)

/-- an open row of the walk -/
structure Fm where
  e : Int
  its : List Tr
  rls : List Tr
  body : List Int
noncomputable def unw (ks : List Int) : List Fm → Res → Option Res
  | [], r => some r
  | _ :: _, .error x => some (.error x)
  | f :: fs, .ok (it, rl, nx) => loop ks f.e nx (f.its ++ [it]) (f.rls ++ [rl]) (f.body ++ firstOf rl) >>= unw ks fs
noncomputable def stA (ks : List Int) (k : Int) (st : List Fm) : Option Res := match headP ks k with
  | .error x => some (.error x)
  | .ok h => pay ks h >>= unw ks st
noncomputable def stB (ks : List Int) (k : Int) (f : Fm) (fs : List Fm) : Option Res := loop ks f.e k f.its f.rls f.body >>= unw ks fs
theorem unw_err (ks : List Int) (x : Ft) : ∀ st, unw ks st (.error x) = some (.error x)
  | [] => rfl
  | _ :: _ => rfl
section
variable {ks : List Int} {k : Int} {st fs gs : List Fm} {f g : Fm} {h : Hd} {x : Ft}
theorem stA_nil : stA ks k [] = itemP ks k := by
  unfold stA itemP
  cases headP ks k with
  | error x => rfl
  | ok h => dsimp only; show (pay ks h >>= fun r => some r) = _; cases pay ks h <;> rfl
theorem stA_err (e : headP ks k = .error x) : stA ks k st = some (.error x) := by unfold stA; rw [e]
theorem stA_list (e : headP ks k = .ok h) (hl : h.lst = true) : stA ks k st = stB ks h.pos ⟨h.pos + h.size, [], [], h.pre⟩ st := by
  unfold stA stB; rw [e]; dsimp only; rw [pay_list hl]
theorem stA_leaf (e : headP ks k = .ok h) (hl : h.lst = false) : stA ks k st = unw ks st (.ok (.leaf (cut ks h.pos (h.pos + h.size)), .node [.leaf (h.pre ++ cut ks h.pos (h.pos + h.size))], h.pos + h.size)) := by
  unfold stA; rw [e]; dsimp only; rw [pay_leaf hl]; rfl
theorem stB_over (e : f.e < k) : stB ks k f fs = some (.error (.fault M5)) := by
  unfold stB; rw [loop_over e]; exact unw_err _ _ _
theorem stB_done (e : k = f.e) : stB ks k f fs = unw ks fs (.ok (.node f.its, .node (.leaf f.body :: f.rls), k)) := by
  unfold stB; rw [loop_done e]; rfl
theorem stB_next (e : k < f.e) : stB ks k f fs = stA ks k (f :: fs) := by
  unfold stA stB
  cases hh : headP ks k with
  | error x => rw [loop_bad e hh]; exact unw_err _ _ _
  | ok h =>
    dsimp only
    rw [loop, if_pos e, hh]
    dsimp only
    cases pay ks h with
    | none => rfl
    | some r =>
      cases r with
      | error x => exact unw_err _ _ _
      | ok q => rfl
end
end Mine
end Seq
section RowsW
set_option maxRecDepth 100000
namespace Mine
open PySem PySem.W PySem.Spec PySem.Calls PyProof.Rows
/-- an open row, as the machine holds it -/
structure Rw where
  e : Int
  et : Tok
  pb : Array UInt8
  pt : Tok
  I : Addr
  P : Addr
  A : Addr
  vi : List Value
  vp : List Value
  ni : Nat
  np : Nat
  nA : Nat
  its : List Tr
  rls : List Tr
def Rw.body (r : Rw) : List Int := KBw.bInts r.pb ++ (r.rls.map firstOf).flatten
def Rw.fm (r : Rw) : Fm := ⟨r.e, r.its, r.rls, r.body⟩
noncomputable def stObjs : List Rw → List (Addr × Obj)
  | [] => []
  | r :: rs => (r.I, W.listOf r.vi.toArray r.ni) :: (r.P, W.listOf r.vp.toArray r.np) :: (r.A, W.listOf [Value.int r.e r.et, .bytes r.pb r.pt, .ref r.I, .ref r.P].toArray r.nA) :: stObjs rs
noncomputable def stAddrs : List Rw → List Addr
  | [] => []
  | r :: rs => r.I :: r.P :: r.A :: stAddrs rs
noncomputable def rowsV : List Rw → List Value
  | [] => []
  | r :: rs => rowsV rs ++ [.ref r.A]
theorem rowsV_length : ∀ st, (rowsV st).length = st.length
  | [] => rfl
  | r :: rs => by rw [rowsV, List.length_append, rowsV_length rs]; rfl
theorem stObjs_addr : ∀ {st : List Rw} {p : Addr × Obj}, p ∈ stObjs st → p.1 ∈ stAddrs st
  | [], _, h => by cases h
  | r :: rs, p, h => by
    simp only [stObjs, List.mem_cons] at h
    simp only [stAddrs, List.mem_cons]
    rcases h with rfl | rfl | rfl | h
    · exact .inl rfl
    · exact .inr (.inl rfl)
    · exact .inr (.inr (.inl rfl))
    · exact .inr (.inr (.inr (stObjs_addr h)))
structure RwOk (tl : List (Addr × Obj)) (r : Rw) : Prop where
  t2 : TrsIn tl r.vi r.its
  t3 : TrsIn tl r.vp r.rls
  nd : ∀ t ∈ r.rls, ∃ bd ts, t = .node (.leaf bd :: ts)
  ln : r.rls.length = r.its.length
theorem RwOk.mono {tl tl' : List (Addr × Obj)} {r : Rw} (hs : ∀ p ∈ tl, p ∈ tl') (h : RwOk tl r) : RwOk tl' r := ⟨h.t2.mono hs, h.t3.mono hs, h.nd, h.ln⟩
noncomputable def totB : List Rw → Nat
  | [] => 0
  | r :: rs => r.body.length + totB rs
noncomputable def totI : List Rw → Nat
  | [] => 0
  | r :: rs => r.its.length + 1 + totI rs
theorem totI_le : ∀ st, st.length ≤ totI st
  | [] => Nat.le_refl _
  | r :: rs => by have := totI_le rs; simp only [totI, List.length_cons]; omega
structure WalkJ (ks : List Int) (g' : Heap) (L' R : Addr) (cell : Addr × Obj) (news : List (Addr × Obj)) (mm : Str → Option Value) (k : Int) (st : List Rw) (nR : Nat) (tl : List (Addr × Obj)) (h' : Heap) : Prop where
  F : Fr g' L' h' mm
  N : News g' L' h' ((R, W.listOf (rowsV st).toArray nR) :: (stObjs st ++ (tl ++ cell :: news)))
  dis : (R :: stAddrs st).Nodup
  far : ∀ a ∈ R :: stAddrs st, ∀ q ∈ tl ++ cell :: news, q.1 ≠ a
  ord : ∀ q ∈ cell :: news, (∀ a ∈ R :: stAddrs st, q.1 < a) ∧ ∀ p ∈ tl, q.1 < p.1
  m1 : mm "rows" = some (.ref R)
  m2 : ∃ t, mm "k" = some (.int k t)
  ok : ∀ r ∈ st, RwOk tl r
  k0 : 0 ≤ k
  b1 : (totB st : Int) ≤ min k ks.length
  b2 : (totI st : Int) ≤ min k ks.length
theorem WalkJ.split {ks : List Int} {g' : Heap} {L' R : Addr} {cell : Addr × Obj} {news tl : List (Addr × Obj)} {mm : Str → Option Value} {k : Int} {r : Rw} {rs : List Rw} {nR : Nat} {h' : Heap} (J : WalkJ ks g' L' R cell news mm k (r :: rs) nR tl h') :
    (R ≠ r.I ∧ R ≠ r.P ∧ R ≠ r.A ∧ r.I ≠ r.P ∧ r.I ≠ r.A ∧ r.P ≠ r.A) ∧ (∀ p ∈ stObjs rs ++ (tl ++ cell :: news), p.1 ≠ R) ∧ (∀ p ∈ stObjs rs ++ (tl ++ cell :: news), p.1 ≠ r.I) ∧ (∀ p ∈ stObjs rs ++ (tl ++ cell :: news), p.1 ≠ r.P) ∧ (∀ p ∈ stObjs rs ++ (tl ++ cell :: news), p.1 ≠ r.A) := by
  have d := J.dis
  have f := J.far
  simp only [stAddrs, List.nodup_cons, List.mem_cons, not_or] at d
  obtain ⟨⟨d1, d2, d3, d4⟩, ⟨d5, d6, d7⟩, ⟨d8, d9⟩, d10, d11⟩ := d
  refine ⟨⟨d1, d2, d3, d5, d6, d8⟩, ?_, ?_, ?_, ?_⟩
  all_goals
    intro p hp
    rcases List.mem_append.mp hp with z | z
    · intro e
      have y := stObjs_addr z
      rw [e] at y
      exact absurd y (by assumption)
    · exact f _ (by simp [stAddrs]) p z

theorem stAddr_obj : ∀ {st : List Rw} {a : Addr}, a ∈ stAddrs st → ∃ o, (a, o) ∈ stObjs st
  | r :: rs, a, h => by
    simp only [stAddrs, List.mem_cons] at h
    rcases h with rfl | rfl | rfl | h
    · exact ⟨_, .head _⟩
    · exact ⟨_, .tail _ (.head _)⟩
    · exact ⟨_, .tail _ (.tail _ (.head _))⟩
    · obtain ⟨o, z⟩ := stAddr_obj h
      exact ⟨o, .tail _ (.tail _ (.tail _ z))⟩
def Rw.add (r : Rw) (v1 v2 : Value) (t1 t2 : Tr) : Rw := { r with vi := r.vi ++ [v1], vp := r.vp ++ [v2], ni := r.ni + 1, np := r.np + 1, its := r.its ++ [t1], rls := r.rls ++ [t2] }
theorem Rw.add_body (r : Rw) (v1 v2 : Value) (t1 t2 : Tr) : (r.add v1 v2 t1 t2).body = r.body ++ firstOf t2 := by simp [Rw.add, Rw.body]
theorem RwOk.add {tl : List (Addr × Obj)} {r : Rw} {v1 v2 : Value} {t1 t2 : Tr} (h : RwOk tl r) (T1 : TrIn tl v1 t1) (T2 : TrIn tl v2 t2) (hn : ∃ bd ts, t2 = .node (.leaf bd :: ts)) : RwOk tl (r.add v1 v2 t1 t2) :=
  ⟨TrsIn.snoc T1 h.t2, TrsIn.snoc T2 h.t3, (fun t ht => by
    rcases List.mem_append.mp ht with z | z
    · exact h.nd t z
    · rw [List.mem_singleton.mp z]; exact hn), by simp [Rw.add, h.ln]⟩
section
variable {ks : List Int} {g' : Heap} {L' R : Addr} {cell : Addr × Obj} {news tl : List (Addr × Obj)} {mm mm' : Str → Option Value} {k k' : Int} {r g : Rw} {st rs gs : List Rw} {nR : Nat} {h' h'' : Heap}
theorem J_leaf (J : WalkJ ks g' L' R cell news mm k (r :: rs) nR tl h') {x : Addr × Obj} {v1 v2 : Value} {t1 t2 : Tr} (hx1 : ∀ a ∈ R :: stAddrs (r :: rs), a < x.1) (hx2 : ∀ q ∈ cell :: news, q.1 < x.1)
    (F : Fr g' L' h'' mm') (N : News g' L' h'' ((R, W.listOf (rowsV (r :: rs)).toArray nR) :: (stObjs (r.add v1 v2 t1 t2 :: rs) ++ ((x :: tl) ++ cell :: news)))) (m1 : mm' "rows" = some (.ref R)) (m2 : ∃ t, mm' "k" = some (.int k' t))
    (T1 : TrIn (x :: tl) v1 t1) (T2 : TrIn (x :: tl) v2 t2) (hn : ∃ bd ts, t2 = .node (.leaf bd :: ts)) (hk : 0 ≤ k') (b1 : (totB (r :: rs) : Int) + (firstOf t2).length ≤ min k' ks.length) (b2 : (totI (r :: rs) : Int) + 1 ≤ min k' ks.length) :
    WalkJ ks g' L' R cell news mm' k' (r.add v1 v2 t1 t2 :: rs) nR (x :: tl) h'' where
  F := F
  N := N
  dis := J.dis
  far := fun a ha q hq => by
    rcases List.mem_cons.mp hq with rfl | hq
    · exact Nat.ne_of_gt (hx1 a ha)
    · exact J.far a ha q hq
  ord := fun q hq => ⟨(J.ord q hq).1, fun p hp => by
    rcases List.mem_cons.mp hp with rfl | hp
    · exact hx2 q hq
    · exact (J.ord q hq).2 p hp⟩
  m1 := m1
  m2 := m2
  ok := fun r' hr => by
    rcases List.mem_cons.mp hr with rfl | hr
    · exact (RwOk.mono (fun p hp => .tail _ hp) (J.ok r (.head _))).add T1 T2 hn
    · exact RwOk.mono (fun p hp => .tail _ hp) (J.ok r' (.tail _ hr))
  k0 := hk
  b1 := by simp only [totB, Rw.add_body, List.length_append] at b1 ⊢; omega
  b2 := by simp only [totI, Rw.add, List.length_append, List.length_singleton] at b2 ⊢; omega
theorem J_push (J : WalkJ ks g' L' R cell news mm k st nR tl h') {r : Rw} (h1 : r.vi = [] ∧ r.vp = [] ∧ r.its = [] ∧ r.rls = []) (o1 : ∀ a ∈ R :: stAddrs st, a < r.I) (o2 : r.I < r.P) (o3 : r.P < r.A) (o4 : ∀ q ∈ tl ++ cell :: news, q.1 < r.I)
    (F : Fr g' L' h'' mm') (N : News g' L' h'' ((R, W.listOf (rowsV (r :: st)).toArray (nR + 1)) :: (stObjs (r :: st) ++ (tl ++ cell :: news)))) (m1 : mm' "rows" = some (.ref R)) (m2 : ∃ t, mm' "k" = some (.int k' t))
    (hk : 0 ≤ k') (b1 : (totB st : Int) + (KBw.bInts r.pb).length ≤ min k' ks.length) (b2 : (totI st : Int) + 1 ≤ min k' ks.length) : WalkJ ks g' L' R cell news mm' k' (r :: st) (nR + 1) tl h'' where
  F := F
  N := N
  dis := by
    have d := J.dis
    have hI : r.I ∉ R :: stAddrs st := fun z => Nat.lt_irrefl _ (o1 _ z)
    have hP : r.P ∉ R :: stAddrs st := fun z => Nat.lt_asymm (o1 _ z) o2
    have hA : r.A ∉ R :: stAddrs st := fun z => Nat.lt_asymm (o1 _ z) (Nat.lt_trans o2 o3)
    simp only [stAddrs, List.nodup_cons, List.mem_cons, not_or] at d hI hP hA ⊢
    have e1 : r.I ≠ r.P := Nat.ne_of_lt o2
    have e2 : r.I ≠ r.A := Nat.ne_of_lt (Nat.lt_trans o2 o3)
    have e3 : r.P ≠ r.A := Nat.ne_of_lt o3
    grind
  far := fun a ha q hq => by
    have z := o4 q hq
    simp only [stAddrs, List.mem_cons] at ha
    rcases ha with rfl | rfl | rfl | rfl | ha
    · exact J.far _ (.head _) q hq
    · exact Nat.ne_of_lt z
    · exact Nat.ne_of_lt (Nat.lt_trans z o2)
    · exact Nat.ne_of_lt (Nat.lt_trans z (Nat.lt_trans o2 o3))
    · exact J.far _ (.tail _ ha) q hq
  ord := fun q hq => ⟨fun a ha => by
    have z := o4 q (List.mem_append.mpr (.inr hq))
    simp only [stAddrs, List.mem_cons] at ha
    rcases ha with rfl | rfl | rfl | rfl | ha
    · exact (J.ord q hq).1 _ (.head _)
    · exact z
    · exact Nat.lt_trans z o2
    · exact Nat.lt_trans z (Nat.lt_trans o2 o3)
    · exact (J.ord q hq).1 _ (.tail _ ha), (J.ord q hq).2⟩
  m1 := m1
  m2 := m2
  ok := fun r' hr => by
    rcases List.mem_cons.mp hr with rfl | hr
    · exact ⟨by rw [h1.1, h1.2.2.1]; exact .nil, by rw [h1.2.1, h1.2.2.2]; exact .nil, (by rw [h1.2.2.2]; exact fun _ z => nomatch z), by rw [h1.2.2.1, h1.2.2.2]⟩
    · exact J.ok r' hr
  k0 := hk
  b1 := by simp only [totB, Rw.body, h1.2.2.2, List.map_nil, List.flatten_nil, List.append_nil]; omega
  b2 := by simp only [totI, h1.2.2.1, List.length_nil]; omega
theorem J_pop (J : WalkJ ks g' L' R cell news mm k (r :: g :: gs) nR tl h') {x : Addr × Obj} (hx1 : ∀ a ∈ R :: stAddrs (r :: g :: gs), a < x.1) (hx2 : ∀ q ∈ cell :: news, q.1 < x.1) {bb : Array UInt8} {bt : Tok} {ep : Nat} (hb : KBw.bInts bb = r.body) (hxo : x.2 = W.listOf (Value.bytes bb bt :: r.vp).toArray ep)
    (F : Fr g' L' h'' mm') (N : News g' L' h'' ((R, W.listOf (rowsV (g :: gs)).toArray (nR + 1)) :: (stObjs (g.add (.ref r.I) (.ref x.1) (.node r.its) (.node (.leaf r.body :: r.rls)) :: gs) ++ ((x :: (r.I, W.listOf r.vi.toArray r.ni) :: tl) ++ cell :: news)))) (m1 : mm' "rows" = some (.ref R)) (m2 : ∃ t, mm' "k" = some (.int k t)) :
    WalkJ ks g' L' R cell news mm' k (g.add (.ref r.I) (.ref x.1) (.node r.its) (.node (.leaf r.body :: r.rls)) :: gs) (nR + 1) (x :: (r.I, W.listOf r.vi.toArray r.ni) :: tl) h'' where
  F := F
  N := N
  dis := by
    have d := J.dis
    simp only [stAddrs, Rw.add, List.nodup_cons, List.mem_cons, not_or] at d ⊢
    grind
  far := fun a ha q hq => by
    have ha' : a ∈ R :: stAddrs (r :: g :: gs) := by
      rcases List.mem_cons.mp ha with rfl | ha
      · exact .head _
      · exact .tail _ (.tail _ (.tail _ (.tail _ ha)))
    rcases List.mem_cons.mp hq with rfl | hq
    · exact Nat.ne_of_gt (hx1 a ha')
    · rcases List.mem_cons.mp hq with rfl | hq
      · have d := J.dis
        simp only [stAddrs, Rw.add, List.nodup_cons, List.mem_cons, not_or] at d ha
        show r.I ≠ a
        grind
      · exact J.far a ha' q hq
  ord := fun q hq => ⟨fun a ha => (J.ord q hq).1 a (by
      rcases List.mem_cons.mp ha with rfl | ha
      · exact .head _
      · exact .tail _ (.tail _ (.tail _ (.tail _ ha)))), fun p hp => by
    rcases List.mem_cons.mp hp with rfl | hp
    · exact hx2 q hq
    · rcases List.mem_cons.mp hp with rfl | hp
      · exact (J.ord q hq).1 _ (.tail _ (.head _))
      · exact (J.ord q hq).2 p hp⟩
  m1 := m1
  m2 := m2
  ok := fun r' hr => by
    have hs : ∀ p ∈ tl, p ∈ x :: (r.I, W.listOf r.vi.toArray r.ni) :: tl := fun p hp => .tail _ (.tail _ hp)
    have k1 := (J.ok r (.head _)).mono hs
    rcases List.mem_cons.mp hr with rfl | hr
    · refine (RwOk.mono hs (J.ok g (.tail _ (.head _)))).add (.node (.tail _ (.head _)) k1.t2) (.node (vs := .bytes bb bt :: r.vp) (ep := ep) ?_ (.cons (.leaf hb) k1.t3)) ⟨_, _, rfl⟩
      rw [← hxo]; exact .head _
    · exact RwOk.mono hs (J.ok r' (.tail _ (.tail _ hr)))
  k0 := J.k0
  b1 := by have z := J.b1; simp only [totB, Rw.add_body, List.length_append, firstOf] at z ⊢; omega
  b2 := by have z := J.b2; simp only [totI, Rw.add, List.length_append, List.length_singleton] at z ⊢; omega
theorem J_head (J : WalkJ ks g' L' R cell news mm k st nR tl h') {tl9 : List (Addr × Obj)} (o9 : ∀ q ∈ (R, W.listOf (rowsV st).toArray nR) :: (stObjs st ++ (tl ++ cell :: news)), ∀ p ∈ tl9, q.1 < p.1) (F : Fr g' L' h'' mm')
    (N : News g' L' h'' (((R, W.listOf (rowsV st).toArray nR) :: (stObjs st ++ (tl ++ cell :: news))) ++ tl9)) (m1 : mm' "rows" = some (.ref R)) (m2 : ∃ t, mm' "k" = some (.int k t)) : WalkJ ks g' L' R cell news mm' k st nR (tl9 ++ tl) h'' where
  F := F
  N := fun p hp => N p (by simp only [List.mem_cons, List.mem_append] at hp ⊢; grind)
  dis := J.dis
  far := fun a ha q hq => by
    rw [List.append_assoc] at hq
    rcases List.mem_append.mp hq with z | z
    · rcases List.mem_cons.mp ha with rfl | ha
      · exact Nat.ne_of_gt (o9 _ (.head _) q z)
      · obtain ⟨o, y⟩ := stAddr_obj ha
        exact Nat.ne_of_gt (o9 _ (.tail _ (List.mem_append.mpr (.inl y))) q z)
    · exact J.far a ha q z
  ord := fun q hq => ⟨(J.ord q hq).1, fun p hp => by
    rcases List.mem_append.mp hp with z | z
    · exact o9 q (.tail _ (List.mem_append.mpr (.inr (List.mem_append.mpr (.inr hq))))) p z
    · exact (J.ord q hq).2 p z⟩
  m1 := m1
  m2 := m2
  ok := fun r hr => (J.ok r hr).mono fun p hp => List.mem_append.mpr (.inr hp)
  k0 := J.k0
  b1 := J.b1
  b2 := J.b2
end
theorem ret_sub {h₀ h : Heap} {L : Addr} {m : Str → Option Value} {news big : List (Addr × Obj)} {t : Nat} {s : Shared} {Q : Value → Shared → Prop} {Ret : List (Addr × Obj) → Value → Prop} {v : Value}
    (hret : ∀ r tl h' tk', Fr h₀ L h' m → News h₀ L h' (news ++ tl) → (∀ q ∈ news, ∀ p ∈ tl, q.1 < p.1) → Ret tl r → Q r { s with heap := h', toks := tk' })
    (own : List (Addr × Obj)) (F : Fr h₀ L h m) (N : News h₀ L h big) (hs : ∀ p ∈ news ++ own, p ∈ big) (l : ∀ q ∈ news, ∀ p ∈ own, q.1 < p.1) (R : Ret own v) : Q v { s with heap := h, toks := t } :=
  hret v own _ _ F (fun p hp => N p (hs p hp)) l R

section
variable {prog : Program} {w : World} {A : Around} {E : Value → Shared → Prop} {s : Shared} {h₀ : Heap} {L I a b : Addr} {m : Str → Option Value} {lg : List (Addr × Obj)} {vs vi : List Value} {n n1 n2 : Nat} {y v : Value} {Q : Value → Shared → Prop}
theorem app_any (F : Fr h₀ L s.heap m) (N : News h₀ L s.heap lg) (hm : (I, W.listOf vi.toArray n) ∈ lg) (lg' : List (Addr × Obj)) (hs : ∀ p ∈ lg', p ∈ lg ∧ p.1 ≠ I) (hsz : vi.length ≤ 1000000)
    (h : ∀ h', Fr h₀ L h' m → News h₀ L h' ((I, W.listOf (vi ++ [y]).toArray (n + 1)) :: lg') → Q .none { s with heap := h' }) : wpAny (model prog w) A (call (.builtin "list.append") [.ref I, y]) Q E s :=
  append_K F (news := (I, W.listOf vi.toArray n) :: lg') (fun p hp => by
    rcases List.mem_cons.mp hp with rfl | hp
    · exact N _ hm
    · exact N p (hs p hp).1) (.head fun p hp => (hs p hp).2) (fun h' F' N' => h h' F' (by simpa only [List.push_toArray] using N')) (by rw [List.size_toArray, sizeLine_eq]; omega)
theorem pop_any (F : Fr h₀ L s.heap m) (N : News h₀ L s.heap lg) (hm : (I, W.listOf (vi ++ [y]).toArray n) ∈ lg) (lg' : List (Addr × Obj)) (hs : ∀ p ∈ lg', p ∈ lg ∧ p.1 ≠ I) (hsz : vi.length ≤ 1000000)
    (h : ∀ h', Fr h₀ L h' m → News h₀ L h' ((I, W.listOf vi.toArray (n + 1)) :: lg') → Q y { s with heap := h' }) : wpAny (model prog w) A (call (.builtin "list.pop") [.ref I]) Q E s :=
  kl_pop F (news := (I, W.listOf (vi ++ [y]).toArray n) :: lg') (fun p hp => by
    rcases List.mem_cons.mp hp with rfl | hp
    · exact N _ hm
    · exact N p (hs p hp).1) (last_app _ _) (.head fun p hp => (hs p hp).2) (by rw [List.toList_toArray, List.length_append, List.length_singleton, sizeLine_eq]; omega) h
theorem cat_any (F : Fr h₀ L s.heap m) (N : News h₀ L s.heap lg) (ha : (a, W.listOf [v].toArray n1) ∈ lg) (hb : (b, W.listOf vs.toArray n2) ∈ lg) (hsz : vs.length ≤ 1000000)
    (h : ∀ D h', Fr h₀ L h' m → News h₀ L h' ((D, W.listOf (v :: vs).toArray 0) :: lg) → (∀ p ∈ lg, p.1 < D) → Q (.ref D) { s with heap := h' }) : wpAny (model prog w) A (binaryOp .Add (.ref a) (.ref b)) Q E s :=
  kmk_add_lit F N (list_of N ha) (list_of N hb) rfl h (by rw [List.toList_toArray, List.toList_toArray, List.length_singleton, sizeLine_eq]; omega)
theorem len_n {c : Nat} (N : News h₀ L s.heap lg) (hm : (a, W.listOf vs.toArray n) ∈ lg) (hc : vs.length = c) (hfit : c ≤ 1000000) (h : ∀ t tk, Q (.int (c : Nat) t) { s with toks := tk }) :
    wpAny (model prog w) A (call (.builtin "len") [.ref a]) Q E s := by subst hc; exact len_any N hm hfit h
end
theorem rowsV_snoc (rs : List Rw) (v : Value) : (rowsV rs ++ [v]).length = rs.length + 1 := by rw [List.length_append, rowsV_length]; rfl
theorem map_cut (ks : List Int) : ∀ (n : Nat) (lo : Int), 0 ≤ lo → lo + n ≤ ks.length → (rangeKs lo n).map (fun p => ks.getD p.toNat 0) = cut ks lo (lo + n)
  | 0, lo, h0, _ => by simp [rangeKs, cut_self h0]
  | n + 1, lo, h0, h1 => by
    rw [rangeKs_succ, List.map_cons, map_cut ks n (lo + 1) (by omega) (by omega), cut_cons (lo := lo) (hi := lo + ((n + 1 : Nat) : Int)) h0 (by omega) (by omega), show lo + ((n + 1 : Nat) : Int) = lo + 1 + (n : Int) by omega]
theorem map_lim {ks : List Int} {lo size lim : Int} (h0 : 0 ≤ lo) (hs : 0 ≤ size) (hl : lim = if (ks.length : Int) < lo + size then (ks.length : Int) else lo + size) : (rangeKs lo (lim - lo).toNat).map (fun p => ks.getD p.toNat 0) = cut ks lo (lo + size) := by
  by_cases h1 : lo ≤ lim
  · rw [map_cut ks _ lo h0 (by rw [hl] at h1 ⊢; split at h1 <;> omega)]
    rw [cut_nat h0 (by omega), cut_nat h0 (by omega)]
    split at hl
    · rw [List.take_of_length_le (by rw [List.length_drop]; omega), List.take_of_length_le (by rw [List.length_drop]; omega)]
    · congr 1; omega
  · have : (lim - lo).toNat = 0 := by omega
    rw [this, cut_out h0 (by split at hl <;> omega) (by omega)]; simp [rangeKs]
def WalkRet (ks : List Int) (k : Int) (news tl : List (Addr × Obj)) (v : Value) : Prop := ∃ a, v = .ref a ∧
  ((∃ x, itemP ks k = some (.error x) ∧ HeadTup (news ++ tl) a (.error x)) ∨
   (∃ it rl nx v1 a2 t t', itemP ks k = some (.ok (it, rl, nx)) ∧ (a, ({ cls := .type "tuple", data := .seq #[.str "ok" t', v1, .ref a2, .int nx t] } : Obj)) ∈ tl ∧ TrIn tl v1 it ∧ TrIn tl (.ref a2) rl))
theorem HeadTup.mono {n n' : List (Addr × Obj)} {a : Addr} {x : Except Ft Hd} (hs : ∀ p ∈ n, p ∈ n') (h : HeadTup n a x) : HeadTup n' a x := by
  cases x with
  | error x => cases x with
    | index => obtain ⟨t, z⟩ := h; exact ⟨t, hs _ z⟩
    | fault m => obtain ⟨t, t', z⟩ := h; exact ⟨t, t', hs _ z⟩
  | ok h' => obtain ⟨t, pb, pt, st, ot, z, e⟩ := h; exact ⟨t, pb, pt, st, ot, hs _ z, e⟩

theorem WalkJ.split2 {ks : List Int} {g' : Heap} {L' R : Addr} {cell : Addr × Obj} {news tl : List (Addr × Obj)} {mm : Str → Option Value} {k : Int} {r g : Rw} {gs : List Rw} {nR : Nat} {h' : Heap} (J : WalkJ ks g' L' R cell news mm k (r :: g :: gs) nR tl h') :
    (R ≠ g.I ∧ r.I ≠ g.I ∧ r.P ≠ g.I ∧ r.A ≠ g.I ∧ g.P ≠ g.I ∧ g.A ≠ g.I) ∧ (R ≠ g.P ∧ r.I ≠ g.P ∧ r.P ≠ g.P ∧ r.A ≠ g.P ∧ g.A ≠ g.P) ∧ (∀ p ∈ stObjs gs ++ (tl ++ cell :: news), p.1 ≠ g.I) ∧ (∀ p ∈ stObjs gs ++ (tl ++ cell :: news), p.1 ≠ g.P) := by
  have d := J.dis
  have f := J.far
  simp only [stAddrs, List.nodup_cons, List.mem_cons, not_or] at d
  refine ⟨by grind, by grind, ?_, ?_⟩
  all_goals
    intro p hp
    rcases List.mem_append.mp hp with z | z
    · intro e
      have y := stObjs_addr z
      rw [e] at y
      grind
    · exact f _ (by simp [stAddrs]) p z
theorem turn_next {h₀ : Heap} {L : Addr} {lg : List (Addr × Obj)} {J : (Str → Option Value) → Prop} {s₁ s₂ : Shared} {Q : Flow → Shared → Prop} (h : ∃ h' tk m', s₂ = { s₁ with heap := h', toks := tk } ∧ Fr h₀ L h' m' ∧ News h₀ L h' lg ∧ J m') : TurnEnd h₀ L lg J s₁ Q .next s₂ := h
theorem ret_two {h₀ h : Heap} {L : Addr} {m : Str → Option Value} {news rest : List (Addr × Obj)} {p1 p2 : Addr × Obj} {t : Nat} {s : Shared} {Q : Value → Shared → Prop} {Ret : List (Addr × Obj) → Value → Prop} {v : Value}
    (hret : ∀ r tl h' tk', Fr h₀ L h' m → News h₀ L h' (news ++ tl) → (∀ q ∈ news, ∀ p ∈ tl, q.1 < p.1) → Ret tl r → Q r { s with heap := h', toks := tk' })
    (own : List (Addr × Obj)) (F : Fr h₀ L h m) (N : News h₀ L h (p1 :: p2 :: rest)) (hs : ∀ p ∈ news ++ own, p ∈ rest) (l1 : AllLt p1.1 news) (l2 : AllLt p2.1 news) (l3 : ∀ q ∈ news, ∀ p ∈ own, q.1 < p.1) (R : Ret (p1 :: p2 :: own) v) : Q v { s with heap := h, toks := t } :=
  ret_sub hret (p1 :: p2 :: own) F N (fun p hp => by
    rcases List.mem_append.mp hp with z | z
    · exact .tail _ (.tail _ (hs p (List.mem_append.mpr (.inl z))))
    · rcases List.mem_cons.mp z with rfl | z
      · exact .head _
      · rcases List.mem_cons.mp z with rfl | z
        · exact .tail _ (.head _)
        · exact .tail _ (.tail _ (hs p (List.mem_append.mpr (.inr z))))) (fun q hq p hp => by
    rcases List.mem_cons.mp hp with rfl | hp
    · exact ktn_ltOf l1 q hq
    · rcases List.mem_cons.mp hp with rfl | hp
      · exact ktn_ltOf l2 q hq
      · exact l3 q hq p hp) R
theorem RwOk.up3 {tl : List (Addr × Obj)} {r : Rw} {p1 p2 p3 : Addr × Obj} (h : RwOk tl r) : RwOk (p1 :: p2 :: p3 :: tl) r := h.mono fun p hp => .tail _ (.tail _ (.tail _ hp))
end Mine
end RowsW
section Walk
set_option maxRecDepth 100000
namespace Mine
open PySem PySem.W PySem.Spec PySem.Calls PyProof.Rows
local macro_rules | `(tactic| walk_at "my enter") => `(tactic| (refine' code_def ?k1 ?k2 ?k3 ?k4 ?k5 ?kA ?kF ?kK ?k6 ?k7 ?k8 ?k9 ?kB ?_ ?c2 ?c3 ?c4 ?c5; (case kA => exact rfl); (case kF => exact rfl); (case kK => first | assumption | exact rfl); (case k1 => k_asm); (case k2 => k_asm); (case k3 => k_asm); (case k4 => k_asm); (case k5 => k_asm); (case k6 => k_is); (case k7 => k_is); (case k8 => ktr_room); (case k9 => exact BindsTo.of_eq rfl); (case c5 => decide); (case kB => exact locs rfl); (case c2 => exact rfl); (case c3 => exact rfl); (case c4 => exact rfl); k_whole; intro g' L' h' FG' F' N' B' X' T'; (try dsimp only); (try k_fold)))
local macro_rules | `(tactic| k_mem) => `(tactic| ((with_reducible show @List.Mem (Addr × Obj) _ (_ ++ _)); first | (refine List.mem_append.mpr (Or.inl ?_); k_mem) | (refine List.mem_append.mpr (Or.inr ?_); k_mem)))
local macro_rules | `(tactic| k_mem) => `(tactic| ((with_reducible show @List.Mem (Addr × Obj) _ _); (show Membership.mem (γ := List (Addr × Obj)) _ _); ktr_member))
local macro_rules | `(tactic| walk_at "my enterC") => `(tactic| (refine' code_defC ?k1 ?k2 ?k3 ?k4 ?k5 ?kA ?kF ?kK ?k6 ?k7 ?k8 ?k9 ?kB ?kD ?_ ?c2 ?c3 ?c4; (case kA => exact rfl); (case kF => exact rfl); (case kK => first | assumption | exact rfl); (case k1 => k_asm); (case k2 => k_asm); (case k3 => k_asm); (case k4 => k_asm); (case k5 => k_asm); (case k6 => k_is); (case k7 => k_is); (case k8 => ktr_room); (case k9 => exact BindsTo.of_eq rfl); (case kB => exact rfl); (case kD => decide +kernel); (case c2 => exact rfl); (case c3 => exact rfl); (case c4 => exact rfl); k_whole; intro g' L' h' tk' cells' FG' F' N' Y' B' X' T' l1; (try k_lt l1); k_cells Y'; (try simp only [List.cons_append, List.nil_append] at N'); (try dsimp only); (try k_fold)))

def IfMark : Prop := True
local macro_rules | `(tactic| k_mem) => `(tactic| ((with_reducible show @List.Mem (Addr × Obj) _ (_ ++ _)); with_reducible assumption))
local macro_rules | `(tactic| walk_at "CompSrc") => `(tactic| (refine held ?_))
local macro_rules | `(tactic| walk_at "exec If") => `(tactic| ((with_reducible show wpAny _ _ (exec (Stmt.If (Expr.Compare _ [CmpOp.Is] _ _) _ _ _) _) _ _ _); (fail_if_success (rename IfMark => mk9)); refine held ?_))
local macro_rules | `(tactic| walk_at "exec While Constant cons nil") => `(tactic| (refine held ?_))
local macro_rules | `(tactic| walk_at "exec While BoolOp cons nil") => `(tactic| (refine held ?_))
local macro_rules | `(tactic| walk_at "call ref") => `(tactic| ((with_reducible show wpAny _ _ (call (Value.ref 89) _) _ _ _); refine held ?_))
local macro_rules | `(tactic| walk_at "exec For Name Name cons nil") => `(tactic| (refine held ?_))
local macro_rules | `(tactic| walk_at "exec For Name Subscript cons nil") => `(tactic| (refine held ?_))
local macro_rules | `(tactic| walk_at "pyIter ref") => `(tactic| (refine held ?_))
local macro_rules | `(tactic| walk_at "call builtin:list.append") => `(tactic| (refine held ?_))
local macro_rules | `(tactic| walk_at "call builtin:list.pop") => `(tactic| (refine held ?_))
local macro_rules | `(tactic| walk_at "eval Name") => `(tactic| (k_here; k_dflt (refine' nameX_L ?F ?v ?_ ?a ?b; (case F => k_asm); (case a => rfl); (case b => rfl); (case v => assumption); k_whole)))
local macro_rules | `(tactic| walk_at "loadName") => `(tactic| (k_here; k_dflt (refine' ldn ?k1 ?k2 ?_; (case k1 => k_asm); (case k2 => first | exact rfl | assumption); k_whole)))
local macro_rules | `(tactic| walk_at "call builtin:len") => `(tactic| (k_here; (with_reducible show wpAny _ _ (call (Value.builtin "len") [Value.ref _]) _ _ _); k_dflt (refine' len_n ?k1 ?k2 ?k3 ?k4 ?_; (case k1 => k_asm); (case k2 => k_mem); (case k3 => first | exact rowsV_length _ | exact rowsV_snoc _ _ | exact rfl); (case k4 => omega); k_whole); intro _ _))
local macro_rules | `(tactic| walk_at "binaryOp Add ref ref") => `(tactic| (k_here; k_dflt (refine' cat_any ?k1 ?k2 ?k3 ?k4 ?k5 ?_; (case k1 => k_asm); (case k2 => k_asm); (case k3 => k_mem); (case k4 => k_mem); (case k5 => omega); k_whole); intro D' h' F' N' l1; (try k_lt l1)))
local macro_rules | `(tactic| walk_at "subscriptTail") => `(tactic| (k_here; (with_reducible show wpAny _ _ (subscriptTail _ _ (Value.ref _) (Value.int _ _)) _ _ _); k_dflt (refine' idx_vals ?k1 ?k2 ?k4 ?k5 ?k6 ?_ ?k7; (case k1 => k_asm); (case k2 => k_mem); (case k4 => decide); (case k5 => decide); (case k6 => exact rfl); (case k7 => with_unfolding_all rfl); k_whole)))
local macro_rules | `(tactic| walk_at "subscriptTail Name Constant ref int") => `(tactic| (k_here; (with_reducible show wpAny _ _ (subscriptTail _ _ (Value.ref _) (Value.int _ _)) _ _ _); k_dflt (refine' idx_vals ?k1 ?k2 ?k4 ?k5 ?k6 ?_ ?k7; (case k1 => k_asm); (case k2 => k_mem); (case k4 => decide); (case k5 => decide); (case k6 => exact rfl); (case k7 => with_unfolding_all rfl); k_whole)))
local macro_rules | `(tactic| walk_at "subscriptTail") => `(tactic| (k_here; (with_reducible show wpAny _ _ (subscriptTail _ _ (Value.ref _) (Value.int (-1) _)) _ _ _); k_dflt (refine' idx_last ?k1 ?k2 ?_ ?k7; (case k1 => k_asm); (case k2 => k_mem); (case k7 => with_unfolding_all rfl); k_whole)))
local macro_rules | `(tactic| walk_at "subscriptTail Name UnaryOp ref int") => `(tactic| (k_here; (with_reducible show wpAny _ _ (subscriptTail _ _ (Value.ref _) (Value.int (-1) _)) _ _ _); k_dflt (refine' idx_last ?k1 ?k2 ?_ ?k7; (case k1 => k_asm); (case k2 => k_mem); (case k7 => with_unfolding_all rfl); k_whole)))
local macro_rules | `(tactic| walk_at "subscriptTail Name Constant ref int") => `(tactic| (k_here; (with_reducible show wpAny _ _ (subscriptTail _ _ (Value.ref _) (Value.int _ _)) _ _ _); k_dflt (refine' idx_tup ?k1 ?k2 ?k4 ?k5 ?k6 ?k8 ?_ ?k7; (case k1 => k_asm); (case k2 => k_mem); (case k4 => decide); (case k5 => decide); (case k6 => exact rfl); (case k8 => exact rfl); (case k7 => with_unfolding_all rfl); k_whole)))

def BSt (ks : List Int) (k0 k : Int) (s : Shared) (g' : Heap) (L' R : Addr) (cell : Addr × Obj) (news : List (Addr × Obj)) (s' : Shared) : Prop :=
  ∃ (mm : Str → Option Value) (kN : Int) (r : Rw) (rs : List Rw) (nR : Nat) (tl : List (Addr × Obj)) (h' : Heap) (tk : Nat), s' = { s with heap := h', toks := tk } ∧ WalkJ ks g' L' R cell news mm kN (r :: rs) nR tl h' ∧ itemP ks k0 = stB ks kN r.fm (rs.map Rw.fm) ∧ k < kN
theorem if_split {M : Model} {A : Around} {c : Sem Flow} {E : Value → Shared → Prop} {Q : Flow → Shared → Prop} {s : Shared} (B : Shared → Prop) (h1 : wpAny M A c (fun f s' => match f with | .next => B s' | f => Q f s') E s) (h2 : ∀ s', B s' → Q .next s') : wpAny M A c Q E s :=
  wpAny_mono h1 (fun f s' h => by cases f with | next => exact h2 s' h | _ => exact h) fun _ _ z => z
theorem allLt_sub {D : Addr} {l l' : List (Addr × Obj)} (h : AllLt D l) (hs : ∀ p ∈ l', p ∈ l) : AllLt D l' := allLt_of fun p hp => ktn_ltOf h p (hs p hp)
theorem take_len {α : Type} {f : α → List Int} {t : α} : ∀ {l : List α} {i : Nat}, l[i]? = some t → (((l.take i).map f).flatten).length + (f t).length ≤ ((l.map f).flatten).length
  | [], i, h => by simp at h
  | x :: l, 0, h => by
    simp at h
    subst h
    simp
  | x :: l, i + 1, h => by
    have q := take_len (f := f) (l := l) (i := i) (by simpa using h)
    simp only [List.take_succ_cons, List.map_cons, List.flatten_cons, List.length_append]
    omega
set_option maxHeartbeats 8000000 in
theorem lwalk_does (w : World) (b : Array UInt8) (bt : Tok) (ks : List Int) (hbk : KBw.bInts b = ks) (hb : ks.length ≤ 200) (hin : ∀ x ∈ ks, 0 ≤ x ∧ x < 256) (k0 : Int) (kt : Tok) (hk0 : 0 ≤ k0) (news : List (Addr × Obj)) (a0 : Addr) (hhd : HeadTup news a0 (headP ks k0)) :
   Does w 94 [.bytes b bt, .int k0 kt, .ref a0] 20 200 news (WalkRet ks k0 news) b (fun _ => False) := by
  unfold Does
  w_top off
  k_fill
  intro mean mg mb dp un gd cn cs a ccd cl outer A₀ base h₀ L m s Q E B F X N T hk hd hu hret hexc
  refine wpAny_call ?_
  k_dflt (walk_at "my enterC")
  k_steps
  refine unheld ?_
  (with_reducible rename Fr _ _ _ _ => F1)
  (with_reducible rename News _ _ _ _ => N1)
  rename_i g' L' h1 tk' FG' B' X' T' lN o' hcell R h2 lR h3
  refine whl_inv (fun n s' => ∃ (mm : Str → Option Value) (k : Int) (st : List Rw) (nR : Nat) (tl : List (Addr × Obj)) (h' : Heap) (tk : Nat) (ah : Addr), s' = { s with heap := h', toks := tk } ∧ WalkJ ks g' L' R (L' + 1, o') news mm k st nR tl h' ∧ mm "head" = some (.ref ah) ∧ HeadTup (tl ++ (L' + 1, o') :: news) ah (headP ks k) ∧ itemP ks k0 = stA ks k (st.map Rw.fm) ∧ n = ((ks.length : Int) - k).toNat) _ ?_ ?_ ⟨_, k0, [], 0, [], _, _, a0, rfl, ⟨F1, ?_, ?_, ?_, ?_, rfl, ⟨_, rfl⟩, (fun _ z => nomatch z), hk0, ?_, ?_⟩, rfl, ?_, ?_, rfl⟩
  · passes_own
  · clear F1 N1
    intro n s' hJ
    obtain ⟨mm, k, st, nR, tl, h', tk, ah, rfl, J, e3, ht, heq, rfl⟩ := hJ
    obtain ⟨F1, N1, dis, far, ord, m1, ⟨t2, m2⟩, ok, kp, b1, b2⟩ := id J
    have hsl := totI_le st
    cases hh : headP ks k with
    | error x =>
      rw [hh] at ht
      have hW : WalkRet ks k0 news ((L' + 1, o') :: tl) (.ref ah) := ⟨ah, rfl, .inl ⟨x, heq.trans (stA_err hh), ht.mono fun p hp => by simp only [List.mem_append, List.mem_cons] at hp ⊢; grind⟩⟩
      have hlt : ∀ q ∈ news, ∀ p ∈ (L' + 1, o') :: tl, q.1 < p.1 := fun q hq p hp => by
        rcases List.mem_cons.mp hp with rfl | hp
        · exact Nat.lt_succ_of_lt (lN q hq)
        · exact (ord q (.tail _ hq)).2 p hp
      cases x with
      | index =>
        obtain ⟨t5, ht⟩ := ht
        k_steps
        all_goals (try (unfold LoopPost; dsimp only; k_steps))
        (with_reducible rename Fr _ _ _ _ => FQ)
        (with_reducible rename News _ _ _ _ => NQ)
        exact ret_sub hret ((L' + 1, o') :: tl) FQ NQ (fun p hp => by simp only [List.mem_append, List.mem_cons] at hp ⊢; grind) hlt hW
      | fault msg =>
        obtain ⟨t5, t6, ht⟩ := ht
        k_steps
        all_goals (try (unfold LoopPost; dsimp only; k_steps))
        (with_reducible rename Fr _ _ _ _ => FQ)
        (with_reducible rename News _ _ _ _ => NQ)
        exact ret_sub hret ((L' + 1, o') :: tl) FQ NQ (fun p hp => by simp only [List.mem_append, List.mem_cons] at hp ⊢; grind) hlt hW
    | ok h =>
      rw [hh] at ht
      have ho := headP_ok kp hin hh
      obtain ⟨pre, lst, size, pos⟩ := h
      obtain ⟨t5, pb, pt, st5, ot5, ht, hpb⟩ := ht
      have q1 := ho.k0
      have q2 := ho.kn
      have q3 := ho.kp
      have q4 := ho.sz
      have q5 := ho.pl
      have q6 := ho.kl
      have q7 := ho.lp
      have q8 := ho.p9
      dsimp only at q1 q2 q3 q4 q5 q6 q7 q8 hpb
      k_steps
      refine unheld ?_
      (with_reducible rename Fr _ _ _ _ => F1)
      (with_reducible rename News _ _ _ _ => N1)
      refine if_split (BSt ks k0 k s g' L' R (L' + 1, o') news) ?_ ?_
      rotate_left
      · clear heq dis far ord ok b1 b2 ht hh ho J F1 N1
        intro s' hB
        obtain ⟨mm, kN, r, rs, nR, tl, h', tk, rfl, JB, hB, hgt⟩ := hB
        have F1 := JB.F
        have N1 := JB.N
        (try dsimp only)
        k_steps
        refine unheld ?_
        refine whl_inv (fun n s' => ∃ (mm : Str → Option Value) (r : Rw) (rs : List Rw) (nR : Nat) (tl : List (Addr × Obj)) (h' : Heap) (tk : Nat), s' = { s with heap := h', toks := tk } ∧ WalkJ ks g' L' R (L' + 1, o') news mm (kN) (r :: rs) nR tl h' ∧ itemP ks k0 = stB ks (kN) r.fm (rs.map Rw.fm) ∧ n = rs.length) _ ?_ ?_ ⟨_, _, _, _, _, _, _, rfl, JB, hB, rfl⟩
        · passes_own
        · have hk9 : (k : Int) < kN := hgt
          have hk8 : k < ks.length := q6
          clear JB hB F1 N1
          intro n s' hJ
          obtain ⟨mm, r, rs, nR, tl, h', tk, rfl, J, heq, rfl⟩ := hJ
          obtain ⟨F1, N1, dis, far, ord, m1, ⟨t2, m2⟩, ok, kp, b1, b2⟩ := id J
          have hsl := totI_le rs
          obtain ⟨⟨d1, d2, d3, d4, d5, d6⟩, wR, wI, wP, wA⟩ := J.split
          have okr := ok r (.head _)
          have lnr := okr.ln
          have lvi := TrsIn.length okr.t2
          have lvp := TrsIn.length okr.t3
          simp only [totI, totB, List.length_cons] at b1 b2 hsl
          simp only [rowsV, stObjs, List.cons_append] at N1
          k_steps
          · refine unheld ?_
            (with_reducible rename Fr _ _ _ _ => F2)
            (with_reducible rename News _ _ _ _ => N2)
            k_here
            k_dflt (refine pop_any F2 N2 (I := R) (vi := rowsV rs) (y := .ref r.A) (n := nR) (.head _) ((r.I, W.listOf r.vi.toArray r.ni) :: (r.P, W.listOf r.vp.toArray r.np) :: (r.A, W.listOf [Value.int r.e r.et, .bytes r.pb r.pt, .ref r.I, .ref r.P].toArray r.nA) :: (stObjs rs ++ (tl ++ (L' + 1, o') :: news))) ?_ ?_ ?_)
            · intro p hp
              simp only [List.mem_cons] at hp
              rcases hp with rfl | rfl | rfl | hp
              · exact ⟨.tail _ (.head _), d1.symm⟩
              · exact ⟨.tail _ (.tail _ (.head _)), d2.symm⟩
              · exact ⟨.tail _ (.tail _ (.tail _ (.head _))), d3.symm⟩
              · exact ⟨.tail _ (.tail _ (.tail _ (.tail _ hp))), wR p hp⟩
            · rw [rowsV_length]; omega
            intro h3 F3 N3
            (try dsimp only)
            (try k_fold)
            k_steps
            · (repeat (first | unfold LoopPost | dsimp only))
              k_steps
              (with_reducible rename Fr _ _ _ _ => FQ)
              (with_reducible rename News _ _ _ _ => NQ)
              (rename (_ < _ ∧ _ < _ ∧ _ < _ ∧ _ < _ ∧ AllLt _ _) => lx)
              refine ret_one hret FQ NQ (.head _) (fun p hp => ?_) (allLt_sub lx.2.2.2.2 fun p hp => List.mem_append.mpr (.inr (List.mem_append.mpr (.inr (.tail _ hp))))) ?_
              · simp only [List.mem_append, List.mem_cons] at hp ⊢; grind
              · exact ⟨_, rfl, .inl ⟨_, heq.trans (stB_over (by show r.e < _; omega)), ⟨_, _, List.mem_append.mpr (.inr (.head _))⟩⟩⟩
            · refine unheld ?_
              (with_reducible rename Fr _ _ _ _ => F4)
              (with_reducible rename News _ _ _ _ => N4)
              obtain ⟨m₀, hm₀, F4⟩ : ∃ m₀, m₀ = _ ∧ Fr _ _ _ m₀ := ⟨_, rfl, F4⟩
              have g1 : m₀ "top" = some (.ref r.A) := by rw [hm₀]; rfl
              have g2 : m₀ "body" = some (.bytes r.pb r.pt) := by rw [hm₀]; rfl
              have g3 : m₀ "rows" = some (.ref R) := by rw [hm₀]; exact m1
              have g4 : m₀ "k" = some (.int (kN) t2) := by rw [hm₀]; exact m2
              clear hm₀
              have hbl : r.body.length ≤ 200 := by omega
              refine For_invVF F4 rfl rfl ?_
              k_steps
              refine unheld ?_
              (with_reducible rename Fr _ _ _ _ => F5)
              (with_reducible rename News _ _ _ _ => N5)
              refine iter_vals (vs := r.vp) (nn := r.np) (fun i m => (∃ bb tt, m "body" = some (.bytes bb tt) ∧ KBw.bInts bb = KBw.bInts r.pb ++ ((r.rls.take i).map firstOf).flatten) ∧ ∀ y : Str, y ≠ "body" → y ≠ "part" → m y = m₀ y) rfl (.tail _ (.tail _ (.head _))) F5 N5 ⟨⟨_, _, g2, by simp⟩, fun _ _ _ => rfl⟩ ?_ ?_
              · intro i v m₁ h tk lg' hv hsub hJ F6 N6
                obtain ⟨⟨bb, tt, e1, eb⟩, hm⟩ := hJ
                obtain ⟨t, ht, hT⟩ := okr.t3.get hv
                obtain ⟨bd, ts, rfl⟩ := okr.nd _ (List.mem_of_getElem? ht)
                cases hT with
                | node hmv hTs =>
                cases hTs with
                | cons hb0 hTs =>
                cases hb0 with
                | leaf hbd =>
                have hmv' := hsub _ (.tail _ (.tail _ (.tail _ (.tail _ (List.mem_append.mpr (.inr (List.mem_append.mpr (.inl hmv))))))))
                have hlen := take_len (f := firstOf) ht
                obtain ⟨xs, hxs⟩ : ∃ xs, xs = KBw.bInts r.pb ++ ((r.rls.take i).map firstOf).flatten := ⟨_, rfl⟩
                have hxl : xs.length + bd.length ≤ 200 := by
                  have : r.body.length = (KBw.bInts r.pb).length + ((r.rls.map firstOf).flatten).length := by unfold Rw.body; rw [List.length_append]
                  rw [hxs, List.length_append]
                  have hfo : (firstOf (.node (.leaf bd :: ts))).length = bd.length := rfl
                  omega
                rw [← hxs] at eb
                k_steps
                (rename KBw.bInts (bb ++ _) = _ => app7)
                refine turn_next ⟨_, _, _, rfl, by assumption, by assumption, ⟨_, _, rfl, ?_⟩, ?_⟩
                · rw [app7, hxs, List.take_add_one, ht]; simp [firstOf]
                · intro y h1 h2
                  show (if y = "body" then _ else if y = "part" then _ else m₁ y) = _
                  rw [if_neg h1, if_neg h2]; exact hm y h1 h2
              · intro m₁ h tk hJ F6 N6
                obtain ⟨⟨bb, tt, e1, eb⟩, hm⟩ := hJ
                rw [lvp, List.take_length] at eb
                replace eb : KBw.bInts bb = r.body := eb
                replace g1 := (hm _ (by decide) (by decide)).trans g1
                replace g3 := (hm _ (by decide) (by decide)).trans g3
                replace g4 := (hm _ (by decide) (by decide)).trans g4
                (try dsimp only)
                (try k_fold)
                cases rs with
                | nil =>
                  simp only [rowsV, stObjs, List.nil_append] at N6
                  k_steps
                  (repeat (first | unfold LoopPost | dsimp only))
                  k_steps
                  (with_reducible rename Fr _ _ _ _ => FQ)
                  (with_reducible rename News _ _ _ _ => NQ)
                  (rename (_ < _ ∧ _ < _ ∧ _ < _ ∧ _ < _ ∧ _ < _ ∧ _ < _ ∧ AllLt _ _) => lT)
                  (rename (_ < _ ∧ _ < _ ∧ _ < _ ∧ _ < _ ∧ _ < _ ∧ AllLt _ _) => lx)
                  have hsub : ∀ p ∈ news, p ∈ tl ++ (L' + 1, o') :: news := fun p hp => List.mem_append.mpr (.inr (.tail _ hp))
                  refine ret_two hret ((r.I, W.listOf r.vi.toArray r.ni) :: tl) FQ NQ (fun p hp => ?_) (allLt_sub lT.2.2.2.2.2.2 hsub) (allLt_sub lx.2.2.2.2.2 hsub) (fun q hq p hp => ?_) ?_
                  · simp only [List.mem_append, List.mem_cons] at hp ⊢; grind
                  · rcases List.mem_cons.mp hp with rfl | hp
                    · exact (ord q (.tail _ hq)).1 _ (.tail _ (.head _))
                    · exact (ord q (.tail _ hq)).2 p hp
                  · exact ⟨_, rfl, .inr ⟨_, _, _, _, _, _, _, heq.trans (stB_done (f := r.fm) (by show _ = r.e; omega)), .head _, .node (.tail _ (.tail _ (.head _))) okr.up3.t2, .node (.tail _ (.head _)) (.cons (.leaf eb) okr.up3.t3)⟩⟩
                | cons g gs =>
                  simp only [rowsV, stObjs, List.cons_append] at N6
                  simp only [totI, totB, List.length_cons] at b1 b2 hsl
                  have lgi := TrsIn.length (ok g (.tail _ (.head _))).t2
                  have lgp := TrsIn.length (ok g (.tail _ (.head _))).t3
                  have lgn := (ok g (.tail _ (.head _))).ln
                  obtain ⟨⟨c1, c2, c3, c4, c5, c6⟩, ⟨c7, c8, c9, c10, c11⟩, wgI, wgP⟩ := J.split2
                  k_steps
                  · exfalso; omega
                  refine unheld ?_
                  (with_reducible rename Fr _ _ _ _ => F7)
                  (with_reducible rename News _ _ _ _ => N7)
                  k_here
                  k_dflt (refine app_any F7 N7 (I := g.I) (vi := g.vi) (n := g.ni) (.tail _ (.tail _ (.tail _ (.tail _ (.head _))))) ((R, W.listOf (rowsV (g :: gs)).toArray (nR + 1)) :: (r.I, W.listOf r.vi.toArray r.ni) :: (r.P, W.listOf r.vp.toArray r.np) :: (r.A, W.listOf [Value.int r.e r.et, .bytes r.pb r.pt, .ref r.I, .ref r.P].toArray r.nA) :: (g.P, W.listOf g.vp.toArray g.np) :: (g.A, W.listOf [Value.int g.e g.et, .bytes g.pb g.pt, .ref g.I, .ref g.P].toArray g.nA) :: (stObjs gs ++ (tl ++ (L' + 1, o') :: news))) ?_ ?_ ?_)
                  · intro p hp
                    simp only [List.mem_cons] at hp
                    rcases hp with rfl | rfl | rfl | rfl | rfl | rfl | hp
                    · exact ⟨.head _, c1⟩
                    · exact ⟨.tail _ (.head _), c2⟩
                    · exact ⟨.tail _ (.tail _ (.head _)), c3⟩
                    · exact ⟨.tail _ (.tail _ (.tail _ (.head _))), c4⟩
                    · exact ⟨.tail _ (.tail _ (.tail _ (.tail _ (.tail _ (.head _))))), c5⟩
                    · exact ⟨.tail _ (.tail _ (.tail _ (.tail _ (.tail _ (.tail _ (.head _)))))), c6⟩
                    · exact ⟨.tail _ (.tail _ (.tail _ (.tail _ (.tail _ (.tail _ (.tail _ hp)))))), wgI p hp⟩
                  · omega
                  intro h8 F8 N8
                  simp only [rowsV] at N8
                  (try dsimp only)
                  (try k_fold)
                  k_steps
                  refine unheld ?_
                  (with_reducible rename Fr _ _ _ _ => F9)
                  (with_reducible rename News _ _ _ _ => N9)
                  rename_i z hz1 Fz Nz lz ax hx lx
                  k_here
                  k_dflt (refine app_any F9 N9 (I := g.P) (vi := g.vp) (n := g.np) (.tail _ (.tail _ (.tail _ (.tail _ (.tail _ (.tail _ (.tail _ (.head _)))))))) ((ax, W.listOf (Value.bytes bb tt :: r.vp).toArray 0) :: (R, W.listOf (rowsV (g :: gs)).toArray (nR + 1)) :: (r.I, W.listOf r.vi.toArray r.ni) :: (g.I, W.listOf (g.vi ++ [Value.ref r.I]).toArray (g.ni + 1)) :: (g.A, W.listOf [Value.int g.e g.et, .bytes g.pb g.pt, .ref g.I, .ref g.P].toArray g.nA) :: (stObjs gs ++ (tl ++ (L' + 1, o') :: news))) ?_ ?_ ?_)
                  · intro p hp
                    simp only [List.mem_cons] at hp
                    rcases hp with rfl | rfl | rfl | rfl | rfl | hp
                    · exact ⟨.head _, Nat.ne_of_gt lx.2.2.2.2.2.2.1⟩
                    · exact ⟨.tail _ (.tail _ (.tail _ (.head _))), c7⟩
                    · exact ⟨.tail _ (.tail _ (.tail _ (.tail _ (.head _)))), c8⟩
                    · exact ⟨.tail _ (.tail _ (.head _)), c5.symm⟩
                    · exact ⟨.tail _ (.tail _ (.tail _ (.tail _ (.tail _ (.tail _ (.tail _ (.tail _ (.head _)))))))), c11⟩
                    · exact ⟨.tail _ (.tail _ (.tail _ (.tail _ (.tail _ (.tail _ (.tail _ (.tail _ (.tail _ hp)))))))), wgP p hp⟩
                  · omega
                  intro h10 F10 N10
                  simp only [rowsV] at N10
                  (try dsimp only)
                  (try k_fold)
                  k_steps
                  (with_reducible rename Fr _ _ _ _ => F11)
                  (with_reducible rename News _ _ _ _ => N11)
                  have JP := J_pop (x := (ax, W.listOf (Value.bytes bb tt :: r.vp).toArray 0)) J (fun a ha => by
                      simp only [stAddrs, List.mem_cons] at ha
                      rcases ha with rfl | rfl | rfl | rfl | rfl | rfl | rfl | ha
                      · exact lx.2.2.1
                      · exact lx.2.2.2.1
                      · exact lx.2.2.2.2.1
                      · exact lx.2.2.2.2.2.1
                      · exact lx.2.1
                      · exact lx.2.2.2.2.2.2.1
                      · exact lx.2.2.2.2.2.2.2.1
                      · obtain ⟨o, y⟩ := stAddr_obj ha
                        exact ktn_ltOf lx.2.2.2.2.2.2.2.2 _ (List.mem_append.mpr (.inl y)))
                    (fun q hq => ktn_ltOf lx.2.2.2.2.2.2.2.2 q (List.mem_append.mpr (.inr (List.mem_append.mpr (.inr hq))))) eb rfl F11
                    (fun p hp => N11 p (by simp only [rowsV, stObjs, Rw.add, List.cons_append, List.mem_cons, List.mem_append] at hp ⊢; grind)) g3 ⟨_, g4⟩
                  refine loop_next ⟨gs.length, Nat.lt_succ_self _, _, _, gs, nR + 1, _, _, _, rfl, JP, ?_, rfl⟩
                  rw [heq.trans (stB_done (f := r.fm) (by show _ = r.e; omega))]
                  simp only [List.map_cons, unw, stB, Rw.fm, Rw.add_body]
                  rfl
          · refine unheld ?_
            (with_reducible rename Fr _ _ _ _ => F2)
            (with_reducible rename News _ _ _ _ => N2)
            k_dflt (refine' use_does (lhead_does w b bt ks hbk hb hin (kN) t2 (by omega) _) B' ?k2 X' ?k4 T' ?kK ?kd ?ku ?kr ?kx)
            case k2 => exact F2
            case k4 => exact N2
            case kK => exact rfl
            case kd => ktr_room
            case ku => ktr_units
            case kx => exact fun _ _ _ _ z => z.elim
            case kr =>
              intro r9 tl9 h9 tk9 F9 N9 o9 ret9
              obtain ⟨ah9, rfl, ht9⟩ := ret9
              (try dsimp only)
              (try k_fold)
              k_steps
              (with_reducible rename Fr _ _ _ _ => F5)
              refine loop_next ⟨((ks.length : Int) - (kN)).toNat, by omega, _, kN, r :: rs, nR, tl9 ++ tl, _, _, ah9, rfl, J_head J o9 F5 (by assumption) m1 ⟨_, m2⟩, rfl, ht9.mono fun p hp => List.mem_append.mpr (.inl (List.mem_append.mpr (.inl hp))), heq.trans (stB_next (by show _ < r.e; omega)), rfl⟩
      have mk : IfMark := trivial
      cases lst with
      | true =>
        replace ht : (ah, ({ cls := .type "tuple", data := .seq #[.str "ok" t5, .bytes pb pt, .type "list", .int size st5, .int pos ot5] } : Obj)) ∈ tl ++ (L' + 1, o') :: news := ht
        have q9 := q7 rfl
        have hwR : ∀ p ∈ stObjs st ++ (tl ++ (L' + 1, o') :: news), p.1 ≠ R := by
          intro p hp
          rcases List.mem_append.mp hp with z | z
          · intro e; have y := stObjs_addr z; rw [e] at y; exact absurd y (List.nodup_cons.mp dis).1
          · exact far _ (.head _) p z
        k_steps
        (with_reducible rename Fr _ _ _ _ => F5)
        (with_reducible rename News _ _ _ _ => N5)
        rename_i tk5 aI h5 lI aP h6 lP aA h7 lA
        obtain ⟨tA, N5⟩ : ∃ t, News g' L' h7 ((aA, W.listOf [Value.int (pos + size) t, .bytes pb pt, .ref aI, .ref aP].toArray 0) :: (aP, W.listOf [].toArray 0) :: (aI, W.listOf [].toArray 0) :: (R, W.listOf (rowsV st).toArray nR) :: (stObjs st ++ (tl ++ (L' + 1, o') :: news))) := ⟨_, N5⟩
        refine unheld ?_
        k_here
        k_dflt (refine app_any F5 N5 (I := R) (vi := rowsV st) (n := nR) (.tail _ (.tail _ (.tail _ (.head _)))) ((aI, W.listOf [].toArray 0) :: (aP, W.listOf [].toArray 0) :: (aA, W.listOf [Value.int (pos + size) tA, .bytes pb pt, .ref aI, .ref aP].toArray 0) :: (stObjs st ++ (tl ++ (L' + 1, o') :: news))) ?_ ?_ ?_)
        · intro p hp
          simp only [List.mem_cons] at hp
          rcases hp with rfl | rfl | rfl | hp
          · exact ⟨by simp, Nat.ne_of_gt lI.1⟩
          · exact ⟨by simp, Nat.ne_of_gt lP.2.1⟩
          · exact ⟨.head _, Nat.ne_of_gt lA.2.2.1⟩
          · exact ⟨.tail _ (.tail _ (.tail _ (.tail _ hp))), hwR p hp⟩
        · rw [rowsV_length]; omega
        intro h8 F8 N8
        (try dsimp only)
        (try k_fold)
        k_steps
        (with_reducible rename Fr _ _ _ _ => F9)
        (with_reducible rename News _ _ _ _ => N9)
        have JB := J_push (r := ⟨pos + size, tA, pb, pt, aI, aP, aA, [], [], 0, 0, 0, [], []⟩) J ⟨rfl, rfl, rfl, rfl⟩ (fun a ha => by
            rcases List.mem_cons.mp ha with rfl | ha
            · exact lI.1
            · obtain ⟨o, y⟩ := stAddr_obj ha
              exact ktn_ltOf lI.2 _ (List.mem_append.mpr (.inl y))) lP.1 lA.1 (fun q hq => ktn_ltOf lI.2 q (List.mem_append.mpr (.inr hq))) F9 (k' := pos)
          (fun p hp => N9 p (by simp only [rowsV, stObjs, List.cons_append, List.mem_cons] at hp ⊢; grind)) m1 ⟨_, rfl⟩ (by omega) (by rw [hpb]; omega) (by omega)
        have hB : itemP ks k0 = _ := heq.trans (stA_list (st := st.map Rw.fm) hh rfl)
        replace hB : itemP ks k0 = stB ks pos (Rw.fm ⟨pos + size, tA, pb, pt, aI, aP, aA, [], [], 0, 0, 0, [], []⟩) (st.map Rw.fm) := by
          rw [hB]
          show stB ks pos _ _ = stB ks pos (Rw.fm ⟨pos + size, tA, pb, pt, aI, aP, aA, [], [], 0, 0, 0, [], []⟩) _
          simp only [Rw.fm, Rw.body, List.map_nil, List.flatten_nil, List.append_nil, hpb]
        (try dsimp only)
        exact ⟨_, pos, _, st, _, _, _, _, rfl, JB, hB, q9⟩
      | false =>
        replace ht : (ah, ({ cls := .type "tuple", data := .seq #[.str "ok" t5, .bytes pb pt, .type "bytes", .int size st5, .int pos ot5] } : Obj)) ∈ tl ++ (L' + 1, o') :: news := ht
        cases st with
        | nil =>
          k_steps
          refine unheld ?_
          (with_reducible rename Fr _ _ _ _ => F2)
          (with_reducible rename News _ _ _ _ => N2)
          (rename IsRange _ _ _ _ _ _ _ _ => R2)
          obtain ⟨lim, hlim⟩ : ∃ lim : Int, lim = if (ks.length : Int) < pos + size then (ks.length : Int) else pos + size := ⟨_, rfl⟩
          rw [← hlim] at R2
          have hl1 : 0 ≤ lim := by rw [hlim]; split <;> omega
          have hl2 : lim ≤ ks.length := by rw [hlim]; split <;> omega
          have hl3 : lim ≤ pos + size := by rw [hlim]; split <;> omega
          have hsm : Builtin.Range.small pos lim 1 = true := small_one (by omega) (by omega) (by omega) (by omega)
          have hrs : (lim - pos).toNat ≤ sizeLine := by rw [PySem.sizeLine_eq]; omega
          refine LCg.CompSrc.range (n := (lim - pos).toNat) ?_ F2 N2 R2 hsm (rangeSize_nat _ _) hrs ?_
          · rfl
          intro gg
          refine' kcf_range (fun p => ks.getD p.toNat 0) ?turn ?fin
          case turn =>
            intro k' t' I' oI' C' oC' D' m' ys' h' tk' E' hlo' hhi' hC' hx' F' N' off' ne' _
            have off9 := off'
            simp only [LCg.Off3, and_true] at off'
            k_steps
          case fin =>
            intro ys hys D h9 tk9 F9 N9 off9
            clear off9
            rw [map_lim (by omega) (by omega) hlim] at hys
            have hcin := @cut_in ks pos (pos + size) hin
            have hcl := @cut_len_le ks pos (pos + size) (by omega) (by omega)
            have hcl2 := @cut_len ks pos (pos + size) (by omega) (by omega)
            (try dsimp only)
            (try k_fold)
            k_steps
            (repeat (first | unfold LoopPost | dsimp only))
            k_steps
            (with_reducible rename Fr _ _ _ _ => FQ)
            (with_reducible rename News _ _ _ _ => NQ)
            (rename KBa.In _ => kIn)
            (rename KBw.bInts (pb ++ _) = _ => kApp)
            rename_i lW h1' lx h2' tkA h3' tT x9 aT h4' FT NT lT TcT XT
            have hsub : ∀ p ∈ news, p ∈ stObjs [] ++ (tl ++ (L' + 1, o') :: news) := fun p hp => List.mem_append.mpr (.inr (List.mem_append.mpr (.inr (.tail _ hp))))
            refine ret_two hret [] FQ NQ (fun p hp => ?_) (allLt_sub lT.2.2.2 hsub) (allLt_sub lx.2.2 hsub) (fun _ _ _ z => nomatch z) ?_
            · rw [List.append_nil] at hp
              exact .tail _ (.tail _ (hsub p hp))
            · exact ⟨_, rfl, .inr ⟨_, _, _, _, _, _, _, heq.trans (stA_leaf hh rfl), .head _, .leaf (KBa.ints_make kIn), .node (.tail _ (.head _)) (.cons (.leaf kApp) .nil)⟩⟩

        | cons r rs =>
          obtain ⟨⟨d1, d2, d3, d4, d5, d6⟩, wR, wI, wP, wA⟩ := J.split
          have okr := ok r (.head _)
          have lnr := okr.ln
          have lvi := TrsIn.length okr.t2
          have lvp := TrsIn.length okr.t3
          simp only [totI, totB, List.length_cons] at b1 b2 hsl
          simp only [rowsV, stObjs, List.cons_append] at N1
          k_steps
          refine unheld ?_
          (with_reducible rename Fr _ _ _ _ => F2)
          (with_reducible rename News _ _ _ _ => N2)
          (rename IsRange _ _ _ _ _ _ _ _ => R2)
          obtain ⟨lim, hlim⟩ : ∃ lim : Int, lim = if (ks.length : Int) < pos + size then (ks.length : Int) else pos + size := ⟨_, rfl⟩
          rw [← hlim] at R2
          have hl1 : 0 ≤ lim := by rw [hlim]; split <;> omega
          have hl2 : lim ≤ ks.length := by rw [hlim]; split <;> omega
          have hl3 : lim ≤ pos + size := by rw [hlim]; split <;> omega
          have hsm : Builtin.Range.small pos lim 1 = true := small_one (by omega) (by omega) (by omega) (by omega)
          have hrs : (lim - pos).toNat ≤ sizeLine := by rw [PySem.sizeLine_eq]; omega
          refine LCg.CompSrc.range (n := (lim - pos).toNat) ?_ F2 N2 R2 hsm (rangeSize_nat _ _) hrs ?_
          · rfl
          intro gg
          refine' kcf_range (fun p => ks.getD p.toNat 0) ?turn ?fin
          case turn =>
            intro k' t' I' oI' C' oC' D' m' ys' h' tk' E' hlo' hhi' hC' hx' F' N' off' ne' _
            have off9 := off'
            simp only [LCg.Off3, and_true] at off'
            k_steps
          case fin =>
            intro ys hys D h9 tk9 F9 N9 off9
            clear off9
            rw [map_lim (by omega) (by omega) hlim] at hys
            have hcin := @cut_in ks pos (pos + size) hin
            have hcl := @cut_len_le ks pos (pos + size) (by omega) (by omega)
            have hcl2 := @cut_len ks pos (pos + size) (by omega) (by omega)
            (try dsimp only)
            (try k_fold)
            k_steps
            · exfalso; omega
            (with_reducible rename Fr _ _ _ _ => F5)
            (with_reducible rename News _ _ _ _ => N5)
            (rename KBa.In _ => kIn)
            (rename KBw.bInts (pb ++ _) = _ => kApp)
            rename_i h4 ti k1 kS h3' tk2 tb k9 lW h2' lx h1' tk1' h0' t0 tk0 a0'
            refine unheld ?_
            k_here
            k_dflt (refine app_any F5 N5 (I := r.I) (vi := r.vi) (n := r.ni) (.tail _ (.tail _ (.tail _ (.head _)))) ((R, W.listOf (rowsV (r :: rs)).toArray nR) :: (r.P, W.listOf r.vp.toArray r.np) :: (r.A, W.listOf [Value.int r.e r.et, .bytes r.pb r.pt, .ref r.I, .ref r.P].toArray r.nA) :: (lW, W.listOf [Value.bytes (pb ++ byteArr (cut ks pos (pos + size))) tb].toArray 0) :: (stObjs rs ++ (tl ++ (L' + 1, o') :: news))) ?_ ?_ ?_)
            · intro p hp
              simp only [List.mem_cons] at hp
              rcases hp with rfl | rfl | rfl | rfl | hp
              · exact ⟨by simp [rowsV], d1⟩
              · exact ⟨by simp, d4.symm⟩
              · exact ⟨by simp, d5.symm⟩
              · exact ⟨by simp, Nat.ne_of_gt lx.2.2.1⟩
              · exact ⟨.tail _ (.tail _ (.tail _ (.tail _ (.tail _ (.tail _ hp))))), wI p hp⟩
            · omega
            intro h6 F6 N6
            simp only [rowsV] at N6
            (try dsimp only)
            (try k_fold)
            k_steps
            refine unheld ?_
            (with_reducible rename Fr _ _ _ _ => F7)
            (with_reducible rename News _ _ _ _ => N7)
            k_here
            k_dflt (refine app_any F7 N7 (I := r.P) (vi := r.vp) (n := r.np) (.tail _ (.tail _ (.head _))) ((R, W.listOf (rowsV (r :: rs)).toArray nR) :: (r.I, W.listOf (r.vi ++ [Value.bytes (byteArr (cut ks pos (pos + size))) ti]).toArray (r.ni + 1)) :: (r.A, W.listOf [Value.int r.e r.et, .bytes r.pb r.pt, .ref r.I, .ref r.P].toArray r.nA) :: (lW, W.listOf [Value.bytes (pb ++ byteArr (cut ks pos (pos + size))) tb].toArray 0) :: (stObjs rs ++ (tl ++ (L' + 1, o') :: news))) ?_ ?_ ?_)
            · intro p hp
              simp only [List.mem_cons] at hp
              rcases hp with rfl | rfl | rfl | rfl | hp
              · exact ⟨by simp [rowsV], d2⟩
              · exact ⟨.head _, d4⟩
              · exact ⟨by simp, d6.symm⟩
              · exact ⟨by simp, Nat.ne_of_gt lx.2.2.2.1⟩
              · exact ⟨.tail _ (.tail _ (.tail _ (.tail _ (.tail _ hp)))), wP p hp⟩
            · omega
            intro h8 F8 N8
            simp only [rowsV] at N8
            (try dsimp only)
            (try k_fold)
            k_steps
            (with_reducible rename Fr _ _ _ _ => F9)
            (with_reducible rename News _ _ _ _ => N9)
            have JB := J_leaf (x := (lW, W.listOf [Value.bytes (pb ++ byteArr (cut ks pos (pos + size))) tb].toArray 0)) (v1 := .bytes (byteArr (cut ks pos (pos + size))) ti) (v2 := .ref lW) (t1 := .leaf (cut ks pos (pos + size))) (t2 := .node [.leaf (pre ++ cut ks pos (pos + size))]) J (k' := pos + size) ?_ ?_ F9 ?_ m1 ⟨_, rfl⟩ (.leaf (KBa.ints_make kIn)) (.node (.head _) (.cons (.leaf kApp) .nil)) ⟨_, _, rfl⟩ (by omega) ?_ ?_
            rotate_left
            · intro a ha
              simp only [stAddrs, List.mem_cons] at ha
              rcases ha with rfl | rfl | rfl | rfl | ha
              · exact lx.2.1
              · exact lx.2.2.1
              · exact lx.2.2.2.1
              · exact lx.2.2.2.2.1
              · obtain ⟨o, y⟩ := stAddr_obj ha
                exact ktn_ltOf lx.2.2.2.2.2 _ (List.mem_append.mpr (.inl y))
            · intro q hq
              exact ktn_ltOf lx.2.2.2.2.2 _ (List.mem_append.mpr (.inr (List.mem_append.mpr (.inr hq))))
            · exact fun p hp => N9 p (by simp only [rowsV, stObjs, Rw.add, List.cons_append, List.mem_cons, List.mem_append] at hp ⊢; grind)
            · simp only [totB, firstOf, List.length_append]; omega
            · simp only [totI]; omega
            have hB : itemP ks k0 = _ := heq.trans (stA_leaf (st := (r :: rs).map Rw.fm) hh rfl)
            replace hB : itemP ks k0 = stB ks (pos + size) (Rw.fm (r.add (.bytes (byteArr (cut ks pos (pos + size))) ti) (.ref lW) (.leaf (cut ks pos (pos + size))) (.node [.leaf (pre ++ cut ks pos (pos + size))]))) (rs.map Rw.fm) := by
              rw [hB]
              simp only [List.map_cons, unw, stB, Rw.fm, Rw.add_body]
              rfl
            (try dsimp only)
            exact ⟨_, pos + size, _, rs, _, _, _, _, rfl, JB, hB, by omega⟩

  · show News g' L' h3 ((R, W.listOf (rowsV []).toArray 0) :: (L' + 1, o') :: news)
    exact N1
  · exact List.nodup_cons.mpr ⟨List.not_mem_nil, List.nodup_nil⟩
  · intro a ha q hq
    rw [List.mem_singleton.mp ha]
    rcases List.mem_cons.mp hq with rfl | hq
    · exact Nat.ne_of_lt lR.1
    · exact Nat.ne_of_lt (ktn_ltOf lR.2 q hq)
  · intro q hq
    refine ⟨fun a ha => ?_, fun _ z => nomatch z⟩
    rw [List.mem_singleton.mp ha]
    rcases List.mem_cons.mp hq with rfl | hq
    · exact lR.1
    · exact ktn_ltOf lR.2 q hq
  · simp only [totB]; omega
  · simp only [totI]; omega
  · exact hhd.mono fun p hp => .tail _ hp
  · exact stA_nil.symm
end Mine
end Walk
section Alike
set_option maxRecDepth 100000
namespace Mine
open PySem PySem.W PySem.Spec PySem.Calls PyProof.Rows
/-- a tree of at most n rows in one another, none of them wide -/
inductive TrOk : Nat → Tr → Prop where
  | leaf {n : Nat} {ks : List Int} : TrOk n (.leaf ks)
  | node {n : Nat} {ts : List Tr} : ts.length ≤ 1000 → (∀ t ∈ ts, TrOk n t) → TrOk (n + 1) (.node ts)
theorem TrOk.mono : ∀ {n n' : Nat} {t : Tr}, n ≤ n' → TrOk n t → TrOk n' t
  | _, _, _, _, .leaf => .leaf
  | n + 1, n' + 1, _, hn, .node h k => .node h fun t ht => (k t ht).mono (Nat.le_of_succ_le_succ hn)
theorem bytes_of_ints {b c : Array UInt8} (h : KBw.bInts b = KBw.bInts c) : b = c := by
  unfold KBw.bInts at h
  have e := List.map_inj_right (f := fun c : UInt8 => ((c.toNat : Nat) : Int)) (fun x y q => UInt8.toNat_inj.mp (Int.ofNat.inj q)) |>.mp h
  exact Array.toList_inj.mp e
end Mine
end Alike
section Rng
set_option maxRecDepth 100000
namespace Mine
open PySem PySem.W PySem.Spec PySem.Calls PyProof.Rows
section
variable {prog : Program} {w : World} {A : Around} {E : Value → Shared → Prop} {s : Shared} {env : Env} {h₀ : Heap} {x : Str} {body : List Stmt} {Q : Flow → Shared → Prop}
theorem iter_rangeJ {r : Addr} {a₀ b₀ : Int} {t₀ u₀ v₀ : Tok} {n : Nat} {m₀ : Str → Option Value} {lg : List (Addr × Obj)} (J : Nat → (Str → Option Value) → Prop)
    (hh : A.handled = none) (hr : IsRange s.heap r a₀ b₀ 1 t₀ u₀ v₀) (hsmall : Builtin.Range.small a₀ b₀ 1 = true) (hn : Builtin.Range.rangeSize a₀ b₀ 1 = (n : Int)) (F : Fr h₀ env.locals s.heap m₀) (N : News h₀ env.locals s.heap lg) (hj : J 0 m₀)
    (turn : ∀ (i : Nat) t m₁ h tk lg', i < n → (∀ p ∈ lg, p ∈ lg') → J i m₁ → Fr h₀ env.locals h (fun y => if y = x then some (.int (a₀ + (i : Int)) t) else m₁ y) → News h₀ env.locals h lg' →
      wpAny (model prog w) A (execs body env) (TurnEnd h₀ env.locals lg' (J (i + 1)) { s with heap := h, toks := tk } Q) E { s with heap := h, toks := tk })
    (done : ∀ m₁ h tk, J n m₁ → Fr h₀ env.locals h m₁ → News h₀ env.locals h lg → Q .next { s with heap := h, toks := tk }) :
    wpAny (model prog w) A (pyIter (.ref r)) (fun it s₂ => LoopAtV prog w A h₀ env x body Q E it s₂) E s := by
  refine wpAny_pyIter_range hr hsmall ?_
  have W : Walks prog w A s.heap.objs.size [s.heap.objs.size] [s.heap.objs.size] n (fun i v => i < n ∧ ∃ t, v = .int (a₀ + i * 1) t)
      (fun i h => IsRangeIter h s.heap.objs.size (a₀ + (i : Nat) * 1) ((n : Int) - (i : Nat)) 1) := (Walks.range hh _ a₀ 1 n).bound
  refine ⟨_, _, _, n, _, _, m₀, lg, (fun i m nx => nx = lg ∧ J i m), rfl, W,
    ?_, ?_, ?_, (by show IsRangeIter _ _ _ _ _; rw [hn]; simpa using Heap.get?_push_size _ rfl), F.push _, (fun p hp => ⟨Heap.get?_push_of_some _ (N p hp).1, (N p hp).2⟩), ⟨rfl, hj⟩, ?_, ?_⟩
  · intro hm
    exact absurd F.ns.lt ((List.mem_singleton.mp hm) ▸ Nat.lt_irrefl _)
  · intro b hb
    rw [List.mem_singleton.mp hb]
    exact next_is_new F
  · intro p hp hI
    exact absurd (Heap.lt_size (N p hp).1) ((List.mem_singleton.mp hI) ▸ Nat.lt_irrefl _)
  · rintro i v m₁ news₁ s₁ own ⟨hh', tk', rfl⟩ hin hP ⟨rfl, hJ⟩ hoff hown hget hfp _ F₁ N₁
    obtain ⟨_, t, rfl⟩ := hP
    rw [Int.mul_one] at F₁
    refine wpAny_mono (turn i t m₁ hh' tk' (own ++ news₁) hin (fun p hp => List.mem_append.mpr (.inr hp)) hJ F₁ N₁) (fun f s₂ p => ?_) fun _ _ e => e
    cases f with
    | ret v => exact .ret p
    | brk => exact .brk p
    | next => obtain ⟨h', tk, m', e, F', N', j⟩ := p; exact .next ⟨rfl, h', tk, m', _, e, F', N', hoff, rfl, j⟩
    | cont => obtain ⟨h', tk, m', e, F', N', j⟩ := p; exact .cont ⟨rfl, h', tk, m', _, e, F', N', hoff, rfl, j⟩
  · rintro h' tk m' news' F' N' _ ⟨rfl, hJ⟩
    exact done m' h' tk hJ F' N'
end
end Mine
end Rng
section Alk
set_option maxRecDepth 100000
namespace Mine
open PySem PySem.W PySem.Spec PySem.Calls PyProof.Rows
local macro_rules | `(tactic| walk_at "my enter") => `(tactic| (refine' code_def ?k1 ?k2 ?k3 ?k4 ?k5 ?kA ?kF ?kK ?k6 ?k7 ?k8 ?k9 ?kB ?_ ?c2 ?c3 ?c4 ?c5; (case kA => exact rfl); (case kF => exact rfl); (case kK => first | assumption | exact rfl); (case k1 => k_asm); (case k2 => k_asm); (case k3 => k_asm); (case k4 => k_asm); (case k5 => k_asm); (case k6 => k_is); (case k7 => k_is); (case k8 => ktr_room); (case k9 => exact BindsTo.of_eq rfl); (case c5 => decide); (case kB => exact locs rfl); (case c2 => exact rfl); (case c3 => exact rfl); (case c4 => exact rfl); k_whole; intro g' L' h' FG' F' N' B' X' T'; (try dsimp only); (try k_fold)))
local macro_rules | `(tactic| k_mem) => `(tactic| ((with_reducible show @List.Mem (Addr × Obj) _ (_ ++ _)); first | (refine List.mem_append.mpr (Or.inl ?_); k_mem) | (refine List.mem_append.mpr (Or.inr ?_); k_mem)))
local macro_rules | `(tactic| k_mem) => `(tactic| ((with_reducible show @List.Mem (Addr × Obj) _ _); (show Membership.mem (γ := List (Addr × Obj)) _ _); ktr_member))
local macro_rules | `(tactic| walk_at "my enterC") => `(tactic| (refine' code_defC ?k1 ?k2 ?k3 ?k4 ?k5 ?kA ?kF ?kK ?k6 ?k7 ?k8 ?k9 ?kB ?kD ?_ ?c2 ?c3 ?c4; (case kA => exact rfl); (case kF => exact rfl); (case kK => first | assumption | exact rfl); (case k1 => k_asm); (case k2 => k_asm); (case k3 => k_asm); (case k4 => k_asm); (case k5 => k_asm); (case k6 => k_is); (case k7 => k_is); (case k8 => ktr_room); (case k9 => exact BindsTo.of_eq rfl); (case kB => exact rfl); (case kD => decide +kernel); (case c2 => exact rfl); (case c3 => exact rfl); (case c4 => exact rfl); k_whole; intro g' L' h' tk' cells' FG' F' N' Y' B' X' T' l1; (try k_lt l1); k_cells Y'; (try simp only [List.cons_append, List.nil_append] at N'); (try dsimp only); (try k_fold)))


local macro_rules | `(tactic| walk_at "call ref") => `(tactic| ((with_reducible show wpAny _ _ (call (Value.ref 101) _) _ _ _); refine held ?_))
local macro_rules | `(tactic| walk_at "pyIter ref") => `(tactic| (refine held ?_))
local macro_rules | `(tactic| walk_at "call builtin:len") => `(tactic| (k_here; (with_reducible show wpAny _ _ (call (Value.builtin "len") [Value.ref _]) _ _ _); k_dflt (refine' len_any ?k1 ?k2 ?k4 ?_; (case k1 => k_asm); (case k2 => k_mem); (case k4 => omega); k_whole); intro _ _))
local macro_rules | `(tactic| walk_at "subscriptTail") => `(tactic| (k_here; (with_reducible show wpAny _ _ (subscriptTail _ _ (Value.ref _) (Value.int _ _)) _ _ _); k_dflt (refine' idx_vals ?k1 ?k2 ?k4 ?k5 ?k6 ?_ ?k7; (case k1 => k_asm); (case k2 => k_mem); (case k4 => omega); (case k5 => omega); (case k6 => assumption); (case k7 => with_unfolding_all rfl); k_whole)))
local macro_rules | `(tactic| walk_at "eval Name") => `(tactic| (k_here; k_dflt (refine' nameX_L ?F ?v ?_ ?a ?b; (case F => k_asm); (case a => rfl); (case b => rfl); (case v => assumption); k_whole)))
local macro_rules | `(tactic| walk_at "loadName") => `(tactic| (k_here; k_dflt (refine' ldn ?k1 ?k2 ?_; (case k1 => k_asm); (case k2 => first | exact rfl | assumption); k_whole)))
def IsTrue (_ : List (Addr × Obj)) (v : Value) : Prop := v = .bool true
set_option maxHeartbeats 8000000 in
theorem alike_leaf (w : World) (b : Array UInt8) (news : List (Addr × Obj)) (n : Nat) (b1 : Array UInt8) (t1 t2 : Tok) :
   Does w 101 [.bytes b1 t1, .bytes b1 t2] (n + 2) (4 * n + 20) news IsTrue b (fun _ => False) := by
    unfold Does
    w_top off
    k_fill
    intro mean mg mb dp un gd cn cs a ccd cl outer A₀ base h₀ L m s Q E B F X N T hk hd hu hret hexc
    refine wpAny_call ?_
    k_dflt (walk_at "my enter")
    k_steps
    exact hret _ [] _ _ (by assumption) (by rw [List.append_nil]; assumption) (fun _ _ _ z => nomatch z) (by show _ = _; simp)
set_option maxHeartbeats 8000000 in
theorem alike_does (w : World) (b : Array UInt8) : ∀ (n : Nat) (news : List (Addr × Obj)) (t : Tr) (v v' : Value), TrOk n t → TrIn news v t → TrIn news v' t →
   Does w 101 [v, v'] (n + 2) (4 * n + 20) news IsTrue b (fun _ => False) := by
  intro n
  induction n with
  | zero =>
    intro news t v v' ok T1 T2
    cases T1 with
    | node => cases ok
    | @leaf b1 t1 ks e1 =>
    cases T2 with
    | @leaf b2 t2 _ e2 =>
    obtain rfl := bytes_of_ints (e1.trans e2.symm)
    exact alike_leaf w b news 0 _ _ _
  | succ n ih =>
    intro news t v v' ok T1 T2
    cases T1 with
    | @leaf b1 t1 ks e1 =>
      cases T2 with
      | @leaf b2 t2 _ e2 =>
      obtain rfl := bytes_of_ints (e1.trans e2.symm)
      exact alike_leaf w b news (n + 1) _ _ _
    | @node l1 vs1 ep1 ts hm1 S1 =>
    cases T2 with
    | @node l2 vs2 ep2 _ hm2 S2 =>
    cases ok with
    | node hlen hok =>
    have z1 := TrsIn.length S1
    have z2 := TrsIn.length S2
    unfold Does
    k_fill
    intro mean mg mb dp un gd cn cs a ccd cl outer A₀ base h₀ L m s Q E B F X N T hk hd hu hret hexc
    refine wpAny_call ?_
    k_dflt (walk_at "my enter")
    k_steps
    · exfalso; omega
    refine unheld ?_
    (with_reducible rename Fr _ _ _ _ => F2)
    (with_reducible rename News _ _ _ _ => N2)
    (rename IsRange _ _ _ _ _ _ _ _ => R2)
    (rename Below _ _ _ _ => B')
    (rename Frag.In _ _ => X')
    (rename Top _ _ _ _ _ _ => T')
    obtain ⟨m₀, hm₀, F2⟩ : ∃ m₀, m₀ = _ ∧ Fr _ _ _ m₀ := ⟨_, rfl, F2⟩
    have e1 : m₀ "told" = some (.ref l1) := by rw [hm₀]; rfl
    have e2 : m₀ "want" = some (.ref l2) := by rw [hm₀]; rfl
    clear hm₀
    refine iter_rangeJ (n := vs2.length) (fun i m => ∀ y : Str, y ≠ "k" → m y = m₀ y) rfl R2 ?sm ?sz F2 N2 (fun _ _ => rfl) ?turn ?done
    case turn =>
      intro i t m₁ h tk lg' hi hsub hJ F3 N3
      have e3 := (hJ "told" (by decide)).trans e1
      have e4 := (hJ "want" (by decide)).trans e2
      have hm3 := hsub _ hm1
      have hm4 := hsub _ hm2
      have i1 : vs1[(0 + (i : Int)).toNat]? = some vs1[i] := by rw [show (0 + (i : Int)).toNat = i by omega]; exact List.getElem?_eq_getElem _
      have i2 : vs2[(0 + (i : Int)).toNat]? = some vs2[i] := by rw [show (0 + (i : Int)).toNat = i by omega]; exact List.getElem?_eq_getElem _
      obtain ⟨t1, q1, T1⟩ := S1.get (List.getElem?_eq_getElem (l := vs1) (i := i) (by omega))
      obtain ⟨t2, q2, T2⟩ := S2.get (List.getElem?_eq_getElem (l := vs2) (i := i) (by omega))
      obtain rfl : t1 = t2 := Option.some.inj (q1.symm.trans q2)
      have ok1 := hok t1 (List.mem_of_getElem? q1)
      k_steps
      refine unheld ?_
      refine use_does (ih lg' t1 _ _ ok1 (T1.mono hsub) (T2.mono hsub)) B' F3 X' N3 T' rfl (by show dp + 1 + (n + 2) < recursionLimit; omega) (by show un + 3 + (4 * n + 20) < cLine; omega) ?_ ?_
      · intro r9 tl9 h9 tk9 F9 N9 o9 ret9
        obtain rfl : r9 = .bool true := ret9
        replace N9 := news_drop N9
        k_steps
        refine turn_next ⟨_, _, _, rfl, F9, N9, ?_⟩
        intro y hy
        show (if y = "k" then _ else m₁ y) = _
        rw [if_neg hy]; exact hJ y hy
      · intro _ _ _ _ z9; exact z9.elim
    case done =>
      intro m₁ h tk hJ F3 N3
      k_steps
      exact hret _ [] _ _ (by assumption) (by rw [List.append_nil]; assumption) (fun _ _ _ z => nomatch z) rfl
    case sm => exact small_one (by l_bnd) (by l_bnd) (by l_bnd) (by l_bnd)
    case sz => first | exact rangeSize_nat _ _ | rfl
end Mine
end Alk
section Tree
set_option maxRecDepth 100000
namespace Mine
open PySem PySem.W PySem.Spec PySem.Calls PyProof.Rows
theorem loop_none {ks : List Int} {e k : Int} {its rls : List Tr} {body : List Int} {hd : Hd} (h : k < e) (q : headP ks k = .ok hd) (p : pay ks hd = none) : loop ks e k its rls body = none := by
  rw [loop, if_pos h, q]
  show (pay ks hd >>= _) = _
  rw [p]
  rfl
theorem pay_ok {ks : List Int} (hb : ks.length ≤ 200) (hin : ∀ x ∈ ks, 0 ≤ x ∧ x < 256) : ∀ (n : Nat) (k0 : Int) (h : Hd) (it rl : Tr) (nx : Int), HdOk ks k0 h → ((ks.length : Int) - k0).toNat ≤ n → pay ks h = some (.ok (it, rl, nx)) → TrOk (n + 1) it ∧ TrOk (n + 1) rl ∧ k0 < nx := by
  intro n
  induction n with
  | zero => intro k0 h it rl nx ho hn; have := ho.kl; omega
  | succ n IH =>
    intro k0 h it rl nx ho hn hp
    have q1 := ho.k0
    have q2 := ho.kn
    have q3 := ho.kp
    have q4 := ho.sz
    have q7 := ho.lp
    cases hl : h.lst with
    | false =>
      rw [pay_leaf hl] at hp
      obtain ⟨rfl, rfl, rfl⟩ : _ ∧ _ ∧ _ := by simpa using hp
      exact ⟨.leaf, .node (by simp) (fun t ht => by rw [List.mem_singleton.mp ht]; exact .leaf), by omega⟩
    | true =>
      rw [pay_list hl] at hp
      have key : ∀ (m : Nat) (k : Int) (its rls : List Tr) (body : List Int), ((ks.length : Int) - k).toNat ≤ m → h.pos ≤ k → (∀ t ∈ its, TrOk (n + 1) t) → (∀ t ∈ rls, TrOk (n + 1) t) →
          (its.length : Int) ≤ min k ks.length - min h.pos ks.length → (rls.length : Int) ≤ min k ks.length - min h.pos ks.length → loop ks (h.pos + h.size) k its rls body = some (.ok (it, rl, nx)) → TrOk (n + 2) it ∧ TrOk (n + 2) rl ∧ k ≤ nx := by
        intro m
        induction m with
        | zero =>
          intro k its rls body hm hpk h1 h2 l1 l2 hlp
          rcases Int.lt_trichotomy k (h.pos + h.size) with c | c | c
          · rw [loop_bad c (headP_index (by omega))] at hlp; simp at hlp
          · rw [loop_done c] at hlp
            obtain ⟨rfl, rfl, rfl⟩ : _ ∧ _ ∧ _ := by simpa using hlp
            exact ⟨.node (by omega) h1, .node (by rw [List.length_cons]; omega) (fun t ht => by rcases List.mem_cons.mp ht with rfl | ht; exact .leaf; exact h2 t ht), Int.le_refl _⟩
          · rw [loop_over c] at hlp; simp at hlp
        | succ m ih =>
          intro k its rls body hm hpk h1 h2 l1 l2 hlp
          rcases Int.lt_trichotomy k (h.pos + h.size) with c | c | c
          · cases hh : headP ks k with
            | error x => rw [loop_bad c hh] at hlp; simp at hlp
            | ok h' =>
              have ho' := headP_ok (by omega) hin hh
              have kl := ho'.kl
              cases hp' : pay ks h' with
              | none => rw [loop_none c hh hp'] at hlp; simp at hlp
              | some r =>
                cases r with
                | error x => rw [loop_part c hh hp'] at hlp; simp at hlp
                | ok q =>
                  obtain ⟨i, r, nx'⟩ := q
                  have q7' := q7 hl
                  obtain ⟨t1, t2, t3⟩ := IH k h' i r nx' ho' (by omega) hp'
                  rw [loop_turn c hh hp'] at hlp
                  obtain ⟨z1, z2, z3⟩ := ih nx' (its ++ [i]) (rls ++ [r]) _ (by omega) (by omega)
                    (fun t ht => by rcases List.mem_append.mp ht with z | z; exact h1 t z; rw [List.mem_singleton.mp z]; exact t1)
                    (fun t ht => by rcases List.mem_append.mp ht with z | z; exact h2 t z; rw [List.mem_singleton.mp z]; exact t2)
                    (by rw [List.length_append, List.length_singleton]; omega) (by rw [List.length_append, List.length_singleton]; omega) hlp
                  exact ⟨z1, z2, by omega⟩
          · rw [loop_done c] at hlp
            obtain ⟨rfl, rfl, rfl⟩ : _ ∧ _ ∧ _ := by simpa using hlp
            exact ⟨.node (by omega) h1, .node (by rw [List.length_cons]; omega) (fun t ht => by rcases List.mem_cons.mp ht with rfl | ht; exact .leaf; exact h2 t ht), Int.le_refl _⟩
          · rw [loop_over c] at hlp; simp at hlp
      obtain ⟨z1, z2, z3⟩ := key _ h.pos [] [] h.pre (Nat.le_refl _) (Int.le_refl _) (fun _ z => nomatch z) (fun _ z => nomatch z) (by simp) (by simp) hp
      have := q7 hl
      exact ⟨z1, z2, by omega⟩
theorem item_ok {ks : List Int} (hb : ks.length ≤ 200) (hin : ∀ x ∈ ks, 0 ≤ x ∧ x < 256) {k : Int} {it rl : Tr} {nx : Int} (hk : 0 ≤ k) (e : itemP ks k = some (.ok (it, rl, nx))) : TrOk 201 it ∧ TrOk 201 rl := by
  unfold itemP at e
  split at e
  · simp at e
  · rename_i h hh
    have ho := headP_ok hk hin hh
    obtain ⟨z1, z2, _⟩ := pay_ok hb hin 200 k h it rl nx ho (by omega) e
    exact ⟨z1, z2⟩
end Mine
end Tree
section Fit1
set_option maxRecDepth 100000
namespace Mine
open PySem PySem.W PySem.Spec PySem.Calls PyProof.Rows
/-- the end of a call that was entered by hand -/
def EndF (P : Prop) : Prop := P
theorem endF {P : Prop} (h : P) : EndF P := h
section
variable {prog : Program} {w : World} {A₀ A : Around} {s : Shared} {base h₀ : Heap} {env : Env} {L : Addr} {m mg mb : Str → Option Value} {news : List (Addr × Obj)} {K : Frag} {p : Program} {loose : List Str} {mean : ExcName → Option Value}
  {R : Result → Shared → Prop} {name qual : Str} {params : Arguments} {body : List Stmt} {scope : Scope} {dV kV doc pm cdv ct oc : Value} {an od : Option Addr} {osl : Array (Option Value)} {f : Addr} {args : Args} {binds : List (Str × Value)}
theorem enterF (B : Below A₀ base [] h₀) (F : Fr h₀ L s.heap m) (X₀ : K.In h₀) (N : News h₀ L s.heap news) (T : Top p loose mean mg mb h₀) (hA : A.frames = some [env]) (hf : env.frame = some L) (hke : env.scope.kind = .function)
    (ho : K.lookup f = some ⟨oc, od, .func (fnOf name qual params body scope dV kV doc pm an cdv ct), osl⟩) (hcd : codeIn K cdv qual = true) (hroom : A.depth < recursionLimit)
    (hbind : BindsTo s (fnOf name qual params body scope dV kV doc pm an cdv ct) args binds) (hloc : ∀ y ∈ binds, scope.names.lookup y.1 = some .local)
    (h : ∀ g L' h₁, g = hideAll s.heap (news.map (·.1)) → L' = s.heap.objs.size → Fr s.heap L' h₁ (fun y => binds.reverse.lookup y) → Fr g L' h₁ (fun y => binds.reverse.lookup y) → News g L' h₁ news → Below A base [env] g → K.In g → Top p loose mean mg mb g →
      wpAny (model prog w) (A.deeper (envOf qual scope L' f cdv)) (execs body (envOf qual scope L' f cdv))
        (fun fl s' => EndF (R (.ok (.ret (match fl with | .ret v => v | _ => .none))) s'))
        (fun e s' => wpAny (model prog w) (A.deeper (envOf qual scope L' f cdv)) (leaving (envOf qual scope L' f cdv) e) (fun _ s'' => R (.error e) s'') (fun e' s'' => R (.error e') s'') s')
        { s with heap := h₁, toks := s.toks + binds.length })
    (hco : scope.isCoroutine = false) (hgen : scope.isGenerator = false) (hk : scope.kind = .function)
    (hcell : ∀ x ∈ scope.names, x.2 ≠ .cell) : codeAny (model prog w) A (.call (.ref f) args) R s := by
  obtain ⟨FG, BG, st, lv⟩ := groundX (R := R) B F N hA hf hke
  refine codeAny_call_def (fd := fnOf name qual params body scope dV kV doc pm an cdv ct) (body := body) (binds := binds) hroom (F.keep _ _ (X₀ _ _ ho)) rfl (T.nolimit.keeps F.keep) (codeRec_of (X₀.keeps F.keep) hcd) rfl hbind hcell hloc (fun h₁ hns hk₁ => ?_) hco hgen hk
  exact wpAny_mono (h _ s.heap.objs.size h₁ rfl rfl ⟨hns, hk₁, Nat.le_refl _⟩ ⟨hns, fun b o e => hk₁ b o (of_hideAll _ e), Nat.le_of_eq (hideAll_size _ _)⟩
    (fun p hp => ⟨hk₁ _ _ (N p hp).1, Nat.ne_of_lt (Heap.lt_size (N p hp).1), hideAll_none _ (List.mem_map_of_mem hp)⟩) BG (X₀.keeps st) (T.keeps st)) (fun fl s' hl => hl) fun _ _ y => y
end

section
variable {M : Model} {A : Around} {E : Value → Shared → Prop} {s : Shared} {base h₀ S : Heap} {L L' e : Addr} {m m' : Str → Option Value} {l : List Env} {env : Env} {P : XP}
/-- an exception comes into the frame that holds a try -/
theorem note_fly {Q : Unit → Shared → Prop} (hP : Keen P) (hfr : A.frames = some (env :: l)) (hf : env.frame = some L') (fl : FlyX P base S L' m' (env :: l) e s.heap)
    (h : ∀ h', FlyX P base S L' m' (env :: l) e h' → Q () { s with heap := h' }) : wpAny M A (noteFrame (.ref e) env) (fun _ s₂ => wpAny M A (setFlight (.ref e) none) Q E s₂) E s := by
  obtain ⟨hkb, up, ns, hen, hl, ht⟩ := fl
  obtain ⟨oe, vs, a0, T, oT, ts, he, hd, h0, hp, h1, hnT, hTe, hT, hdT, h3⟩ := ht
  unfold noteFrame
  simp only [hf]
  refine wpAny_bind (wpAny_field he hd h1 ?_)
  rw [if_pos (show (Value.ref T != Value.none) = true from by simp)]
  refine wpAny_bind (wpAny_field hT hdT h3 ?_)
  rw [if_neg (show ¬ ((Value.none == rawInt L') = true) from by simp [rawInt])]
  refine wpAny_bind (wpAny_setField hT hdT (Array.getElem?_eq_some_iff.mp h3).1 ?_)
  have other : ∀ b, b ≠ T → (s.heap.update T (Obj.mapFields (·.setIfInBounds 3 Value.none))).get? b = s.heap.get? b := fun b hb => Heap.get?_update_other _ _ (Ne.symm hb)
  have noRecord : ∀ b o, s.heap.get? b = some o → (∀ vs, o.data ≠ .fields vs) → b ≠ T := fun b o hb hnf q => by
    rw [q, hT] at hb; injection hb with hb; subst hb; exact hnf ts hdT
  have up1 : s.heap.UpToSlots (s.heap.update T (Obj.mapFields (·.setIfInBounds 3 Value.none))) := fun b o hb hnf => ⟨o.slots, (other b (noRecord b o hb hnf)).trans hb⟩
  refine newEntryX (P := P) hP hfr (hl.of_keeps fun b o hb hnf => ⟨o, (other b (noRecord b o hb hnf)).trans hb, rfl⟩) hf ((other e (Ne.symm hTe)).trans he)
    (fun b o hbo => (other b fun q => by rw [q, hnT] at hbo; cases hbo).trans (hkb b o hbo)) hen hd h0 (hP _ _ _ _ _ up1 hp) (Array.getElem?_eq_some_iff.mp h1).1
    fun h' x1 x2 x3 x4 => h h' ⟨x1, up.trans (up1.trans x4), (up1.trans x4).ns ns, hen, x2, x3⟩

/-- the exception is laid down once more -/
theorem land_fly {Q : Unit → Shared → Prop} (hP : Keen P) (fl : FlyX P base S L' m' l e s.heap)
    (h : ∀ h', FlyX P base S L' m' l e h' → Q () { s with heap := h' }) : wpAny M A (setFlight (.ref e) none) Q E s := by
  obtain ⟨hkb, up, ns, hen, hl, ht⟩ := fl
  obtain ⟨oe, vs, a0, T, oT, ts, he, hd, h0, hp, h1, hnT, hTe, hT, hdT, h3⟩ := ht
  have other : ∀ b, b ≠ T → (s.heap.update T (Obj.mapFields (·.setIfInBounds 3 Value.none))).get? b = s.heap.get? b := fun b hb => Heap.get?_update_other _ _ (Ne.symm hb)
  have noRecord : ∀ b o, s.heap.get? b = some o → (∀ vs, o.data ≠ .fields vs) → b ≠ T := fun b o hb hnf q => by
    rw [q, hT] at hb; injection hb with hb; subst hb; exact hnf ts hdT
  have up1 : s.heap.UpToSlots (s.heap.update T (Obj.mapFields (·.setIfInBounds 3 Value.none))) := fun b o hb hnf => ⟨o.slots, (other b (noRecord b o hb hnf)).trans hb⟩
  have h33 : 3 < ts.size := (Array.getElem?_eq_some_iff.mp h3).1
  refine wpAny_setFlight_none he hd h1 hT hdT h33 (h _ ⟨fun b o hbo => (other b fun q => by rw [q, hnT] at hbo; cases hbo).trans (hkb b o hbo), up.trans up1, up1.ns ns, hen,
    hl.of_keeps fun b o hb hnf => ⟨o, (other b (noRecord b o hb hnf)).trans hb, rfl⟩, ?_⟩)
  exact ⟨oe, vs, a0, T, _, _, (other e (Ne.symm hTe)).trans he, hd, h0, hP _ _ _ _ _ up1 hp, h1, hnT, hTe, Heap.get?_update_self _ hT (Obj.isFreed_of_fields (Obj.data_mapFields hdT _)), Obj.data_mapFields hdT _, by simp [h33]⟩
end

section
variable {prog : Program} {w : World} {A : Around} {E : Value → Shared → Prop} {s : Shared} {env : Env} {e : Addr} {t : Expr} {n : Str} {b₀ : Stmt} {suite : List Stmt} {pos : Pos} {rest : List ExceptHandler} {Q : Flow → Shared → Prop}
theorem clause_miss {name : Option Str} (h : wpAny (model prog w) (A.mark (some (.ref e))) (eval t env) (fun c s₁ => Looks (model prog w) s₁.heap (excMatches (.ref e) c) false ∧ wpAny (model prog w) A (handleBy (.ref e) env rest) Q E s₁) (notedBy (model prog w) (A.mark (some (.ref e))) env (cameBackBy (model prog w) A env E)) s) :
    wpAny (model prog w) A (handleBy (.ref e) env (.ExceptHandler (some t) name (b₀ :: suite) pos :: rest)) Q E s := by
  refine wpAny_handleBy_cons (codeAny_handlers_test (wpAny_mono h (fun c s₁ h₁ => ?_) fun _ _ x => x)) (by intro q; cases q)
  obtain ⟨lk, hk⟩ := h₁
  exact lk.at hk
theorem clause_hit (h : wpAny (model prog w) (A.mark (some (.ref e))) (eval t env) (fun c s₁ => Looks (model prog w) s₁.heap (excMatches (.ref e) c) true ∧
      wpAny (model prog w) (A.mark (some (.ref e))) (setFlight (.ref e) none) (fun _ s₂ => wpAny (model prog w) (A.mark (some (.ref e))) (execs (b₀ :: suite) env) Q (fun _ _ => False) s₂) (fun _ _ => False) s₁) (notedBy (model prog w) (A.mark (some (.ref e))) env (cameBackBy (model prog w) A env E)) s) :
    wpAny (model prog w) A (handleBy (.ref e) env (.ExceptHandler (some t) none (b₀ :: suite) pos :: rest)) Q E s := by
  refine wpAny_handleBy_cons (codeAny_handlers_test (wpAny_mono h (fun c s₁ h₁ => ?_) fun _ _ x => x)) (by intro q; cases q)
  obtain ⟨lk, hk⟩ := h₁
  exact lk.at (codeAny_handlers_suite (wpAny_mono hk (fun _ s₂ h₂ => wpAny_mono h₂ (fun _ _ z => z) fun _ _ z => z.elim) fun _ _ z => z.elim))
theorem clause_hit_as (h : wpAny (model prog w) (A.mark (some (.ref e))) (eval t env) (fun c s₁ => Looks (model prog w) s₁.heap (excMatches (.ref e) c) true ∧
      wpAny (model prog w) (A.mark (some (.ref e))) (setFlight (.ref e) none) (fun _ s₂ => wpAny (model prog w) (A.mark (some (.ref e))) (storeName env n (.ref e)) (fun _ s₃ =>
        wpAny (model prog w) (A.mark (some (.ref e))) (execs (b₀ :: suite) env) (fun f s₄ => wpAny (model prog w) A (do bindName env n .none; unbindBehindTheSuite env n pos) (fun _ s₅ => Q f s₅) E s₄) (fun _ _ => False) s₃) (fun _ _ => False) s₂) (fun _ _ => False) s₁) (notedBy (model prog w) (A.mark (some (.ref e))) env (cameBackBy (model prog w) A env E)) s) :
    wpAny (model prog w) A (handleBy (.ref e) env (.ExceptHandler (some t) (some n) (b₀ :: suite) pos :: rest)) Q E s := by
  refine wpAny_handleBy_cons (codeAny_handlers_test (wpAny_mono h (fun c s₁ h₁ => ?_) fun _ _ x => x)) (by intro q; cases q)
  obtain ⟨lk, hk⟩ := h₁
  exact lk.at (codeAny_handlers_suite_as (wpAny_mono hk (fun _ s₂ h₂ => wpAny_mono h₂ (fun _ s₃ h₃ => wpAny_mono h₃ (fun _ _ z => z) fun _ _ z => z.elim) fun _ _ z => z.elim) fun _ _ z => z.elim))
end
end Mine
end Fit1
section Fit2
set_option maxRecDepth 100000
namespace Mine
open PySem PySem.W PySem.Spec PySem.Calls PyProof.Rows
section
variable {prog : Program} {w : World} {A : Around} {E : Value → Shared → Prop} {s : Shared} {K : Frag} {x C : Addr} {ox : Obj} {od : Option Obj} {name : Str} {expr : Bool} {Q : Value → Shared → Prop}
theorem get_valueE {v : Value} (X : K.In s.heap) (I : W.InstAt s.heap x ox C od) (hga : findIn K (.ref C) "__getattribute__" = some (some (.builtin "BaseException.__getattribute__"))) (hgt : findIn K (.ref C) "__getattr__" = some none) (hm : mroIn K C (.type "BaseException") = some true)
    (hf : findObj K C od name = some (.value v)) (hh : handedIn v = true) (h : Q v { s with toks := s.toks + 1 }) : wpAny (model prog w) A (getAttr (.ref x) name expr) Q E s := by
  obtain ⟨hp, g, d, t, os⟩ := s
  have L0 := I.type (M := model prog w)
  have L1 := looks_findIn (M := model prog w) X hga
  have L2 := looks_findIn (M := model prog w) X hgt
  have L3 := looks_find (M := model prog w) X I hf
  have FX := PySem.F.excAttr_ValueError.ga
  unfold getAttr getAttrBy
  refine wpAny_bind (wpAny_mkText (wpAny_holding (wpAny_bind (L0.at (wpAny_bind (L1.at ?_))))))
  have hx2 : (Value.builtin "BaseException.__getattribute__" == Value.builtin "object.__getattribute__") = false := by decide +kernel
  show wpAny _ _ (if (onTheHeap (Value.ref C) && Value.builtin "BaseException.__getattribute__" == Value.builtin "object.__getattribute__") = true then _ else _) _ _ _
  rw [if_neg (by rw [hx2]; simp)]
  unfold getAttrByItsOwn hookBefore callGetattribute boundAndCalled
  refine wpAny_bind (m := if onTheHeap (.ref C) then typeLookup (.ref C) "__getattr__" else pure none) ?_
  rw [if_pos (show onTheHeap (.ref C) = true from rfl)]
  refine L2.at ?_
  refine wpAny_bind (wpAny_attempt (wpAny_holding ?_))
  have hx0 : (expr && onTheHeap (Value.builtin "BaseException.__getattribute__")) = false := by cases expr <;> rfl
  rw [hx0, if_neg (by decide)]
  refine wpAny_bind (wpAny_of_eq (FX.bind _) ?_)
  refine wpAny_mono (Q := fun r s' => r = v ∧ s' = ⟨hp, g, d, t + 1, os⟩) (E := fun _ _ => False) ?_ (fun r s' hv => ?_) fun _ _ z => z.elim
  · refine wpAny_call (codeAny_call_builtin FX.plain PySem.F.entry_bexc_ga (check_slot (i := "BaseException.__getattribute__") (owner := "BaseException") (n := "__getattribute__") (by decide +kernel) (by decide +kernel) (L0.andThen (looks_mroIn X hm)) (PySem.F.args_bexc_ga _ _) ?_))
    unfold Builtin.«object.__getattribute__»
    refine wpAny_bind (m := slotArgs "__getattribute__" 1 _) (wpAny_pure ?_)
    dsimp only
    refine wpAny_bind (m := Builtin.ObjectAttr.attrName _) (wpAny_pure ?_)
    refine wpAny_bind (L0.at (wpAny_bind (L3.at ?_)))
    exact wpAny_pure ⟨rfl, rfl⟩
  · obtain ⟨rfl, rfl⟩ := hv
    show wpAny _ _ (handedOut r) _ _ _
    rw [handedOut_of hh]; exact wpAny_pure h
open Builtin Builtin.Str in
theorem str_excE {vs : Array Value} {tp : Addr} {msg : Str} {mt : Tok} (hu : A.in1.in1.units < cLine) (X : K.In s.heap) (I : W.InstAt s.heap x ox C od) (hs : findIn K (.ref C) "__str__" = some (some (.builtin "BaseException.__str__"))) (hm : mroIn K C (.type "BaseException") = some true)
    (hd : ox.data = .fields vs) (h0 : vs[0]? = some (.ref tp)) (ht : s.heap.TupAt tp [.str msg mt]) (h : Q (.str msg mt) s) : wpAny (model prog w) A (call (.type "str") [.ref x]) Q E s := by
  refine callType_codes (T := "str") (Bi := Builtin.«object.__init__») (Q₁ := fun r s₁ => ∃ y u, r = .str y u ∧ Q r s₁) PySem.F.called_str (PySem.F.typeCall_str_1 _) PySem.F.entry_object_init ?_ ?_
  · refine codeAny_of_tree ?_
    show wpAny _ A.in1.in1 (do checkBuiltinCall "str.__new__" ⟨[.type "str", .ref x], []⟩; again (.builtin "str.__new__" ⟨[.type "str", .ref x], []⟩)) _ _ s
    refine wpAny_bind (wpAny_of_eq (PySem.F.newCall_str_1 _) (wpAny_pure ⟨plainId_quiet (by decide +kernel) _, codeAny_builtin PySem.F.entry_str_new ?_⟩))
    rw [Around.under_plainId (by decide +kernel) _]
    rw [str_new_tree]
    refine wpAny_bind (wpAny_pure ?_)
    refine wpAny_bind (wpAny_of_eq isSubtype_str_str ?_)
    have key : wpAny (model prog w) A.in1.in1 (PySem.Builtin.Str.strOf (.ref x)) (fun r s₁ => ∃ y u, r = .str y u ∧ Q r s₁) E s := by
      unfold PySem.Builtin.Str.strOf
      rw [show isExactStr (.ref x) = false from rfl]
      refine wpAny_bind (m := cRoomFor _ _) (wpAny_cRoomFor hu ?_)
      have FX : PySem.Slot "ValueError" "__str__" "BaseException.__str__" := PySem.F.excStr_ValueError.str
      refine wpAny_bind (m := callSpecial? (.ref x) (Str.ofString "__str__")) (kfo_special X I hs FX.bind ?_)
      refine wpAny_call (codeAny_call_builtin FX.plain PySem.F.entry_bexc_str (check_slot (i := "BaseException.__str__") (owner := "BaseException") (n := "__str__") (by decide +kernel) (by decide +kernel) (I.type.andThen (looks_mroIn X hm)) (PySem.F.args_bexc_str _) ?_))
      obtain ⟨ot, k, hto, _, htd⟩ := ht
      have hx := I.at_
      unfold Builtin.«BaseException.__str__»
      refine wpAny_bind (m := slotArgs "__str__" 0 _) (wpAny_pure ?_)
      refine wpAny_bind (m := Builtin.BaseException.bexcArgs _) ?_
      unfold Builtin.BaseException.bexcArgs
      refine wpAny_bind (wpAny_field hx hd h0 (wpAny_bind (wpAny_seqItems hto htd ?_)))
      refine wpAny_pure ?_
      repeat (first | wp_step)
      exact ⟨_, _, rfl, h⟩
    exact wpAny_bind (wpAny_mono key (fun r s₁ hr => wpAny_pure hr) fun _ _ y => y)
  · rintro obj s₁ ⟨y, u, rfl, hq⟩
    exact ⟨typeIs_str _ _ _, PySem.F.args_object_init_2 _ _, object_init_meets PySem.F.called_str.init.lookup PySem.F.called_str.made (by decide) prog w A.in1 _ s₁ ⟨typeIs_str _ _ _, rfl, hq⟩⟩
end
end Mine
end Fit2
section Fit3
set_option maxRecDepth 100000
namespace Mine
open PySem PySem.W PySem.Spec PySem.Calls PyProof.Rows
/-- a call's start, from the law's own frame -/
structure Ent (w : World) (mean : ExcName → Option Value) (mg mb : Str → Option Value) (h₀ S g : Heap) (L L' : Addr) (m : Str → Option Value) (news : List (Addr × Obj)) (oL : Obj) : Prop where
  F : Fr h₀ L S m
  N : News h₀ L S news
  X : (Mine.hd.heap_39 w.params).In h₀
  T : Top Vw Lo mean mg mb h₀
  hg : g = hideAll S (news.map (·.1))
  hL : L' = S.objs.size
  hoL : S.get? L = some oL
  dict : ∃ es ep, oL.data = .dict es ep
  ns : ∀ (h : Heap) sl, h.get? L = some { oL with slots := sl } → h.Ns L m
section
variable {w : World} {mean : ExcName → Option Value} {mg mb : Str → Option Value} {h₀ S g : Heap} {L L' : Addr} {m : Str → Option Value} {news : List (Addr × Obj)} {oL : Obj}
theorem ent_of (F : Fr h₀ L S m) (N : News h₀ L S news) (X : (Mine.hd.heap_39 w.params).In h₀) (T : Top Vw Lo mean mg mb h₀) (hg : g = hideAll S (news.map (·.1))) (hL : L' = S.objs.size) : ∃ oL, Ent w mean mg mb h₀ S g L L' m news oL := by
  obtain ⟨oL, es, ep, hoL, hLd, hLk, hLf⟩ := F.ns
  exact ⟨oL, F, N, X, T, hg, hL, hoL, ⟨es, ep, hLd⟩, fun h sl e => ⟨_, es, ep, e, hLd, hLk, hLf⟩⟩
def outH (S : Heap) (L : Addr) (news : List (Addr × Obj)) : Heap := hideAll S (L :: news.map (·.1))
section
variable (En : Ent w mean mg mb h₀ S g L L' m news oL)
include En
theorem Ent.lnone : h₀.get? L = none := by
  cases q : h₀.get? L with
  | none => rfl
  | some o => exact absurd (Nat.lt_of_lt_of_le (Heap.lt_size q) En.F.above) (Nat.lt_irrefl _)
theorem Ent.llt : L < L' := En.hL ▸ Heap.lt_size En.hoL
theorem Ent.stay : h₀.StaysIn (outH S L news) := fun b o e => hideAll_get _ (En.F.keep b o e) fun q => by
  rcases List.mem_cons.mp q with rfl | q
  · rw [En.lnone] at e; cases e
  · obtain ⟨p, hp, rfl⟩ := List.mem_map.mp q
    rw [(En.N p hp).2.2] at e; cases e
theorem Ent.X₁ : (Mine.hd.heap_39 w.params).In (outH S L news) := En.X.keeps En.stay
theorem Ent.T₁ : Top Vw Lo mean mg mb (outH S L news) := En.T.keeps En.stay
theorem Ent.XS : (Mine.hd.heap_39 w.params).In S := En.X.keeps En.F.keep
theorem Ent.TS : Top Vw Lo mean mg mb S := En.T.keeps En.F.keep
/-- the frame stands upon all of the caller's heap -/
theorem Ent.back {h : Heap} {m' : Str → Option Value} (F' : Fr g L' h m') (N' : News g L' h news) : Fr S L' h m' := by
  refine ⟨F'.ns, fun b o e => ?_, by rw [En.hL]; exact Nat.le_refl _⟩
  by_cases hb : b ∈ news.map (·.1)
  · obtain ⟨p, hp, rfl⟩ := List.mem_map.mp hb
    have q := (En.N p hp).1
    rw [e] at q
    rw [(N' p hp).1]; exact q.symm
  · exact F'.keep b o (En.hg ▸ hideAll_get _ e hb)
theorem Ent.forth {h : Heap} {m' : Str → Option Value} {tl : List (Addr × Obj)} (F' : Fr S L' h m') (N' : News S L' h tl) : Fr g L' h m' ∧ News g L' h (news ++ tl) := by
  have lo : ∀ b o, g.get? b = some o → S.get? b = some o := fun b o e => of_hideAll _ (En.hg ▸ e)
  refine ⟨⟨F'.ns, fun b o e => F'.keep b o (lo b o e), ?_⟩, fun p hp => ?_⟩
  · rw [En.hg, hideAll_size, En.hL]; exact Nat.le_refl _
  rcases List.mem_append.mp hp with z | z
  · refine ⟨F'.keep _ _ (En.N p z).1, ?_, ?_⟩
    · rw [En.hL]; exact Nat.ne_of_lt (Heap.lt_size (En.N p z).1)
    · rw [En.hg]; exact hideAll_none _ (List.mem_map_of_mem z)
  · refine ⟨(N' p z).1, (N' p z).2.1, ?_⟩
    cases q : g.get? p.1 with
    | none => rfl
    | some o => have := lo _ _ q; rw [(N' p z).2.2] at this; cases this
theorem Ent.endN {h : Heap} {m' : Str → Option Value} {tl : List (Addr × Obj)} (F' : Fr g L' h m') (N' : News g L' h (news ++ tl)) : Fr h₀ L h m ∧ News h₀ L h news := by
  have FS := En.back F' (news_drop N')
  exact ⟨⟨En.ns _ oL.slots (FS.keep _ _ En.hoL), fun b o e => FS.keep b o (En.F.keep b o e), En.F.above⟩, fun p hp => ⟨(N' p (List.mem_append.mpr (.inl hp))).1, (En.N p hp).2⟩⟩
theorem Ent.endX {h : Heap} {m' : Str → Option Value} {sl : Array (Option Value)} {tl : List (Addr × Obj)} (F' : Fr (outH S L news) L' h m') (N' : News (outH S L news) L' h (news ++ (L, { oL with slots := sl }) :: tl)) : Fr h₀ L h m ∧ News h₀ L h news :=
  ⟨⟨En.ns _ sl (N' _ (List.mem_append.mpr (.inr (.head _)))).1, fun b o e => F'.keep b o (En.stay b o e), En.F.above⟩, fun p hp => ⟨(N' p (List.mem_append.mpr (.inl hp))).1, (En.N p hp).2⟩⟩
theorem Ent.below {A : Around} {env : Env} (hA : A.frames = some [env]) (hf : env.frame = some L) (hk : env.scope.kind = .function) : Below A (hideAll S [L]) [env] S :=
  ⟨hA, fun b o e => of_hideAll _ e, Heap.FunFrames.cons (by rw [hk]; decide) hf En.F.ns (hideAll_none _ (.head _)) trivial⟩
/-- behind an exception: the frame, the ledger -/
theorem Ent.fly {P : XP} {l : List Env} {e : Addr} {h : Heap} {m' : Str → Option Value} (fl : FlyX P (hideAll S [L]) S L' m' l e h) : ∃ sl, Fr (outH S L news) L' h m' ∧ News (outH S L news) L' h (news ++ [(L, { oL with slots := sl })]) := by
  obtain ⟨es, ep, hd⟩ := En.dict
  obtain ⟨sl, hsl⟩ := fl.up _ _ En.hoL fun vs q => by rw [hd] at q; cases q
  refine ⟨sl, ⟨fl.ns, fun b o e' => ?_, ?_⟩, fun p hp => ?_⟩
  · have hS := of_hideAll _ e'
    have hb : b ∉ [L] := fun q => by
      rw [show (outH S L news).get? b = none from hideAll_none _ (by rcases List.mem_singleton.mp q with rfl; exact .head _)] at e'; cases e'
    exact fl.stays b o (hideAll_get _ hS hb)
  · unfold outH; rw [hideAll_size, En.hL]; exact Nat.le_refl _
  rcases List.mem_append.mp hp with z | z
  · refine ⟨fl.stays _ _ (hideAll_get _ (En.N p z).1 fun q => (En.N p z).2.1 (List.mem_singleton.mp q)), ?_, hideAll_none _ (.tail _ (List.mem_map_of_mem z))⟩
    rw [En.hL]; exact Nat.ne_of_lt (Heap.lt_size (En.N p z).1)
  · rw [List.mem_singleton.mp z]
    exact ⟨hsl, Nat.ne_of_lt En.llt, hideAll_none _ (.head _)⟩
end
def clsOf : Ft → Value
  | .index => .type "IndexError"
  | .fault _ => .ref 46
/-- what a suite of an except clause leaves -/
def SuiteOk (G : Heap) (L' : Addr) (news : List (Addr × Obj)) (P : Addr × Obj → Prop) (s : Shared) (f : Flow) (s₄ : Shared) : Prop :=
  f = .ret (.bool true) ∧ ∃ h tk m' p, s₄ = { s with heap := h, toks := tk } ∧ Fr G L' h m' ∧ News G L' h (news ++ [p]) ∧ P p
section
variable {prog : Program} {A : Around} {E : Value → Shared → Prop} {s : Shared} {e : Addr} {m' : Str → Option Value} {l : List Env} {name : Str} {scope : Scope} {a : Addr} {cd : Value} {b : Array UInt8} {x : Ft}
  {p1 p2 p3 p4 : Pos} {b1 b2 : Stmt} {s1 s2 : List Stmt} {Q : Flow → Shared → Prop}
theorem catch_two (En : Ent w mean mg mb h₀ S g L L' m news oL) (hfr : A.frames = some (envOf name scope L' a cd :: l)) (fl : FlyX (XIs w b x) (hideAll S [L]) S L' m' (envOf name scope L' a cd :: l) e s.heap)
    (hk : scope.kind = .function) (hx1 : (envOf name scope L' a cd).kindOf "IndexError" = some .globalImplicit) (hx2 : (envOf name scope L' a cd).kindOf "DecodingError" = some .globalImplicit) (hx3 : (envOf name scope L' a cd).kindOf "fault" = some .local)
    (hj : ∃ v, m' "junk" = some v)
    (hQ : ∀ h tk, Fr h₀ L h m → News h₀ L h news → Q (.ret (.bool true)) { s with heap := h, toks := tk })
    (k1 : x = .index → ∀ h p, Fr (outH S L news) L' h m' → News (outH S L news) L' h (news ++ [p]) →
      wpAny (model prog w) (A.mark (some (.ref e))) (execs (b1 :: s1) (envOf name scope L' a cd)) (SuiteOk (outH S L news) L' news (fun q => q = p) s) (fun _ _ => False) { s with heap := h })
    (k2 : ∀ msg, x = .fault msg → ∀ h tk p oe vs od tp mt bt, Fr (outH S L news) L' h (fun y => if y = "fault" then some (.ref e) else m' y) → News (outH S L news) L' h (news ++ [p]) →
      W.InstAt h e oe 46 (some od) → findObj (Mine.hd.heap_39 w.params) 46 (some od) "rlp" = some (.value (.bytes b bt)) → oe.data = .fields vs → vs[0]? = some (.ref tp) → h.TupAt tp [.str msg mt] →
      wpAny (model prog w) (A.mark (some (.ref e))) (execs (b2 :: s2) (envOf name scope L' a cd)) (SuiteOk (outH S L news) L' news (fun q => q = p) s) (fun _ _ => False) { s with heap := h, toks := tk }) :
    wpAny (model prog w) A (noteFrame (.ref e) (envOf name scope L' a cd)) (fun _ s₂ => wpAny (model prog w) A (setFlight (.ref e) none) (fun _ s₃ =>
      wpAny (model prog w) A (handleBy (.ref e) (envOf name scope L' a cd) [.ExceptHandler (some (.Name "IndexError" p1)) none (b1 :: s1) p2, .ExceptHandler (some (.Name "DecodingError" p3)) (some "fault") (b2 :: s2) p4]) Q E s₃) E s₂) E s := by
  have n1 : KtsName (Mine.hd.heap_39 w.params) "IndexError" (.type "IndexError") := .inr ⟨by rfl, by decide +kernel, by decide⟩
  have n2 : KtsName (Mine.hd.heap_39 w.params) "DecodingError" (.ref 46) := .inl (by rfl)
  refine note_fly keen_is hfr rfl fl fun h' fl' => ?_
  obtain ⟨sl, F1, N1⟩ := En.fly fl'
  have ty : Looks (model prog w) h' (typeOf (.ref e)) (clsOf x) := by
    obtain ⟨oe, vs, a0, T, oT, ts, he, hd, h0, hp, _⟩ := fl'.traced
    have hc : oe.cls = (clsOf x) := by
      cases x with
      | index => exact hp
      | fault msg => exact hp.1
    rw [← hc]
    exact (Looks.ld he).andThen .now
  have Xh : (Mine.hd.heap_39 w.params).In h' := En.X₁.keeps F1.keep
  cases x with
  | index =>
    refine clause_hit (kts_name (s := { s with heap := h' }) n1 F1 En.X₁ (topRead_of En.T₁) ⟨exm_one Xh ty (by rfl), ?_⟩ hk hx1 (by decide))
    refine land_fly (s := { s with heap := h' }) keen_is fl' fun h2 fl2 => ?_
    obtain ⟨sl2, F2, N2⟩ := En.fly fl2
    refine wpAny_mono (k1 rfl h2 _ F2 N2) (fun f s₄ z => ?_) fun _ _ z => z
    obtain ⟨rfl, h4, tk, m4, p, rfl, F4, N4, rfl⟩ := z
    obtain ⟨F5, N5⟩ := En.endX F4 N4
    exact hQ h4 tk F5 N5
  | fault msg =>
    refine clause_miss (kts_name (s := { s with heap := h' }) n1 F1 En.X₁ (topRead_of En.T₁) ⟨exm_one Xh ty (by rfl), ?_⟩ hk hx1 (by decide))
    refine clause_hit_as (kts_name (s := { s with heap := h' }) n2 F1 En.X₁ (topRead_of En.T₁) ⟨exm_one Xh ty (by rfl), ?_⟩ hk hx2 (by decide))
    refine land_fly (s := { s with heap := h' }) keen_is fl' fun h2 fl2 => ?_
    obtain ⟨sl2, F2, N2⟩ := En.fly fl2
    refine wpAny_storeName_local hx3 F2.ns (fun h3 hn3 hs3 => ?_) (by show (scope.kind == .class || (scope.kind == .module && _)) = false; rw [hk]; rfl)
    obtain ⟨oe, vs, a0, T, oT, ts, he, hd, h0, ⟨hc, dx, tp, tk', bt, mt, sl3, sl4, hdx, rfl, h5, h6⟩, _⟩ := fl2.traced
    obtain ⟨oL', es', ep', hL', hLd', hLk', hLf'⟩ := F2.ns
    have neE : e ≠ L' := fun q => by rw [q, hL'] at he; cases he; rw [hLd'] at hd; cases hd
    have neT : tp ≠ L' := fun q => by rw [q, hL'] at h6; cases h6; cases hLd'
    have neD : dx ≠ L' := fun q => by
      rw [q, hL'] at h5
      cases h5
      obtain ⟨v, hv⟩ := hj
      have z := hLf' "junk"
      rw [hv] at z
      injection hLd' with y1 y2
      rw [← y1] at z
      have z2 : nsFind [(⟨PyData.keyHash w.params "rlp", .str "rlp" tk', .bytes b bt⟩ : DictEntry)].toArray "junk" = none := by rfl
      rw [z2] at z
      cases z
    have F3 : Fr (outH S L news) L' h3 (fun y => if y = "fault" then some (.ref e) else m' y) := F2.set hn3 hs3
    have N3 : News (outH S L news) L' h3 (news ++ [(L, { oL with slots := sl2 })]) := fun p hp => ⟨(hs3.2 _ (N2 p hp).2.1).trans (N2 p hp).1, (N2 p hp).2⟩
    have at3 : h3.get? e = some oe := (hs3.2 _ neE).trans he
    refine wpAny_mono (k2 msg rfl h3 _ _ oe vs { dictOf [⟨PyData.keyHash w.params "rlp", .str "rlp" tk', .bytes b bt⟩] 1 with slots := sl3 } tp mt bt F3 N3 ⟨at3, hc, by unfold notCls; rw [hd], ?_⟩ ?_ hd h0 ⟨_, _, (hs3.2 _ neT).trans h6, rfl, rfl⟩) (fun f s₄ z => ?_) fun _ _ z => z
    · rw [hdx]; exact (hs3.2 _ neD).trans h5
    · rfl
    · obtain ⟨rfl, h4, tk, m4, p, rfl, F4, N4, rfl⟩ := z
      refine wpAny_nameGoes hx3 F4.ns (by show (scope.kind == .class || (scope.kind == .module && _)) = false; rw [hk]; rfl) fun h5 m5 hn5 hs5 => ?_
      obtain ⟨F6, N6⟩ := En.endX (F4.set hn5 hs5) (fun p hp => ⟨(hs5.2 _ (N4 p hp).2.1).trans (N4 p hp).1, (N4 p hp).2⟩)
      exact hQ h5 _ F6 N6
end
end
end Mine
end Fit3
section Fits
set_option maxRecDepth 100000
namespace Mine
open PySem PySem.W PySem.Spec PySem.Calls PyProof.Rows
local macro_rules | `(tactic| walk_at "my enter") => `(tactic| (refine' code_def ?k1 ?k2 ?k3 ?k4 ?k5 ?kA ?kF ?kK ?k6 ?k7 ?k8 ?k9 ?kB ?_ ?c2 ?c3 ?c4 ?c5; (case kA => exact rfl); (case kF => exact rfl); (case kK => first | assumption | exact rfl); (case k1 => k_asm); (case k2 => k_asm); (case k3 => k_asm); (case k4 => k_asm); (case k5 => k_asm); (case k6 => k_is); (case k7 => k_is); (case k8 => ktr_room); (case k9 => exact BindsTo.of_eq rfl); (case c5 => decide); (case kB => exact locs rfl); (case c2 => exact rfl); (case c3 => exact rfl); (case c4 => exact rfl); k_whole; intro g' L' h' FG' F' N' B' X' T'; (try dsimp only); (try k_fold)))
local macro_rules | `(tactic| k_mem) => `(tactic| ((with_reducible show @List.Mem (Addr × Obj) _ (_ ++ _)); first | (refine List.mem_append.mpr (Or.inl ?_); k_mem) | (refine List.mem_append.mpr (Or.inr ?_); k_mem)))
local macro_rules | `(tactic| k_mem) => `(tactic| ((with_reducible show @List.Mem (Addr × Obj) _ _); (show Membership.mem (γ := List (Addr × Obj)) _ _); ktr_member))
local macro_rules | `(tactic| walk_at "my enterC") => `(tactic| (refine' code_defC ?k1 ?k2 ?k3 ?k4 ?k5 ?kA ?kF ?kK ?k6 ?k7 ?k8 ?k9 ?kB ?kD ?_ ?c2 ?c3 ?c4; (case kA => exact rfl); (case kF => exact rfl); (case kK => first | assumption | exact rfl); (case k1 => k_asm); (case k2 => k_asm); (case k3 => k_asm); (case k4 => k_asm); (case k5 => k_asm); (case k6 => k_is); (case k7 => k_is); (case k8 => ktr_room); (case k9 => exact BindsTo.of_eq rfl); (case kB => exact rfl); (case kD => decide +kernel); (case c2 => exact rfl); (case c3 => exact rfl); (case c4 => exact rfl); k_whole; intro g' L' h' tk' cells' FG' F' N' Y' B' X' T' l1; (try k_lt l1); k_cells Y'; (try simp only [List.cons_append, List.nil_append] at N'); (try dsimp only); (try k_fold)))

local macro_rules | `(tactic| k_mem) => `(tactic| ((with_reducible show @List.Mem (Addr × Obj) _ (_ ++ _)); with_reducible assumption))
local macro_rules | `(tactic| walk_at "exec Try") => `(tactic| (refine held ?_))
local macro_rules | `(tactic| walk_at "eval Name") => `(tactic| (k_here; k_dflt (refine' nameX_L ?F ?v ?_ ?a ?b; (case F => k_asm); (case a => rfl); (case b => rfl); (case v => assumption); k_whole)))
local macro_rules | `(tactic| walk_at "loadName") => `(tactic| (k_here; k_dflt (refine' ldn ?k1 ?k2 ?_; (case k1 => k_asm); (case k2 => first | exact rfl | assumption); k_whole)))
local macro_rules | `(tactic| walk_at "call ref") => `(tactic| (refine held ?_))
local macro_rules | `(tactic| walk_at "subscriptTail Name Constant ref int") => `(tactic| (k_here; (with_reducible show wpAny _ _ (subscriptTail _ _ (Value.ref _) (Value.int _ _)) _ _ _); k_dflt (refine' idx_tup ?k1 ?k2 ?k4 ?k5 ?k6 ?k8 ?_ ?k7; (case k1 => k_asm); (case k2 => k_mem); (case k4 => decide); (case k5 => decide); (case k6 => exact rfl); (case k8 => exact rfl); (case k7 => with_unfolding_all rfl); k_whole)))
local macro_rules | `(tactic| walk_at "call type:str") => `(tactic| (refine held ?_))
local macro_rules | `(tactic| walk_at "getAttr ref") => `(tactic| (refine held ?_))
/-- a call from the law's own frame -/
def DoesT (w : World) (f : Addr) (vs : List Value) (nd nu : Nat) (news : List (Addr × Obj)) (P : Value → Prop) : Prop :=
  ∀ (mean : ExcName → Option Value) (mg mb : Str → Option Value) (dp un : Nat) (gd : Option (List Code)) (cn : Str) (cs : Scope) (a : Addr) (ccd : Value) (cl : List (Str × Addr)) (A₀ : Around) (base h₀ : Heap) (L : Addr) (m : Str → Option Value) (s : Shared)
    (Q E : Value → Shared → Prop),
    Below A₀ base [] h₀ → Fr h₀ L s.heap m → (Mine.hd.heap_39 w.params).In h₀ → News h₀ L s.heap news → Top Vw Lo mean mg mb h₀ → cs.kind = .function →
    dp + nd < recursionLimit → un + nu < cLine →
    (∀ r h' tk', Fr h₀ L h' m → News h₀ L h' news → P r → Q r { s with heap := h', toks := tk' }) →
    wpAny (model PySem.Challenge.rw_ep5029_01.row.prog w) (ktrTop dp un gd cn cs L a ccd cl []) (call (.ref f) vs) Q E s

set_option maxHeartbeats 8000000 in
theorem fits0_does (w : World) (b : Array UInt8) (bt : Tok) (ks : List Int) (hbk : KBw.bInts b = ks) (hb : ks.length ≤ 200) (hin : ∀ x ∈ ks, 0 ≤ x ∧ x < 256) (k : Int) (kt ht : Tok) (hk0 : 0 ≤ k) (news : List (Addr × Obj)) (ah : Addr) (hhd : HeadTup news ah (headP ks k)) :
   DoesT w 108 [.bytes b bt, .ref ah, .int 0 ht, .int k kt, .ref ah] 300 1500 news (fun v => v = .bool true) := by
  unfold DoesT
  w_top off
  k_fill
  intro mean mg mb dp un gd cn cs a ccd cl A₀ base h₀ L m s Q E B F X N T hk hd hu hret
  refine wpAny_call ?_
  k_dflt (refine' enterF ?k1 ?k2 ?k3 ?k4 ?k5 ?kA ?kF ?kK ?k6 ?k7 ?k8 ?k9 ?kB ?_ ?c2 ?c3 ?c4 ?c5; (case kA => exact rfl); (case kF => exact rfl); (case kK => first | assumption | exact rfl); (case k1 => k_asm); (case k2 => k_asm); (case k3 => k_asm); (case k4 => k_asm); (case k5 => k_asm); (case k6 => k_is); (case k7 => k_is); (case k8 => ktr_room); (case k9 => exact BindsTo.of_eq rfl); (case c5 => decide); (case kB => exact locs rfl); (case c2 => exact rfl); (case c3 => exact rfl); (case c4 => exact rfl); k_whole; intro g' L' h' hg' hL' FS' F' N' B' X' T'; (try dsimp only); (try k_fold))
  obtain ⟨oL, En⟩ := ent_of F N X T hg' hL'
  clear FS'
  k_steps
  refine unheld (wpAny_Try_except ?_)
  k_steps
  refine unheld ?_
  (with_reducible rename Fr _ _ _ _ => F1)
  (with_reducible rename News _ _ _ _ => N1)
  have FS := En.back F1 N1
  k_dflt (refine' use_does (clp_does w b bt ks k kt hbk hb hk0 []) (En.below (A := ktrTop dp un gd cn cs L a ccd cl []) rfl rfl hk) FS En.XS (fun _ z => nomatch z) En.TS rfl ?kd ?ku ?kr ?kx)
  case kd => ktr_room
  case ku => ktr_units
  case kx =>
    intro x9 e9 h9 tk9 z9 fl9
    replace z9 : headP ks k = .error x9 := z9
    rw [z9] at hhd
    refine catch_two En rfl fl9 rfl rfl rfl rfl ⟨_, rfl⟩ ?_ ?_ ?_
    · intro h8 tk8 F8 N8
      exact hret _ _ _ F8 N8 rfl
    · rintro rfl h8 p8 F8 N8
      obtain ⟨t8, hhd⟩ := hhd
      have X8 := En.X₁
      have T8 := En.T₁
      k_steps
      exact ⟨rfl, _, _, _, _, rfl, F8, N8, rfl⟩
    · rintro msg rfl h8 tk8 p8 oe vs od tp mt bt8 F8 N8 I8 f8 hd8 hv8 ht8
      obtain ⟨t8, t8', hhd⟩ := hhd
      have X8 := En.X₁
      have T8 := En.T₁
      k_steps
      refine unheld (str_excE (K := Mine.hd.heap_39 w.params) (by ktr_units) (X8.keeps F8.keep) I8 (by rfl) (by rfl) hd8 hv8 ht8 ?_)
      k_steps
      · refine unheld (get_valueE (K := Mine.hd.heap_39 w.params) (X8.keeps F8.keep) I8 (by rfl) (by rfl) (by rfl) f8 rfl ?_)
        k_steps
        refine unheld (get_valueE (K := Mine.hd.heap_39 w.params) (X8.keeps F8.keep) I8 (by rfl) (by rfl) (by rfl) f8 rfl ?_)
        k_steps
        exact ⟨by simp, _, _, _, _, rfl, F8, N8, rfl⟩
      · exact ⟨by simp, _, _, _, _, rfl, F8, N8, rfl⟩
  case kr =>
    intro r9 tl9 h9 tk9 F9 N9 o9 ret9
    obtain ⟨F10, N10⟩ := En.forth F9 N9
    clear F1 N1 F9 N9 FS
    obtain ⟨⟨pre, lst, size, pos⟩, eh9, a9, pb9, pt9, st9, ot9, rfl, mem9, epb9⟩ := ret9
    rw [eh9] at hhd
    obtain ⟨t5, pb, pt, st5, ot5, hhd, hpb⟩ := hhd
    dsimp only at epb9 hpb
    obtain rfl := bytes_of_ints (epb9.trans hpb.symm)
    cases lst
    all_goals
      simp only [kindV] at mem9 hhd
      (try dsimp only)
      (try k_fold)
      k_steps
      refine unheld ?_
      (with_reducible rename Fr _ _ _ _ => F11)
      (with_reducible rename News _ _ _ _ => N11)
      k_dflt (refine' use_does (alike_leaf w b _ 0 pb9 pt9 pt) B' F11 X' N11 T' rfl ?kd ?ku ?kr ?kx)
      case kd => ktr_room
      case ku => ktr_units
      case kx => exact fun _ _ _ _ z => z.elim
      case kr =>
        intro r8 tl8 h8 tk8 F12 N12 o12 ret8
        obtain rfl : r8 = .bool true := ret8
        (try dsimp only)
        (try k_fold)
        k_steps
        all_goals
          have ez := En.endN (tl := []) F12 (by rw [List.append_nil]; exact news_drop (news_drop N12))
          exact endF (hret _ _ _ ez.1 ez.2 (by simp))
end Mine
end Fits
section FitsB
set_option maxRecDepth 100000
namespace Mine
open PySem PySem.W PySem.Spec PySem.Calls PyProof.Rows
local macro_rules | `(tactic| walk_at "pad") => `(tactic| skip)
local macro_rules | `(tactic| walk_at "my enter") => `(tactic| (refine' code_def ?k1 ?k2 ?k3 ?k4 ?k5 ?kA ?kF ?kK ?k6 ?k7 ?k8 ?k9 ?kB ?_ ?c2 ?c3 ?c4 ?c5; (case kA => exact rfl); (case kF => exact rfl); (case kK => first | assumption | exact rfl); (case k1 => k_asm); (case k2 => k_asm); (case k3 => k_asm); (case k4 => k_asm); (case k5 => k_asm); (case k6 => k_is); (case k7 => k_is); (case k8 => ktr_room); (case k9 => exact BindsTo.of_eq rfl); (case c5 => decide); (case kB => exact locs rfl); (case c2 => exact rfl); (case c3 => exact rfl); (case c4 => exact rfl); k_whole; intro g' L' h' FG' F' N' B' X' T'; (try dsimp only); (try k_fold)))
local macro_rules | `(tactic| k_mem) => `(tactic| ((with_reducible show @List.Mem (Addr × Obj) _ (_ ++ _)); first | (refine List.mem_append.mpr (Or.inl ?_); k_mem) | (refine List.mem_append.mpr (Or.inr ?_); k_mem)))
local macro_rules | `(tactic| k_mem) => `(tactic| ((with_reducible show @List.Mem (Addr × Obj) _ _); (show Membership.mem (γ := List (Addr × Obj)) _ _); ktr_member))
local macro_rules | `(tactic| walk_at "my enterC") => `(tactic| (refine' code_defC ?k1 ?k2 ?k3 ?k4 ?k5 ?kA ?kF ?kK ?k6 ?k7 ?k8 ?k9 ?kB ?kD ?_ ?c2 ?c3 ?c4; (case kA => exact rfl); (case kF => exact rfl); (case kK => first | assumption | exact rfl); (case k1 => k_asm); (case k2 => k_asm); (case k3 => k_asm); (case k4 => k_asm); (case k5 => k_asm); (case k6 => k_is); (case k7 => k_is); (case k8 => ktr_room); (case k9 => exact BindsTo.of_eq rfl); (case kB => exact rfl); (case kD => decide +kernel); (case c2 => exact rfl); (case c3 => exact rfl); (case c4 => exact rfl); k_whole; intro g' L' h' tk' cells' FG' F' N' Y' B' X' T' l1; (try k_lt l1); k_cells Y'; (try simp only [List.cons_append, List.nil_append] at N'); (try dsimp only); (try k_fold)))

local macro_rules | `(tactic| k_mem) => `(tactic| ((with_reducible show @List.Mem (Addr × Obj) _ (_ ++ _)); with_reducible assumption))
local macro_rules | `(tactic| walk_at "exec Try") => `(tactic| (refine held ?_))
local macro_rules | `(tactic| walk_at "eval Name") => `(tactic| (k_here; k_dflt (refine' nameX_L ?F ?v ?_ ?a ?b; (case F => k_asm); (case a => rfl); (case b => rfl); (case v => assumption); k_whole)))
local macro_rules | `(tactic| walk_at "loadName") => `(tactic| (k_here; k_dflt (refine' ldn ?k1 ?k2 ?_; (case k1 => k_asm); (case k2 => first | exact rfl | assumption); k_whole)))
local macro_rules | `(tactic| walk_at "call ref") => `(tactic| (refine held ?_))
local macro_rules | `(tactic| walk_at "subscriptTail Name Constant ref int") => `(tactic| (k_here; (with_reducible show wpAny _ _ (subscriptTail _ _ (Value.ref _) (Value.int _ _)) _ _ _); k_dflt (refine' idx_tup ?k1 ?k2 ?k4 ?k5 ?k6 ?k8 ?_ ?k7; (case k1 => k_asm); (case k2 => k_mem); (case k4 => decide); (case k5 => decide); (case k6 => exact rfl); (case k8 => exact rfl); (case k7 => with_unfolding_all rfl); k_whole)))
local macro_rules | `(tactic| walk_at "call type:str") => `(tactic| (refine held ?_))
local macro_rules | `(tactic| walk_at "getAttr ref") => `(tactic| (refine held ?_))
def WantIs (n : List (Addr × Obj)) (a : Addr) (r : Option Res) : Prop :=
  (∃ x, r = some (.error x) ∧ HeadTup n a (.error x)) ∨
   (∃ it rl nx v1 a2 t t', r = some (.ok (it, rl, nx)) ∧ (a, ({ cls := .type "tuple", data := .seq #[.str "ok" t', v1, .ref a2, .int nx t] } : Obj)) ∈ n ∧ TrIn n v1 it ∧ TrIn n (.ref a2) rl)
set_option maxHeartbeats 8000000 in
theorem fits1_does (w : World) (b : Array UInt8) (bt : Tok) (ks : List Int) (hbk : KBw.bInts b = ks) (hb : ks.length ≤ 200) (hin : ∀ x ∈ ks, 0 ≤ x ∧ x < 256) (k : Int) (kt ht : Tok) (hk0 : 0 ≤ k) (news : List (Addr × Obj)) (aw ah : Addr) (hw : WantIs news aw (itemP ks k)) :
   DoesT w 108 [.bytes b bt, .ref aw, .int 1 ht, .int k kt, .ref ah] 300 1500 news (fun v => v = .bool true) := by
  unfold DoesT
  w_top off
  k_fill
  intro mean mg mb dp un gd cn cs a ccd cl A₀ base h₀ L m s Q E B F X N T hk hd hu hret
  refine wpAny_call ?_
  k_dflt (refine' enterF ?k1 ?k2 ?k3 ?k4 ?k5 ?kA ?kF ?kK ?k6 ?k7 ?k8 ?k9 ?kB ?_ ?c2 ?c3 ?c4 ?c5; (case kA => exact rfl); (case kF => exact rfl); (case kK => first | assumption | exact rfl); (case k1 => k_asm); (case k2 => k_asm); (case k3 => k_asm); (case k4 => k_asm); (case k5 => k_asm); (case k6 => k_is); (case k7 => k_is); (case k8 => ktr_room); (case k9 => exact BindsTo.of_eq rfl); (case c5 => decide); (case kB => exact locs rfl); (case c2 => exact rfl); (case c3 => exact rfl); (case c4 => exact rfl); k_whole; intro g' L' h' hg' hL' FS' F' N' B' X' T'; (try dsimp only); (try k_fold))
  obtain ⟨oL, En⟩ := ent_of F N X T hg' hL'
  clear FS'
  k_steps
  refine unheld (wpAny_Try_except ?_)
  k_steps
  refine unheld ?_
  (with_reducible rename Fr _ _ _ _ => F1)
  (with_reducible rename News _ _ _ _ => N1)
  have FS := En.back F1 N1
  k_dflt (refine' use_does (item_does w b bt ks hbk hb hin k kt hk0 []) (En.below (A := ktrTop dp un gd cn cs L a ccd cl []) rfl rfl hk) FS En.XS (fun _ z => nomatch z) En.TS rfl ?kd ?ku ?kr ?kx)
  case kd => ktr_room
  case ku => ktr_units
  case kx =>
    intro x9 e9 h9 tk9 z9 fl9
    replace z9 : itemP ks k = some (.error x9) := z9
    rw [z9] at hw
    rcases hw with ⟨x, e8, hhd⟩ | ⟨_, _, _, _, _, _, _, e8, _⟩
    rotate_left
    · simp at e8
    obtain rfl : x9 = x := by simpa using e8
    refine catch_two En rfl fl9 rfl rfl rfl rfl ⟨_, rfl⟩ ?_ ?_ ?_
    · intro h8 tk8 F8 N8
      exact hret _ _ _ F8 N8 rfl
    · rintro rfl h8 p8 F8 N8
      obtain ⟨t8, hhd⟩ := hhd
      have X8 := En.X₁
      have T8 := En.T₁
      k_steps
      exact ⟨rfl, _, _, _, _, rfl, F8, N8, rfl⟩
    · rintro msg rfl h8 tk8 p8 oe vs od tp mt bt8 F8 N8 I8 f8 hd8 hv8 ht8
      obtain ⟨t8, t8', hhd⟩ := hhd
      have X8 := En.X₁
      have T8 := En.T₁
      k_steps
      refine unheld (str_excE (K := Mine.hd.heap_39 w.params) (by ktr_units) (X8.keeps F8.keep) I8 (by rfl) (by rfl) hd8 hv8 ht8 ?_)
      k_steps
      · refine unheld (get_valueE (K := Mine.hd.heap_39 w.params) (X8.keeps F8.keep) I8 (by rfl) (by rfl) (by rfl) f8 rfl ?_)
        k_steps
        refine unheld (get_valueE (K := Mine.hd.heap_39 w.params) (X8.keeps F8.keep) I8 (by rfl) (by rfl) (by rfl) f8 rfl ?_)
        k_steps
        exact ⟨by simp, _, _, _, _, rfl, F8, N8, rfl⟩
      · exact ⟨by simp, _, _, _, _, rfl, F8, N8, rfl⟩
  case kr =>
    intro r9 tl9 h9 tk9 F9 N9 o9 ret9
    obtain ⟨F10, N10⟩ := En.forth F9 N9
    rw [List.nil_append] at N10
    clear F1 N1 F9 N9 FS
    obtain ⟨it9, bd9, rls9, nx9, ep9, a9, v9, a29, bb9, tb9, vs9, epo9, t9, rfl, m9, ti9, m29, hb9, ts9, _⟩ := ret9.choose_spec.2
    have ei : itemP ks k = some (.ok (it9, .node (.leaf bd9 :: rls9), nx9)) := by unfold itemP; rw [ret9.choose_spec.1]; exact ep9
    obtain ⟨ok1, ok2⟩ := item_ok hb hin hk0 ei
    rw [ei] at hw
    rcases hw with ⟨x, e8, _⟩ | ⟨it, rl, nx, v1, a2, t, t', e8, mw, T1, T2⟩
    · simp at e8
    obtain ⟨rfl, rfl, rfl⟩ : it9 = it ∧ .node (.leaf bd9 :: rls9) = rl ∧ nx9 = nx := by simpa using e8
    have T3 : TrIn tl9 (.ref a29) (.node (.leaf bd9 :: rls9)) := .node m29 (.cons (.leaf hb9) ts9)
    (try dsimp only)
    (try k_fold)
    k_steps
    refine unheld ?_
    (with_reducible rename Fr _ _ _ _ => F11)
    (with_reducible rename News _ _ _ _ => N11)
    k_dflt (refine' use_does (alike_does w b 201 _ _ _ _ ok1 (ti9.mono fun p hp => List.mem_append.mpr (.inr hp)) (T1.mono fun p hp => List.mem_append.mpr (.inl hp))) B' F11 X' N11 T' rfl ?kd ?ku ?kr ?kx)
    case kd => ktr_room
    case ku => ktr_units
    case kx => exact fun _ _ _ _ z => z.elim
    case kr =>
      intro r8 tl8 h8 tk8 F12 N12 o12 ret8
      obtain rfl : r8 = .bool true := ret8
      replace N12 := news_drop N12
      clear F11 N11
      (try dsimp only)
      (try k_fold)
      k_steps
      refine unheld ?_
      (with_reducible rename Fr _ _ _ _ => F13)
      (with_reducible rename News _ _ _ _ => N13)
      k_dflt (refine' use_does (alike_does w b 201 _ _ _ _ ok2 (T3.mono fun p hp => List.mem_append.mpr (.inr hp)) (T2.mono fun p hp => List.mem_append.mpr (.inl hp))) B' F13 X' N13 T' rfl ?kd ?ku ?kr ?kx)
      case kd => ktr_room
      case ku => ktr_units
      case kx => exact fun _ _ _ _ z => z.elim
      case kr =>
        intro r7 tl7 h7 tk7 F14 N14 o14 ret7
        obtain rfl : r7 = .bool true := ret7
        replace N14 := news_drop N14
        (try dsimp only)
        (try k_fold)
        k_steps
        all_goals
          have ez := En.endN F14 N14
          exact endF (hret _ _ _ ez.1 ez.2 (by simp))
set_option maxHeartbeats 8000000 in
theorem fits2_does (w : World) (b : Array UInt8) (bt : Tok) (ks : List Int) (hbk : KBw.bInts b = ks) (hb : ks.length ≤ 200) (hin : ∀ x ∈ ks, 0 ≤ x ∧ x < 256) (k : Int) (kt ht : Tok) (hk0 : 0 ≤ k) (news : List (Addr × Obj)) (aw ah : Addr) (hw : WantIs news aw (itemP ks k)) (h : Hd) (eh : headP ks k = .ok h) (hhd : HeadTup news ah (.ok h)) :
   DoesT w 108 [.bytes b bt, .ref aw, .int 2 ht, .int k kt, .ref ah] 300 1500 news (fun v => v = .bool true) := by
  unfold DoesT
  k_fill
  intro mean mg mb dp un gd cn cs a ccd cl A₀ base h₀ L m s Q E B F X N T hk hd hu hret
  refine wpAny_call ?_
  k_dflt (refine' enterF ?k1 ?k2 ?k3 ?k4 ?k5 ?kA ?kF ?kK ?k6 ?k7 ?k8 ?k9 ?kB ?_ ?c2 ?c3 ?c4 ?c5; (case kA => exact rfl); (case kF => exact rfl); (case kK => first | assumption | exact rfl); (case k1 => k_asm); (case k2 => k_asm); (case k3 => k_asm); (case k4 => k_asm); (case k5 => k_asm); (case k6 => k_is); (case k7 => k_is); (case k8 => ktr_room); (case k9 => exact BindsTo.of_eq rfl); (case c5 => decide); (case kB => exact locs rfl); (case c2 => exact rfl); (case c3 => exact rfl); (case c4 => exact rfl); k_whole; intro g' L' h' hg' hL' FS' F' N' B' X' T'; (try dsimp only); (try k_fold))
  obtain ⟨oL, En⟩ := ent_of F N X T hg' hL'
  clear FS'
  k_steps
  refine unheld (wpAny_Try_except ?_)
  have ho := headP_ok hk0 hin eh
  have hneed : need ks h ≤ 212 := by
    unfold need
    have z1 := ho.kp
    split <;> omega
  obtain ⟨t5, pb, pt, st5, ot5, hhd, hpb⟩ := hhd
  k_steps
  refine unheld ?_
  (with_reducible rename Fr _ _ _ _ => F1)
  (with_reducible rename News _ _ _ _ => N1)
  have FS := En.back F1 N1
  k_dflt (refine' use_does (pay_does w b bt ks hbk hb hin _ k h ho (Nat.le_refl _) pb pt ot5 st5 hpb []) (En.below (A := ktrTop dp un gd cn cs L a ccd cl []) rfl rfl hk) FS En.XS (fun _ z => nomatch z) En.TS rfl ?kd ?ku ?kr ?kx)
  case kd => show dp + 1 + need ks h < recursionLimit; omega
  case ku => show un + 3 + (4 * need ks h + 100) < cLine; omega
  case kx =>
    intro x9 e9 h9 tk9 z9 fl9
    replace z9 : itemP ks k = some (.error x9) := by unfold itemP; rw [eh]; exact z9
    rw [z9] at hw
    rcases hw with ⟨x, e8, hhd⟩ | ⟨_, _, _, _, _, _, _, e8, _⟩
    rotate_left
    · simp at e8
    obtain rfl : x9 = x := by simpa using e8
    refine catch_two En rfl fl9 rfl rfl rfl rfl ⟨_, rfl⟩ ?_ ?_ ?_
    · intro h8 tk8 F8 N8
      exact hret _ _ _ F8 N8 rfl
    · rintro rfl h8 p8 F8 N8
      obtain ⟨t8, hhd⟩ := hhd
      have X8 := En.X₁
      have T8 := En.T₁
      k_steps
      exact ⟨rfl, _, _, _, _, rfl, F8, N8, rfl⟩
    · rintro msg rfl h8 tk8 p8 oe vs od tp mt bt8 F8 N8 I8 f8 hd8 hv8 ht8
      obtain ⟨t8, t8', hhd⟩ := hhd
      have X8 := En.X₁
      have T8 := En.T₁
      k_steps
      refine unheld (str_excE (K := Mine.hd.heap_39 w.params) (by ktr_units) (X8.keeps F8.keep) I8 (by rfl) (by rfl) hd8 hv8 ht8 ?_)
      k_steps
      · refine unheld (get_valueE (K := Mine.hd.heap_39 w.params) (X8.keeps F8.keep) I8 (by rfl) (by rfl) (by rfl) f8 rfl ?_)
        k_steps
        refine unheld (get_valueE (K := Mine.hd.heap_39 w.params) (X8.keeps F8.keep) I8 (by rfl) (by rfl) (by rfl) f8 rfl ?_)
        k_steps
        exact ⟨by simp, _, _, _, _, rfl, F8, N8, rfl⟩
      · exact ⟨by simp, _, _, _, _, rfl, F8, N8, rfl⟩
  case kr =>
    intro r9 tl9 h9 tk9 F9 N9 o9 ret9
    obtain ⟨F10, N10⟩ := En.forth F9 N9
    rw [List.nil_append] at N10
    clear F1 N1 F9 N9 FS
    obtain ⟨it9, bd9, rls9, nx9, ep9, a9, v9, a29, bb9, tb9, vs9, epo9, t9, rfl, m9, ti9, m29, hb9, ts9, _⟩ := ret9
    have ei : itemP ks k = some (.ok (it9, .node (.leaf bd9 :: rls9), nx9)) := by unfold itemP; rw [eh]; exact ep9
    obtain ⟨ok1, ok2⟩ := item_ok hb hin hk0 ei
    rw [ei] at hw
    rcases hw with ⟨x, e8, _⟩ | ⟨it, rl, nx, v1, a2, t, t', e8, mw, T1, T2⟩
    · simp at e8
    obtain ⟨rfl, rfl, rfl⟩ : it9 = it ∧ .node (.leaf bd9 :: rls9) = rl ∧ nx9 = nx := by simpa using e8
    have T3 : TrIn tl9 (.ref a29) (.node (.leaf bd9 :: rls9)) := .node m29 (.cons (.leaf hb9) ts9)
    (try dsimp only)
    (try k_fold)
    k_steps
    refine unheld ?_
    (with_reducible rename Fr _ _ _ _ => F11)
    (with_reducible rename News _ _ _ _ => N11)
    k_dflt (refine' use_does (alike_does w b 201 _ _ _ _ ok1 (ti9.mono fun p hp => List.mem_append.mpr (.inr hp)) (T1.mono fun p hp => List.mem_append.mpr (.inl hp))) B' F11 X' N11 T' rfl ?kd ?ku ?kr ?kx)
    case kd => ktr_room
    case ku => ktr_units
    case kx => exact fun _ _ _ _ z => z.elim
    case kr =>
      intro r8 tl8 h8 tk8 F12 N12 o12 ret8
      obtain rfl : r8 = .bool true := ret8
      replace N12 := news_drop N12
      clear F11 N11
      (try dsimp only)
      (try k_fold)
      k_steps
      refine unheld ?_
      (with_reducible rename Fr _ _ _ _ => F13)
      (with_reducible rename News _ _ _ _ => N13)
      k_dflt (refine' use_does (alike_does w b 201 _ _ _ _ ok2 (T3.mono fun p hp => List.mem_append.mpr (.inr hp)) (T2.mono fun p hp => List.mem_append.mpr (.inl hp))) B' F13 X' N13 T' rfl ?kd ?ku ?kr ?kx)
      case kd => ktr_room
      case ku => ktr_units
      case kx => exact fun _ _ _ _ z => z.elim
      case kr =>
        intro r7 tl7 h7 tk7 F14 N14 o14 ret7
        obtain rfl : r7 = .bool true := ret7
        replace N14 := news_drop N14
        (try dsimp only)
        (try k_fold)
        k_steps
        all_goals
          have ez := En.endN F14 N14
          exact endF (hret _ _ _ ez.1 ez.2 (by simp))
end Mine
end FitsB
section Junk
set_option maxRecDepth 100000
namespace Mine
open PySem PySem.W PySem.Spec PySem.Calls PyProof.Rows
local macro_rules | `(tactic| walk_at "my enter") => `(tactic| (refine' code_def ?k1 ?k2 ?k3 ?k4 ?k5 ?kA ?kF ?kK ?k6 ?k7 ?k8 ?k9 ?kB ?_ ?c2 ?c3 ?c4 ?c5; (case kA => exact rfl); (case kF => exact rfl); (case kK => first | assumption | exact rfl); (case k1 => k_asm); (case k2 => k_asm); (case k3 => k_asm); (case k4 => k_asm); (case k5 => k_asm); (case k6 => k_is); (case k7 => k_is); (case k8 => ktr_room); (case k9 => exact BindsTo.of_eq rfl); (case c5 => decide); (case kB => exact locs rfl); (case c2 => exact rfl); (case c3 => exact rfl); (case c4 => exact rfl); k_whole; intro g' L' h' FG' F' N' B' X' T'; (try dsimp only); (try k_fold)))
local macro_rules | `(tactic| k_mem) => `(tactic| ((with_reducible show @List.Mem (Addr × Obj) _ (_ ++ _)); first | (refine List.mem_append.mpr (Or.inl ?_); k_mem) | (refine List.mem_append.mpr (Or.inr ?_); k_mem)))
local macro_rules | `(tactic| k_mem) => `(tactic| ((with_reducible show @List.Mem (Addr × Obj) _ _); (show Membership.mem (γ := List (Addr × Obj)) _ _); ktr_member))
local macro_rules | `(tactic| walk_at "my enterC") => `(tactic| (refine' code_defC ?k1 ?k2 ?k3 ?k4 ?k5 ?kA ?kF ?kK ?k6 ?k7 ?k8 ?k9 ?kB ?kD ?_ ?c2 ?c3 ?c4; (case kA => exact rfl); (case kF => exact rfl); (case kK => first | assumption | exact rfl); (case k1 => k_asm); (case k2 => k_asm); (case k3 => k_asm); (case k4 => k_asm); (case k5 => k_asm); (case k6 => k_is); (case k7 => k_is); (case k8 => ktr_room); (case k9 => exact BindsTo.of_eq rfl); (case kB => exact rfl); (case kD => decide +kernel); (case c2 => exact rfl); (case c3 => exact rfl); (case c4 => exact rfl); k_whole; intro g' L' h' tk' cells' FG' F' N' Y' B' X' T' l1; (try k_lt l1); k_cells Y'; (try simp only [List.cons_append, List.nil_append] at N'); (try dsimp only); (try k_fold)))

local macro_rules | `(tactic| walk_at "pyIter ref") => `(tactic| (refine held ?_))
local macro_rules | `(tactic| walk_at "exec For Name Subscript cons nil") => `(tactic| (refine held ?_))
local macro_rules | `(tactic| walk_at "eval Name") => `(tactic| (k_here; k_dflt (refine' nameX_L ?F ?v ?_ ?a ?b; (case F => k_asm); (case a => rfl); (case b => rfl); (case v => assumption); k_whole)))
local macro_rules | `(tactic| walk_at "loadName") => `(tactic| (k_here; k_dflt (refine' ldn ?k1 ?k2 ?_; (case k1 => k_asm); (case k2 => first | exact rfl | assumption); k_whole)))
theorem ints_one (X : Int) (t : Tok) : IntsAre [Value.int X t] [X] := .cons _ _ .nil
theorem in_one {X : Int} (h : 0 ≤ X ∧ X < 256) : KBa.In [X] := fun x hx => by rw [List.mem_singleton.mp hx]; exact h
theorem mul_one {prog : Program} {w : World} {A : Around} {E : Value → Shared → Prop} {s : Shared} {X n : Int} {t u : Tok} {Q : Value → Shared → Prop} (hX : 0 ≤ X ∧ X < 256) (h0 : 0 ≤ n) (h1 : n ≤ 1048576) (h : ∀ d t' k, KBw.bInts d = List.replicate n.toNat X → Q (.bytes d t') { s with toks := k }) :
    wpAny (model prog w) A (binaryOp .Mult (.bytes (byteArr [X]) t) (.int n u)) Q E s := by
  have e : byteArr [X] = [X.toNat.toUInt8].toArray := rfl
  rw [e]
  refine bytes_mul_any (List.cons_ne_nil _ _) (by omega) h1 (by simp) fun t' k => h _ t' k ?_
  have hc := KBa.ints_make (in_one hX)
  rw [e] at hc
  have hc' : ((X.toNat.toUInt8.toNat : Nat) : Int) = X := by
    have := List.head_eq_of_cons_eq (show ((X.toNat.toUInt8.toNat : Nat) : Int) :: [] = X :: [] from hc)
    exact this
  unfold KBw.bInts
  rw [List.flatten_replicate_singleton, List.toList_toArray, List.map_replicate, hc']
def JunkRet (v : Value) : Prop := ∃ c ct, v = .bytes c ct ∧ (KBw.bInts c).length ≤ 12
def DoesJ (w : World) (f : Addr) (l : Addr) (vs : List Value) (nd nu : Nat) (P : Value → Prop) : Prop :=
  ∀ (mean : ExcName → Option Value) (mg mb : Str → Option Value) (dp un : Nat) (gd : Option (List Code)) (cn : Str) (cs : Scope) (a : Addr) (ccd : Value) (cl : List (Str × Addr)) (outer : List Env) (A₀ : Around) (base h₀ : Heap) (L : Addr) (m : Str → Option Value) (s : Shared)
    (Q E : Value → Shared → Prop) (news : List (Addr × Obj)),
    Below A₀ base outer h₀ → Fr h₀ L s.heap m → (Mine.hd.heap_39 w.params).In h₀ → News h₀ L s.heap news → Top Vw Lo mean mg mb h₀ → cs.kind = .function → h₀.IsList l vs.toArray →
    dp + nd < recursionLimit → un + nu < cLine →
    (∀ r h' tk', Fr h₀ L h' m → News h₀ L h' news → P r → Q r { s with heap := h', toks := tk' }) →
    wpAny (model PySem.Challenge.rw_ep5029_01.row.prog w) (ktrTop dp un gd cn cs L a ccd cl outer) (call (.ref f) [.ref l]) Q E s
set_option maxHeartbeats 8000000 in
theorem junk_does (w : World) (l : Addr) (vs : List Value) (ns : List Int) (hi : IntsAre vs ns) (hlen : ns.length ≤ 63) :
   DoesJ w 84 l vs 10 100 JunkRet := by
  unfold DoesJ
  w_top off
  k_fill
  intro mean mg mb dp un gd cn cs a ccd cl outer A₀ base h₀ L m s Q E news B F X N T hk hl hd hu hret
  refine wpAny_call ?_
  k_dflt (refine' code_def ?k1 ?k2 ?k3 ?k4 ?k5 ?kA ?kF ?kK ?k6 ?k7 ?k8 ?k9 ?kB ?_ ?c2 ?c3 ?c4 ?c5; (case kA => exact rfl); (case kF => exact rfl); (case kK => first | assumption | exact rfl); (case k1 => k_asm); (case k2 => k_asm); (case k3 => k_asm); (case k4 => k_asm); (case k5 => k_asm); (case k6 => k_is); (case k7 => k_is); (case k8 => ktr_room); (case k9 => exact BindsTo.of_eq rfl); (case c5 => decide); (case kB => exact locs rfl); (case c2 => exact rfl); (case c3 => exact rfl); (case c4 => exact rfl); k_whole; intro g' L' h' FG' F' N' B' X' T'; (try dsimp only); (try k_fold))
  have hl' : g'.IsList l vs.toArray := hl.at (fun o e => FG'.keep _ _ e)
  k_steps
  refine unheld ?_
  (with_reducible rename Fr _ _ _ _ => F4)
  obtain ⟨m₀, hm₀, F4⟩ : ∃ m₀, m₀ = _ ∧ Fr _ _ _ m₀ := ⟨_, rfl, F4⟩
  have e1 : m₀ "script" = some (.ref l) := by rw [hm₀]; rfl
  obtain ⟨t2, e2⟩ : ∃ t, m₀ "found" = some (.bytes #[] t) := ⟨_, by rw [hm₀]; rfl⟩
  clear hm₀
  refine For_invVF F4 rfl rfl ?_
  k_steps
  refine unheld ?_
  (with_reducible rename Fr _ _ _ _ => F5)
  (with_reducible rename News _ _ _ _ => N5)
  (rename IntsAre _ (List.take 8 ns) => hI5)
  refine iter_vals (fun i m => (∃ c ct, m "found" = some (.bytes c ct) ∧ (KBw.bInts c).length ≤ 2 * i) ∧ ∀ y : Str, y ≠ "found" → y ≠ "n" → m y = m₀ y) rfl (.head _) F5 N5 ⟨⟨_, _, e2, Nat.le_refl _⟩, fun _ _ _ => rfl⟩ ?_ ?_
  · intro i v m₁ h tk lg' hv hsub hJ F6 N6
    obtain ⟨⟨c, ct, e3, hc⟩, hm⟩ := hJ
    have hi8 : i < (List.take 8 ns).length := by rw [← hI5.length]; exact (List.getElem?_eq_some_iff.mp hv).1
    obtain ⟨tn, hn⟩ := hI5.get i _ (List.getElem?_eq_getElem hi8)
    obtain rfl : v = .int _ tn := Option.some.inj (hv.symm.trans hn)
    generalize (List.take 8 ns)[i] = n at *
    have hi7 : i < 8 := by rw [List.length_take] at hi8; omega
    obtain ⟨kc, hkc⟩ : ∃ kc, KBw.bInts c = kc := ⟨_, rfl⟩
    rw [hkc] at hc
    k_steps
    (with_reducible rename Fr _ _ _ _ => F7)
    (with_reducible rename News _ _ _ _ => N7)
    k_here
    have tin := fun j => @KBw.getD_in [0, 1, 5, 56, 127, 128, 129, 130, 131, 183, 184, 185, 191, 192, 193, 194, 195, 196, 247, 248, 249, 255] j (by decide)
    k_dflt (refine KBa.make_K F7 N7 rfl (list_of (vs := [_]) N7 (.head _)) (ints_one _ _) (in_one (tin _)) (by simp) ?_)
    intro h7 t7' k7 F8 N8 hIn
    have hpb := KBa.ints_make hIn
    (try dsimp only)
    (try k_fold)
    k_steps
    k_here
    have p0 : 0 ≤ (n.fdiv 22).fmod 2 := Int.fmod_nonneg_of_pos _ (by decide)
    have p1 : (n.fdiv 22).fmod 2 < 2 := Int.fmod_lt_of_pos _ (by decide)
    refine mul_one (tin _) (by omega) (by omega) fun d9 t9 k9 hd9 => ?_
    (try dsimp only)
    (try k_fold)
    have hl9 : (KBw.bInts d9).length ≤ 2 := by rw [hd9, List.length_replicate]; omega
    clear hd9 p0 p1
    obtain ⟨kd, hkd⟩ : ∃ kd, KBw.bInts d9 = kd := ⟨_, rfl⟩
    rw [hkd] at hl9
    k_steps
    (rename KBw.bInts (c ++ _) = _ => app7)
    refine turn_next ⟨_, _, _, rfl, by assumption, ?_, ⟨_, _, rfl, ?_⟩, ?_⟩
    · exact fun p hp => (by assumption : News _ _ _ (_ :: lg')) p (.tail _ hp)
    · rw [app7, List.length_append]; omega
    · intro y h1 h2
      show (if y = "found" then _ else if y = "n" then _ else m₁ y) = _
      rw [if_neg h1, if_neg h2]; exact hm y h1 h2
  · intro m₁ h tk hJ F6 N6
    obtain ⟨⟨c, ct, e3, hc⟩, hm⟩ := hJ
    obtain ⟨kc, hkc⟩ : ∃ kc, KBw.bInts c = kc := ⟨_, rfl⟩
    have hlen5 := hI5.length
    rw [List.length_take] at hlen5
    rw [hkc] at hc
    k_steps
    (rename KBw.bInts (KBy.picked c _ _) = _ => cut7)
    refine hret _ _ _ (by assumption) ?_ ⟨_, _, rfl, ?_⟩
    · exact fun p hp => (by assumption : News h₀ L _ (_ :: news)) p (.tail _ hp)
    · rw [cut7, List.length_take]
      show min (clipAt kc.length 12) kc.length ≤ 12
      rw [clip_of (by decide)]
      show min (min 12 _) _ ≤ 12
      omega
end Mine
end Junk
section Plain
set_option maxRecDepth 100000
namespace Mine
open PySem PySem.W PySem.Spec PySem.Calls PyProof.Rows
def wholeKs : List Int := [200, 131, 97, 98, 99, 192, 129, 128, 5]
def wholeIt : Tr := .node [.leaf [97, 98, 99], .node [], .leaf [128], .leaf [5]]
def wholeRl : Tr := .node [.leaf wholeKs, .node [.leaf [131, 97, 98, 99]], .node [.leaf [192]], .node [.leaf [129, 128]], .node [.leaf [5]]]
theorem whole_item {ks : List Int} {d : Int} (h0 : 0 ≤ d) (hl : d + 9 ≤ ks.length) (g0 : ks.getD d.toNat 0 = 200) (g1 : ks.getD (d + 1).toNat 0 = 131) (g2 : ks.getD (d + 2).toNat 0 = 97) (g3 : ks.getD (d + 3).toNat 0 = 98) (g4 : ks.getD (d + 4).toNat 0 = 99)
    (g5 : ks.getD (d + 5).toNat 0 = 192) (g6 : ks.getD (d + 6).toNat 0 = 129) (g7 : ks.getD (d + 7).toNat 0 = 128) (g8 : ks.getD (d + 8).toNat 0 = 5) : itemP ks d = some (.ok (wholeIt, wholeRl, d + 9)) := by
  have e0 : headP ks d = .ok ⟨[200], true, 8, d + 1⟩ := by rw [headP_l h0 (by omega) (by omega) (by omega), g0]; rfl
  have e1 : headP ks (d + 1) = .ok ⟨[131], false, 3, d + 2⟩ := by rw [headP_s (by omega) (by omega) (by omega) (by omega) (by omega), g1, show d + 1 + 1 = d + 2 by omega]; rfl
  have e5 : headP ks (d + 5) = .ok ⟨[192], true, 0, d + 6⟩ := by rw [headP_l (by omega) (by omega) (by omega) (by omega), g5, show d + 5 + 1 = d + 6 by omega]; rfl
  have e6 : headP ks (d + 6) = .ok ⟨[129], false, 1, d + 7⟩ := by rw [headP_s3 (by omega) (by omega) g6 (by omega) (by rw [show d + 6 + 1 = d + 7 by omega, g7]; decide), g6, show d + 6 + 1 = d + 7 by omega]; rfl
  have e8 : headP ks (d + 8) = .ok ⟨[], false, 1, d + 8⟩ := headP_one (by omega) (by rw [g8]; decide)
  have c2 : cut ks (d + 2) (d + 5) = [97, 98, 99] := by
    rw [cut_cons (by omega) (by omega) (by omega), show d + 2 + 1 = d + 3 by omega, cut_cons (by omega) (by omega) (by omega), show d + 3 + 1 = d + 4 by omega, cut_cons (by omega) (by omega) (by omega), show d + 4 + 1 = d + 5 by omega, cut_self (by omega), g2, g3, g4]
  have c7 : cut ks (d + 7) (d + 8) = [128] := by
    rw [cut_cons (by omega) (by omega) (by omega), show d + 7 + 1 = d + 8 by omega, cut_self (by omega), g7]
  have c8 : cut ks (d + 8) (d + 9) = [5] := by
    rw [cut_cons (by omega) (by omega) (by omega), show d + 8 + 1 = d + 9 by omega, cut_self (by omega), g8]
  have p1 : pay ks ⟨[131], false, 3, d + 2⟩ = some (.ok (.leaf [97, 98, 99], .node [.leaf [131, 97, 98, 99]], d + 5)) := by
    rw [pay_leaf rfl]; dsimp only; rw [show d + 2 + 3 = d + 5 by omega, c2]; rfl
  have p5 : pay ks ⟨[192], true, 0, d + 6⟩ = some (.ok (.node [], .node [.leaf [192]], d + 6)) := by
    rw [pay_list rfl]; dsimp only; rw [loop_done (by omega)]
  have p6 : pay ks ⟨[129], false, 1, d + 7⟩ = some (.ok (.leaf [128], .node [.leaf [129, 128]], d + 8)) := by
    rw [pay_leaf rfl]; dsimp only; rw [show d + 7 + 1 = d + 8 by omega, c7]; rfl
  have p8 : pay ks ⟨[], false, 1, d + 8⟩ = some (.ok (.leaf [5], .node [.leaf [5]], d + 9)) := by
    rw [pay_leaf rfl]; dsimp only; rw [show d + 8 + 1 = d + 9 by omega, c8]; rfl
  unfold itemP
  rw [e0]
  dsimp only
  rw [pay_list rfl]
  dsimp only
  rw [loop_turn (by omega) e1 p1, loop_turn (by omega) e5 p5, loop_turn (by omega) e6 p6, loop_turn (by omega) e8 p8, loop_done (by omega)]
  rfl
theorem getD_mid {ds sf : List Int} {i : Nat} (h : i < 9) : (ds ++ wholeKs ++ sf).getD ((ds.length : Int) + (i : Nat)).toNat 0 = wholeKs.getD i 0 := by
  rw [show ((ds.length : Int) + (i : Nat)).toNat = ds.length + i by omega, List.append_assoc]
  simp only [List.getD_eq_getElem?_getD]
  rw [List.getElem?_append_right (by omega), show ds.length + i - ds.length = i by omega, List.getElem?_append_left (by show i < 9; exact h)]
theorem whole_mid (ds sf : List Int) : itemP (ds ++ wholeKs ++ sf) (ds.length : Int) = some (.ok (wholeIt, wholeRl, (ds.length : Int) + 9)) := by
  refine whole_item (by omega) ?_ ?_ ?_ ?_ ?_ ?_ ?_ ?_ ?_ ?_
  · rw [List.length_append, List.length_append]; show _ ≤ ((ds.length + 9 + sf.length : Nat) : Int); omega
  · exact (by simpa [wholeKs] using getD_mid (ds := ds) (sf := sf) (i := 0) (by decide))
  · exact (getD_mid (ds := ds) (sf := sf) (i := 1) (by decide)).trans rfl
  · exact (getD_mid (ds := ds) (sf := sf) (i := 2) (by decide)).trans rfl
  · exact (getD_mid (ds := ds) (sf := sf) (i := 3) (by decide)).trans rfl
  · exact (getD_mid (ds := ds) (sf := sf) (i := 4) (by decide)).trans rfl
  · exact (getD_mid (ds := ds) (sf := sf) (i := 5) (by decide)).trans rfl
  · exact (getD_mid (ds := ds) (sf := sf) (i := 6) (by decide)).trans rfl
  · exact (getD_mid (ds := ds) (sf := sf) (i := 7) (by decide)).trans rfl
  · exact (getD_mid (ds := ds) (sf := sf) (i := 8) (by decide)).trans rfl
end Mine
end Plain
section Law
set_option maxRecDepth 100000
namespace Mine
open PySem PySem.W PySem.Spec PySem.Calls PyProof.Rows
local macro_rules | `(tactic| walk_at "my enter") => `(tactic| (refine' code_def ?k1 ?k2 ?k3 ?k4 ?k5 ?kA ?kF ?kK ?k6 ?k7 ?k8 ?k9 ?kB ?_ ?c2 ?c3 ?c4 ?c5; (case kA => exact rfl); (case kF => exact rfl); (case kK => first | assumption | exact rfl); (case k1 => k_asm); (case k2 => k_asm); (case k3 => k_asm); (case k4 => k_asm); (case k5 => k_asm); (case k6 => k_is); (case k7 => k_is); (case k8 => ktr_room); (case k9 => exact BindsTo.of_eq rfl); (case c5 => decide); (case kB => exact locs rfl); (case c2 => exact rfl); (case c3 => exact rfl); (case c4 => exact rfl); k_whole; intro g' L' h' FG' F' N' B' X' T'; (try dsimp only); (try k_fold)))
local macro_rules | `(tactic| k_mem) => `(tactic| ((with_reducible show @List.Mem (Addr × Obj) _ (_ ++ _)); first | (refine List.mem_append.mpr (Or.inl ?_); k_mem) | (refine List.mem_append.mpr (Or.inr ?_); k_mem)))
local macro_rules | `(tactic| k_mem) => `(tactic| ((with_reducible show @List.Mem (Addr × Obj) _ _); (show Membership.mem (γ := List (Addr × Obj)) _ _); ktr_member))
local macro_rules | `(tactic| walk_at "my enterC") => `(tactic| (refine' code_defC ?k1 ?k2 ?k3 ?k4 ?k5 ?kA ?kF ?kK ?k6 ?k7 ?k8 ?k9 ?kB ?kD ?_ ?c2 ?c3 ?c4; (case kA => exact rfl); (case kF => exact rfl); (case kK => first | assumption | exact rfl); (case k1 => k_asm); (case k2 => k_asm); (case k3 => k_asm); (case k4 => k_asm); (case k5 => k_asm); (case k6 => k_is); (case k7 => k_is); (case k8 => ktr_room); (case k9 => exact BindsTo.of_eq rfl); (case kB => exact rfl); (case kD => decide +kernel); (case c2 => exact rfl); (case c3 => exact rfl); (case c4 => exact rfl); k_whole; intro g' L' h' tk' cells' FG' F' N' Y' B' X' T' l1; (try k_lt l1); k_cells Y'; (try simp only [List.cons_append, List.nil_append] at N'); (try dsimp only); (try k_fold)))

local macro_rules | `(tactic| k_mem) => `(tactic| ((with_reducible show @List.Mem (Addr × Obj) _ (_ ++ _)); with_reducible assumption))
local macro_rules | `(tactic| walk_at "eval Name") => `(tactic| (k_here; k_dflt (refine' nameX_L ?F ?v ?_ ?a ?b; (case F => k_asm); (case a => rfl); (case b => rfl); (case v => assumption); k_whole)))
local macro_rules | `(tactic| walk_at "loadName") => `(tactic| (k_here; k_dflt (refine' ldn ?k1 ?k2 ?_; (case k1 => k_asm); (case k2 => first | exact rfl | assumption); k_whole)))
local macro_rules | `(tactic| walk_at "call ref") => `(tactic| (refine held ?_))
local macro_rules | `(tactic| walk_at "subscriptTail Name Constant ref int") => `(tactic| (k_here; (with_reducible show wpAny _ _ (subscriptTail _ _ (Value.ref _) (Value.int _ _)) _ _ _); k_dflt (refine' idx_tup ?k1 ?k2 ?k4 ?k5 ?k6 ?k8 ?_ ?k7; (case k1 => k_asm); (case k2 => k_mem); (case k4 => decide); (case k5 => decide); (case k6 => exact rfl); (case k8 => exact rfl); (case k7 => with_unfolding_all rfl); k_whole)))
local macro_rules | `(tactic| walk_at "exec If") => `(tactic| ((fail_if_success (rename IfMark => mk9)); refine held ?_))
local macro_rules | `(tactic| walk_at "binaryOp Mult bytes int") => `(tactic| (refine held ?_))
local macro_rules | `(tactic| walk_at "exec Assign") => `(tactic| ((with_reducible show wpAny _ _ (exec (Stmt.Assign _ (Expr.IfExp _ _ _ _) _) _) _ _ _); (fail_if_success (rename IfMark => mk9)); refine held ?_))
local macro_rules | `(tactic| walk_at "exec For Name BinOp cons nil") => `(tactic| (refine held ?_))
def LawB1 (h₀ : Heap) (L : Addr) (s : Shared) (c2 : Array UInt8) (ct2 : Tok) (jb : Array UInt8) (jt : Tok) (s' : Shared) : Prop :=
  ∃ (mm : Str → Option Value) (h : Heap) (tk : Nat) (fi : Int) (ft : Tok), s' = { s with heap := h, toks := tk } ∧ Fr h₀ L h mm ∧ News h₀ L h [] ∧ mm "drawn" = some (.bytes c2 ct2) ∧ mm "junk" = some (.bytes jb jt) ∧ mm "first" = some (.int fi ft)
def LawB2 (h₀ : Heap) (L : Addr) (s : Shared) (c2 : Array UInt8) (ct2 : Tok) (ds : List Int) (s' : Shared) : Prop :=
  ∃ (mm : Str → Option Value) (h : Heap) (tk : Nat) (fi : Int) (ft : Tok) (jb : Array UInt8) (jt : Tok) (sf : List Int), s' = { s with heap := h, toks := tk } ∧ Fr h₀ L h mm ∧ News h₀ L h [] ∧ mm "drawn" = some (.bytes c2 ct2) ∧ mm "junk" = some (.bytes jb jt) ∧ KBw.bInts jb = ds ++ wholeKs ++ sf ∧ sf.length ≤ 58 ∧ mm "first" = some (.int fi ft)
theorem lawB1_of {h₀ h : Heap} {L : Addr} {s : Shared} {c2 jb : Array UInt8} {ct2 jt ft : Tok} {fi : Int} {tk : Nat} {m₀ : Str → Option Value} (F : Fr h₀ L h (fun y => if y = "first" then some (.int fi ft) else m₀ y)) (N : News h₀ L h []) (e2 : m₀ "drawn" = some (.bytes c2 ct2)) (e3 : m₀ "junk" = some (.bytes jb jt)) :
    LawB1 h₀ L s c2 ct2 jb jt { s with heap := h, toks := tk } := ⟨_, h, tk, fi, ft, rfl, F, N, e2, e3, rfl⟩
theorem lawB2_of {h₀ h : Heap} {L : Addr} {s : Shared} {c2 jb : Array UInt8} {ct2 jt ft : Tok} {fi : Int} {tk : Nat} {mm : Str → Option Value} {lg : List (Addr × Obj)} {ds kj p q : List Int} (F : Fr h₀ L h (fun y => if y = "junk" then some (.bytes jb jt) else mm y)) (N : News h₀ L h lg) (e4 : mm "drawn" = some (.bytes c2 ct2)) (e6 : mm "first" = some (.int fi ft))
    (hkj : kj = ds ++ wholeKs) (hj : KBw.bInts jb = (kj ++ p) ++ q) (hl : p.length + q.length ≤ 58) : LawB2 h₀ L s c2 ct2 ds { s with heap := h, toks := tk } :=
  ⟨_, h, tk, fi, ft, jb, jt, p ++ q, rfl, F, News.nil, e4, rfl, by rw [hj, hkj]; simp, by rw [List.length_append]; exact hl, e6⟩
theorem lawB2_same {h₀ h : Heap} {L : Addr} {s : Shared} {c2 jb : Array UInt8} {ct2 jt ft : Tok} {fi : Int} {tk : Nat} {mm : Str → Option Value} {ds : List Int} (F : Fr h₀ L h mm) (e4 : mm "drawn" = some (.bytes c2 ct2)) (e5 : mm "junk" = some (.bytes jb jt)) (e6 : mm "first" = some (.int fi ft))
    (hj : KBw.bInts jb = ds ++ wholeKs) : LawB2 h₀ L s c2 ct2 ds { s with heap := h, toks := tk } :=
  ⟨mm, h, tk, fi, ft, jb, jt, [], rfl, F, News.nil, e4, e5, by rw [hj]; simp, by simp, e6⟩
def IntV (v : Value) : Prop := ∃ x t, v = .int x t ∧ 0 ≤ x
theorem small_c {a b c : Int} (ha : 0 ≤ a ∧ a ≤ 1000) (hb : 0 ≤ b ∧ b ≤ 1000) (hc : 1 ≤ c ∧ c ≤ 1000) : Builtin.Range.small a b c = true ∧ 0 ≤ Builtin.Range.rangeSize a b c ∧ Builtin.Range.rangeSize a b c ≤ 1001 := by
  have hs : 0 ≤ Builtin.Range.rangeSize a b c ∧ Builtin.Range.rangeSize a b c ≤ 1001 := by
    unfold Builtin.Range.rangeSize
    rw [if_pos (by omega)]
    split
    · have h1 : 0 ≤ (b - a - 1) / c := Int.ediv_nonneg (by omega) (by omega)
      have h2 : (b - a - 1) / c ≤ b - a - 1 := Int.ediv_le_self _ (by omega)
      omega
    · omega
  refine ⟨?_, hs⟩
  unfold Builtin.Range.small
  generalize Builtin.Range.rangeSize a b c = n at *
  simp only [Builtin.Range.rangeFitsLong, Bool.and_eq_true, Bool.or_eq_true, decide_eq_true_eq, beq_iff_eq, show c > 0 by omega, if_true]
  omega
theorem list_rangeC {prog : Program} {w : World} {A : Around} {E : Value → Shared → Prop} {s : Shared} {h₀ : Heap} {L r : Addr} {m : Str → Option Value} {news : List (Addr × Obj)} {a b c : Int} {t₀ u₀ v₀ : Tok} {Q : Value → Shared → Prop} (hh : A.handled = none) (F : Fr h₀ L s.heap m) (N : News h₀ L s.heap news) (hr : IsRange s.heap r a b c t₀ u₀ v₀)
    (ha : 0 ≤ a ∧ a ≤ 1000) (hb : 0 ≤ b ∧ b ≤ 1000) (hc : 1 ≤ c ∧ c ≤ 1000)
    (h : ∀ D us cc h' tk, Fr h₀ L h' m → News h₀ L h' ((D, W.listOf (List.toArray us) cc) :: news) → (∀ p ∈ news, p.1 < D) → us.length ≤ 1001 → (∀ v ∈ us, IntV v) → Q (.ref D) { s with heap := h', toks := tk }) :
    wpAny (model prog w) A (call (.type "list") [.ref r]) Q E s := by
  obtain ⟨h1, h2, h3⟩ := small_c ha hb hc
  refine call_list_range hh hr h1 (n := (Builtin.Range.rangeSize a b c).toNat) (by omega) (by omega) fun h' tk acc cc hk hD hI => ?_
  have hD' : h'.get? s.heap.objs.size = some (W.listOf (List.toArray acc.toList) cc) := by
    rw [Array.toArray_toList]
    exact hD
  refine h _ acc.toList cc h' tk (F.keeps hk) (news_pushed F N hk hD' rfl) (fun p hp => Heap.lt_size (N p hp).1) (by rw [Array.length_toList, hI.1]; omega) fun v hv => ?_
  obtain ⟨j, hj⟩ := List.getElem?_of_mem hv
  obtain ⟨t, rfl⟩ := hI.2 j v (by rw [← hj, Array.getElem?_toList])
  exact ⟨_, t, rfl, by have := Int.mul_nonneg (show (0 : Int) ≤ (j : Int) by omega) (show 0 ≤ c by omega); omega⟩
theorem wantIs_of {ks : List Int} {k : Int} {news tl : List (Addr × Obj)} {a : Addr} (h : (∃ x, itemP ks k = some (.error x) ∧ HeadTup (news ++ tl) a (.error x)) ∨
   (∃ it rl nx v1 a2 t t', itemP ks k = some (.ok (it, rl, nx)) ∧ (a, ({ cls := .type "tuple", data := .seq #[.str "ok" t', v1, .ref a2, .int nx t] } : Obj)) ∈ tl ∧ TrIn tl v1 it ∧ TrIn tl (.ref a2) rl)) : WantIs (news ++ tl) a (itemP ks k) := by
  rcases h with h | ⟨it, rl, nx, v1, a2, t, t', e, m, T1, T2⟩
  · exact .inl h
  · have hs : ∀ p ∈ tl, p ∈ news ++ tl := fun p hp => List.mem_append.mpr (.inr hp)
    exact .inr ⟨it, rl, nx, v1, a2, t, t', e, hs _ m, T1.mono hs, T2.mono hs⟩
theorem turn_law {h₀ h : Heap} {L : Addr} {lg' tl9 tl8 : List (Addr × Obj)} {s : Shared} {tk : Nat} {w1 w2 w3 : Value} {m₁ m₂ : Str → Option Value} {Q : Flow → Shared → Prop} (F : Fr h₀ L h (fun y => if y = "want" then some w1 else if y = "head" then some w2 else if y = "k" then some w3 else m₂ y)) (N : News h₀ L h ((lg' ++ tl9) ++ tl8))
    (hJ : ∀ y : Str, y ≠ "k" → y ≠ "head" → y ≠ "want" → m₂ y = m₁ y) : TurnEnd h₀ L lg' (fun m => ∀ y : Str, y ≠ "k" → y ≠ "head" → y ≠ "want" → m y = m₁ y) s Q .next { s with heap := h, toks := tk } :=
  turn_next ⟨_, _, _, rfl, F, news_drop (news_drop N), fun y h1 h2 h3 => by
    show (if y = "want" then _ else if y = "head" then _ else if y = "k" then _ else m₂ y) = _
    rw [if_neg h3, if_neg h2, if_neg h1]; exact hJ y h1 h2 h3⟩
theorem stride_pos {n : Nat} (h : n ≤ 79) : (1 : Int) ≤ 1 + (n : Int).fdiv 24 ∧ 1 + (n : Int).fdiv 24 ≤ 1000 := by
  rw [Int.fdiv_eq_ediv_of_nonneg _ (by decide)]
  omega
theorem use_junk {w : World} {f l : Addr} {vs : List Value} {nd nu : Nat} {P : Value → Prop} {mean : ExcName → Option Value} {mg mb : Str → Option Value} {dp un : Nat} {gd : Option (List Code)} {cn : Str} {cs : Scope} {a : Addr} {ccd : Value} {cl : List (Str × Addr)} {outer : List Env} {A₀ : Around} {base h₀ : Heap} {L : Addr} {m : Str → Option Value} {s : Shared}
    {Q E : Value → Shared → Prop} {news : List (Addr × Obj)} (D : DoesJ w f l vs nd nu P) (B : Below A₀ base outer h₀) (F : Fr h₀ L s.heap m) (X : (Mine.hd.heap_39 w.params).In h₀) (N : News h₀ L s.heap news) (T : Top Vw Lo mean mg mb h₀) (hk : cs.kind = .function) (hl : h₀.IsList l vs.toArray)
    (hd : dp + nd < recursionLimit) (hu : un + nu < cLine) (hret : ∀ r h' tk', Fr h₀ L h' m → News h₀ L h' news → P r → Q r { s with heap := h', toks := tk' }) :
    wpAny (model PySem.Challenge.rw_ep5029_01.row.prog w) (ktrTop dp un gd cn cs L a ccd cl outer) (call (.ref f) [.ref l]) Q E s :=
  D _ _ _ _ _ _ _ _ _ _ _ _ _ _ _ _ _ _ _ _ _ B F X N T hk hl hd hu hret
theorem use_fits {w : World} {f : Addr} {vs : List Value} {nd nu : Nat} {P : Value → Prop} {mean : ExcName → Option Value} {mg mb : Str → Option Value} {dp un : Nat} {gd : Option (List Code)} {cn : Str} {cs : Scope} {a : Addr} {ccd : Value} {cl : List (Str × Addr)} {A₀ : Around} {base h₀ : Heap} {L : Addr} {m : Str → Option Value} {s : Shared}
    {Q E : Value → Shared → Prop} {news : List (Addr × Obj)} (D : DoesT w f vs nd nu news P) (B : Below A₀ base [] h₀) (F : Fr h₀ L s.heap m) (X : (Mine.hd.heap_39 w.params).In h₀) (N : News h₀ L s.heap news) (T : Top Vw Lo mean mg mb h₀) (hk : cs.kind = .function)
    (hd : dp + nd < recursionLimit) (hu : un + nu < cLine) (hret : ∀ r h' tk', Fr h₀ L h' m → News h₀ L h' news → P r → Q r { s with heap := h', toks := tk' }) :
    wpAny (model PySem.Challenge.rw_ep5029_01.row.prog w) (ktrTop dp un gd cn cs L a ccd cl []) (call (.ref f) vs) Q E s :=
  D _ _ _ _ _ _ _ _ _ _ _ _ _ _ _ _ _ _ _ B F X N T hk hd hu hret
set_option maxHeartbeats 8000000 in
theorem top0 : PySem.Challenge.rw_ep5029_01.Holds := Mine.hd (by
  k_go0
  all_goals try k_fold
  k_steps
  refine unheld ?_
  (rename Shared => s1)
  (rename World => w)
  (rename Below _ _ _ _ => B0)
  (rename Frag.In _ _ => X0)
  (rename Top _ _ _ _ _ _ => T0)
  (rename IntsAre _ _ => hI)
  (rename Heap.IsList _ _ _ => hL)
  (rename ¬ _ < _ => hlt)
  (with_reducible rename Fr _ _ _ _ => F1)
  (with_reducible rename News _ _ _ _ => N1)
  k_dflt (refine' use_junk (junk_does _ _ _ _ hI (by omega)) B0 F1 X0 N1 T0 rfl hL ?kd ?ku ?kr)
  case kd => ktr_room
  case ku => ktr_units
  case kr =>
  intro r2 h2 tk2 F2 N2 ret2
  obtain ⟨c2, ct2, rfl, hc2⟩ := ret2
  obtain ⟨ds, hds⟩ : ∃ ds, KBw.bInts c2 = ds := ⟨_, rfl⟩
  rw [hds] at hc2
  (try dsimp only)
  (try k_fold)
  k_steps
  refine unheld ?_
  (rename KBw.bInts (c2 ++ _) = _ => app3)
  (with_reducible rename Fr _ _ _ _ => F3)
  (with_reducible rename News _ _ _ _ => N3)
  obtain ⟨m₀, hm₀, F3⟩ : ∃ m₀, m₀ = _ ∧ Fr _ _ _ m₀ := ⟨_, rfl, F3⟩
  obtain ⟨l, e1, hL2⟩ : ∃ l, m₀ "script" = some (.ref l) ∧ Heap.IsList _ l _ := ⟨_, by rw [hm₀]; rfl, hL⟩
  have e2 : m₀ "drawn" = some (.bytes c2 ct2) := by rw [hm₀]; rfl
  obtain ⟨jb, jt, e3, hj3⟩ : ∃ jb jt, m₀ "junk" = some (.bytes jb jt) ∧ KBw.bInts jb = ds ++ wholeKs := ⟨_, _, by rw [hm₀]; rfl, app3⟩
  clear hm₀ app3
  refine if_split (LawB1 s1.heap s1.heap.objs.size s1 c2 ct2 jb jt) ?_ ?_
  · have mk : IfMark := trivial
    k_steps
    all_goals (exact lawB1_of (by assumption) (by assumption) e2 e3)
  intro s' hB
  obtain ⟨mm, h, tk, fi, ft, rfl, F4, N4, e4, e5, e6⟩ := hB
  clear F3 N3
  (try dsimp only)
  (try k_fold)
  k_steps
  refine unheld ?_
  have hdk : (ds ++ wholeKs).length ≤ 21 := by rw [List.length_append]; show ds.length + 9 ≤ 21; omega
  refine if_split (LawB2 s1.heap s1.heap.objs.size s1 c2 ct2 ds) ?_ ?_
  · have mk : IfMark := trivial
    obtain ⟨kj, hkj⟩ : ∃ kj, kj = ds ++ wholeKs := ⟨_, rfl⟩
    rw [← hkj] at hj3 hdk
    have tin := fun j => @KBw.getD_in [0, 1, 5, 56, 127, 128, 129, 130, 131, 183, 184, 185, 191, 192, 193, 194, 195, 196, 247, 248, 249, 255] j (by decide)
    k_steps
    rotate_right
    · exact lawB2_same F4 e4 e5 e6 (hj3.trans hkj)
    all_goals
      (with_reducible rename Fr _ _ _ _ => F7)
      (with_reducible rename News _ _ _ _ => N7)
      k_here
      k_dflt (refine KBa.make_K F7 N7 rfl (list_of (vs := [_]) N7 (.head _)) (ints_one _ _) (in_one (tin _)) (by simp) ?_)
      intro h7 t7' k7 F8 N8 hIn
      (try dsimp only)
      (try k_fold)
      k_steps
      refine unheld ?_
      k_here
      refine mul_one (tin _) (by decide) (by decide) fun d9 t9 k9 hd9 => ?_
      (try dsimp only)
      (try k_fold)
      have hl9 : (KBw.bInts d9).length ≤ 56 := by rw [hd9, List.length_replicate]; decide
      clear hd9 tin
      obtain ⟨kd, hkd⟩ : ∃ kd, KBw.bInts d9 = kd := ⟨_, rfl⟩
      rw [hkd] at hl9
      k_steps
      (rename KBw.bInts (jb ++ _ ++ _) = _ => app8)
      exact lawB2_of (by assumption) (by assumption) e4 e6 hkj app8 (by show 2 + kd.length ≤ 58; omega)
  intro s' hB
  obtain ⟨mm, h, tk, fi, ft, jb, jt, sf, rfl, F5, N5, e4, e5, hj5, hsf, e6⟩ := hB
  clear F4 N4
  have hin := fun x (hx : x ∈ KBw.bInts jb) => KBw.ints_in hx
  obtain ⟨ks, hks⟩ : ∃ ks, ks = ds ++ wholeKs ++ sf := ⟨_, rfl⟩
  rw [← hks] at hj5
  rw [hj5] at hin
  have hlen : ks.length ≤ 79 := by rw [hks, List.length_append]; omega
  have hlen9 : ds.length + 9 ≤ ks.length := by rw [hks, List.length_append, List.length_append]; show ds.length + 9 ≤ ds.length + 9 + _; omega
  (try dsimp only)
  (try k_fold)
  k_steps
  refine unheld ?_
  (with_reducible rename Fr _ _ _ _ => F6)
  (with_reducible rename News _ _ _ _ => N6)
  obtain ⟨m₁, hm₁, F6⟩ : ∃ m₁, m₁ = _ ∧ Fr _ _ _ m₁ := ⟨_, rfl, F6⟩
  obtain ⟨st, tst, hst, e7⟩ : ∃ (st : Int) (tst : Tok), (1 ≤ st ∧ st ≤ 1000) ∧ m₁ "stride" = some (.int st tst) := ⟨_, _, stride_pos hlen, by rw [hm₁]; rfl⟩
  replace e4 : m₁ "drawn" = some (.bytes c2 ct2) := by rw [hm₁]; exact e4
  replace e5 : m₁ "junk" = some (.bytes jb jt) := by rw [hm₁]; exact e5
  replace e6 : m₁ "first" = some (.int fi ft) := by rw [hm₁]; exact e6
  clear hm₁
  refine For_invVF F6 rfl rfl ?_
  k_steps
  k_here
  (rename IsRange _ _ _ _ _ _ _ _ => R7)
  (with_reducible rename Fr _ _ _ _ => F7)
  (with_reducible rename News _ _ _ _ => N7)
  have z0 : 0 ≤ fi.fmod st := Int.fmod_nonneg_of_pos _ (by omega)
  have z1 : fi.fmod st < st := Int.fmod_lt_of_pos _ (by omega)
  k_dflt (refine list_rangeC rfl F7 N7 R7 ⟨z0, by omega⟩ ⟨by omega, by omega⟩ hst ?_)
  intro D us cc h7 tk7 F8 N8 l8 hul hus
  clear R7 z0 z1
  (try dsimp only)
  (try k_fold)
  k_steps
  (with_reducible rename Fr _ _ _ _ => F9)
  (with_reducible rename News _ _ _ _ => N9)
  k_here
  refine iter_vals (fun _ m => ∀ y : Str, y ≠ "k" → y ≠ "head" → y ≠ "want" → m y = m₁ y) rfl (List.Mem.head _) F9 N9 (fun _ _ _ _ => rfl) ?_ ?_
  · intro i v m₂ h tk lg' hv hsub hJ F10 N10
    have hvI : IntV v := by
      rcases List.mem_append.mp (List.mem_of_getElem? hv) with z | z
      · exact hus v z
      · simp only [List.mem_cons, List.not_mem_nil, or_false] at z
        rcases z with rfl | rfl | rfl | rfl | rfl <;> exact ⟨_, _, rfl, by omega⟩
    obtain ⟨k, kt, rfl, hk0⟩ := hvI
    clear hv hsub F9 N9
    replace e4 := (hJ "drawn" (by decide) (by decide) (by decide)).trans e4
    replace e5 := (hJ "junk" (by decide) (by decide) (by decide)).trans e5
    replace e6 := (hJ "first" (by decide) (by decide) (by decide)).trans e6
    have hb : ks.length ≤ 200 := by omega
    k_steps
    refine unheld ?_
    (with_reducible rename Fr _ _ _ _ => F11)
    (with_reducible rename News _ _ _ _ => N11)
    k_dflt (refine' use_does (lhead_does w jb jt ks hj5 hb hin k kt hk0 _) B0 F11 X0 N11 T0 rfl ?kd ?ku ?kr ?kx)
    case kd => ktr_room
    case ku => ktr_units
    case kx => exact fun _ _ _ _ z => z.elim
    case kr =>
    intro r9 tl9 h9 tk9 F12 N12 o12 ret9
    obtain ⟨ah, rfl, hh9⟩ := ret9
    have hh : HeadTup (lg' ++ tl9) ah (headP ks k) := hh9.mono (fun p hp => List.mem_append.mpr (.inr hp))
    clear hh9 o12 F11 N11
    (try dsimp only)
    (try k_fold)
    k_steps
    refine unheld ?_
    (with_reducible rename Fr _ _ _ _ => F13)
    (with_reducible rename News _ _ _ _ => N13)
    k_dflt (refine' use_does (lwalk_does w jb jt ks hj5 hb hin k kt hk0 _ ah hh) B0 F13 X0 N13 T0 rfl ?kd ?ku ?kr ?kx)
    case kd => ktr_room
    case ku => ktr_units
    case kx => exact fun _ _ _ _ z => z.elim
    case kr =>
    intro r8 tl8 h8 tk8 F14 N14 o14 ret8
    obtain ⟨aw, rfl, hw8⟩ := ret8
    have hw : WantIs ((lg' ++ tl9) ++ tl8) aw (itemP ks k) := wantIs_of hw8
    have hh2 : HeadTup ((lg' ++ tl9) ++ tl8) ah (headP ks k) := hh.mono (fun p hp => List.mem_append.mpr (.inl hp))
    clear hw8 hh o14 F13 N13
    (try dsimp only)
    (try k_fold)
    k_steps
    refine unheld ?_
    have mk : IfMark := trivial
    k_steps
    refine unheld ?_
    (with_reducible rename Fr _ _ _ _ => F15)
    (with_reducible rename News _ _ _ _ => N15)
    k_dflt (refine' use_fits (fits0_does w jb jt ks hj5 hb hin k kt _ hk0 _ ah hh2) B0 F15 X0 N15 T0 rfl ?kd ?ku ?kr)
    case kd => ktr_room
    case ku => ktr_units
    case kr =>
    rintro r7 h7 tk7 F16 N16 rfl
    clear F15 N15
    (try dsimp only)
    (try k_fold)
    k_steps
    refine unheld ?_
    (with_reducible rename Fr _ _ _ _ => F17)
    (with_reducible rename News _ _ _ _ => N17)
    k_dflt (refine' use_fits (fits1_does w jb jt ks hj5 hb hin k kt _ hk0 _ aw ah hw) B0 F17 X0 N17 T0 rfl ?kd ?ku ?kr)
    case kd => ktr_room
    case ku => ktr_units
    case kr =>
    rintro r7 h7 tk7 F18 N18 rfl
    clear F17 N17
    (try dsimp only)
    (try k_fold)
    cases hhe : headP ks k with
    | error x =>
      rw [hhe] at hh2
      cases x with
      | index =>
        obtain ⟨t0, hh2⟩ := hh2
        k_steps
        exact turn_law (by assumption) N18 hJ
      | fault msg =>
        obtain ⟨t0, t1, hh2⟩ := hh2
        k_steps
        exact turn_law (by assumption) N18 hJ
    | ok hd =>
      have hh3 := hh2
      rw [hhe] at hh3
      obtain ⟨t0, pb, pt, st0, ot, hh3, hpb⟩ := hh3
      rw [hhe] at hh2
      k_steps
      rotate_right
      · exact turn_law (by assumption) N18 hJ
      refine unheld ?_
      (with_reducible rename Fr _ _ _ _ => F19)
      (with_reducible rename News _ _ _ _ => N19)
      k_dflt (refine' use_fits (fits2_does w jb jt ks hj5 hb hin k kt _ hk0 _ aw ah hw hd hhe hh2) B0 F19 X0 N19 T0 rfl ?kd ?ku ?kr)
      case kd => ktr_room
      case ku => ktr_units
      case kr =>
      rintro r7 h7 tk7 F20 N20 rfl
      clear F19 N19
      (try dsimp only)
      (try k_fold)
      k_steps
      exact turn_law F20 N20 hJ
  · intro m₂ h tk hJ F10 N10
    clear F9 N9
    replace e4 := (hJ "drawn" (by decide) (by decide) (by decide)).trans e4
    replace e5 := (hJ "junk" (by decide) (by decide) (by decide)).trans e5
    have hb : ks.length ≤ 200 := by omega
    have hwm := whole_mid ds sf
    rw [← hks] at hwm
    k_steps
    refine unheld ?_
    (with_reducible rename Fr _ _ _ _ => F11)
    (with_reducible rename News _ _ _ _ => N11)
    k_dflt (refine' use_does (item_does w jb jt ks hj5 hb hin _ _ (by omega) _) B0 F11 X0 N11 T0 rfl ?kd ?ku ?kr ?kx)
    case kd => ktr_room
    case ku => ktr_units
    case kx =>
      intro x9 e9 h9 tk9 z9 fl9
      replace z9 : itemP ks (ds.length : Int) = some (.error x9) := z9
      rw [hwm] at z9
      simp at z9
    case kr =>
    intro r9 tl9 h9 tk9 F12 N12 o12 ret9
    obtain ⟨hd9, eh9, it9, bd9, rls9, nx9, ep9, a9, v9, a29, bb9, tb9, vs9, epo9, t9, rfl, m9, ti9, m29, hb9, ts9, _⟩ := ret9
    have ei : itemP ks (ds.length : Int) = some (.ok (it9, .node (.leaf bd9 :: rls9), nx9)) := by unfold itemP; rw [eh9]; exact ep9
    obtain ⟨ok1, ok2⟩ := item_ok hb hin (by omega) ei
    rw [hwm] at ei
    obtain ⟨rfl, er, rfl⟩ : wholeIt = it9 ∧ wholeRl = .node (.leaf bd9 :: rls9) ∧ (ds.length : Int) + 9 = nx9 := by simpa using ei
    have T3 : TrIn tl9 (.ref a29) wholeRl := by rw [er]; exact .node m29 (.cons (.leaf hb9) ts9)
    rw [← er] at ok2
    clear ei er ep9 eh9 ts9 hb9 m29 F11 N11
    (try dsimp only)
    (try k_fold)
    k_steps
    refine unheld ?_
    (with_reducible rename Fr _ _ _ _ => F13)
    (with_reducible rename News _ _ _ _ => N13)
    have hsub : ∀ (x1 x2 x3 x4 x5 x6 x7 : Addr × Obj) (b l : List (Addr × Obj)), ∀ p ∈ l, p ∈ x1 :: x2 :: x3 :: x4 :: x5 :: x6 :: x7 :: (b ++ l) := fun _ _ _ _ _ _ _ _ _ _ hp => .tail _ (.tail _ (.tail _ (.tail _ (.tail _ (.tail _ (.tail _ (List.mem_append.mpr (.inr hp))))))))
    k_dflt (refine' use_does (alike_does w jb 201 _ _ _ _ ok1 (ti9.mono (hsub _ _ _ _ _ _ _ _ _)) (.node (vs := [_, _, _, _]) (.head _) (.cons (.leaf rfl) (.cons (.node (vs := []) (.tail _ (.head _)) .nil) (.cons (.leaf rfl) (.cons (.leaf rfl) .nil)))))) B0 F13 X0 N13 T0 rfl ?kd ?ku ?kr ?kx)
    case kd => ktr_room
    case ku => ktr_units
    case kx => exact fun _ _ _ _ z => z.elim
    case kr =>
    intro r8 tl8 h8 tk8 F14 N14 o14 ret8
    obtain rfl : r8 = .bool true := ret8
    replace N14 := news_drop N14
    clear F13 N13 o14
    (try dsimp only)
    (try k_fold)
    k_steps
    refine unheld ?_
    (with_reducible rename Fr _ _ _ _ => F15)
    (with_reducible rename News _ _ _ _ => N15)
    k_dflt (refine' use_does (alike_does w jb 201 _ _ _ _ ok2 (T3.mono (hsub _ _ _ _ _ _ _ _ _)) (.node (vs := [_, _, _, _, _]) (.tail _ (.tail _ (.head _))) (.cons (.leaf rfl) (.cons (.node (vs := [_]) (.tail _ (.tail _ (.tail _ (.tail _ (.tail _ (.tail _ (.head _))))))) (.cons (.leaf rfl) .nil)) (.cons (.node (vs := [_]) (.tail _ (.tail _ (.tail _ (.tail _ (.tail _ (.head _)))))) (.cons (.leaf rfl) .nil)) (.cons (.node (vs := [_]) (.tail _ (.tail _ (.tail _ (.tail _ (.head _))))) (.cons (.leaf rfl) .nil)) (.cons (.node (vs := [_]) (.tail _ (.tail _ (.tail _ (.head _)))) (.cons (.leaf rfl) .nil)) .nil)))))) ) B0 F15 X0 N15 T0 rfl ?kd ?ku ?kr ?kx)
    case kd => ktr_room
    case ku => ktr_units
    case kx => exact fun _ _ _ _ z => z.elim
    case kr =>
    intro r7 tl7 h7 tk7 F16 N16 o16 ret7
    obtain rfl : r7 = .bool true := ret7
    replace N16 := news_drop N16
    clear F15 N15 o16
    (try dsimp only)
    (try k_fold)
    k_steps)
end Mine
end Law
set_option maxRecDepth 100000 in
set_option maxHeartbeats 8000000 in
theorem PySem.Challenge.cw_ep5029_01_holds : PySem.Challenge.rw_ep5029_01.Holds :=
  Mine.top0
