import PyProof.Rows.All
import Wide.All
import OpenK.AllK
import Wide.FinOn
import PySem.Challenge.RW_sh0002_01
set_option Elab.async false
set_option maxRecDepth 100000
namespace Mine
section
open PySem PySem.W PyProof.Rows
set_option maxHeartbeats 8000000
open_top hd for PySem.Challenge.rw_sh0002_01

theorem fill : PySem.Challenge.rw_sh0002_01 = PySem.Challenge.rw_sh0002_01 ∧ hd.heap_39 = hd.heap_39 := ⟨rfl, rfl⟩
end
section
open PySem PySem.W PyProof.Rows
section
variable {prog : Program} {w : World} {A : Around} {E : Value → Shared → Prop} {s : Shared}
theorem place_one (a b x : Int) : (Builtin.Range.rangePlace? a b 1 x).isSome = decide (a ≤ x ∧ x < b) := by
  unfold Builtin.Range.rangePlace?
  by_cases h1 : a ≤ x <;> by_cases h2 : x < b <;> simp [h1, h2, Int.emod_one]
theorem range_contains_tree {r : Addr} {a b : Int} {t u v : Tok} {x : Int} {tk : Tok} {P : PySem.Fin → Shared → Prop} (hr : IsRange s.heap r a b 1 t u v)
    (h : P (.done (.ret (.bool (decide (a ≤ x ∧ x < b))))) s) : wpAny (model prog w) A (Builtin.«range.__contains__» ⟨[.ref r, .int x tk], []⟩) P E s := by
  show wpAny _ _ (rule "range.contains.reckoned" >>= _) _ _ s
  refine wpAny_bind (wpAny_rule ?_)
  show wpAny _ _ (Builtin.Range.rangeFields (.ref r) >>= _) _ _ s
  refine wpAny_bind ?_
  unfold Builtin.Range.rangeFields
  refine wpAny_bind (wpAny_field hr rfl (x := .int a t) rfl ?_)
  refine wpAny_bind (wpAny_of_eq (a := some a) rfl ?_)
  refine wpAny_bind (wpAny_field hr rfl (x := .int b u) rfl ?_)
  refine wpAny_bind (wpAny_of_eq (a := some b) rfl ?_)
  refine wpAny_bind (wpAny_field hr rfl (x := .int 1 v) rfl ?_)
  refine wpAny_bind (wpAny_of_eq (a := some 1) rfl ?_)
  refine wpAny_pure ?_
  refine wpAny_of_eq rfl ?_
  rw [place_one]
  exact h
theorem contains_range {r : Addr} {a b : Int} {t u v : Tok} {x : Int} {tk : Tok} {Q : Bool → Shared → Prop} (hr : IsRange s.heap r a b 1 t u v)
    (h : Q (decide (a ≤ x ∧ x < b)) s) : wpAny (model prog w) A (contains (.ref r) (.int x tk)) Q E s := by
  have hT : s.TypeIs (.ref r) "range" := ⟨_, hr, rfl⟩
  unfold contains
  refine wpAny_holding ?_
  refine wpAny_bind (wpAny_specialOf hT F.slot_range_contains.lookup ?_)
  rw [if_neg (by decide)]
  exact wpAny_bind (wpAny_callSpecialUnlessNone?_slot (name := Str.ofString "__contains__") hT F.slot_range_contains
    (wpAny_call_entry F.slot_range_contains hT F.entry_range_contains (range_contains_tree hr ⟨_, rfl, wpAny_truthy_bool h⟩) (F.args_range_contains_2 _ _)))
theorem notin_range {r : Addr} {a b : Int} {t u v : Tok} {x : Int} {tk : Tok} {Q : Value → Shared → Prop} (hr : IsRange s.heap r a b 1 t u v)
    (h : Q (.bool (!decide (a ≤ x ∧ x < b))) s) : wpAny (model prog w) A (compareOp .NotIn (.int x tk) (.ref r)) Q E s := by
  show wpAny _ _ (do return .bool (!(← contains (.ref r) (.int x tk)))) Q E s
  exact wpAny_bind (contains_range hr (wpAny_pure h))
end
end
section
open PySem PySem.W PyProof.Rows PySem.Calls PySem.Spec
set_option maxHeartbeats 4000000
section
variable {M : Model} {A : Around} {E : Value → Shared → Prop} {h : Heap} {g : Array GenState} {d : Drawn} {t : Nat} {os : OsState}
variable {nm q : Str} {C N : Addr} {bs bm bmV : List Value} {hdct : Bool} {sn : List Str} {sub : List Value} {ab : Bool} {col : Option Bool} {dd : Option Addr} {k0 k1 k2 k3 k5 : Option Value} {B newId initId : String}

/-- the check of a built-in maker upon an own class whose line of classes need not be the base's own -/
theorem check_new2 (F : ExcBaseFacts B newId initId bmV) (hB : bm.contains (.type B) = true) {rest : List Value} {Q : Unit → Shared → Prop}
    (hC : h.get? C = some (excClassObj nm q C N bs bm hdct sn sub ab col dd k0 k1 k2 k3 k5 newId)) (hq : Q () ⟨h, g, d, t, os⟩) :
    wpAny M A (checkBuiltinCall newId ⟨.ref C :: rest, []⟩) Q E ⟨h, g, d, t, os⟩ := by
  have hcont : (Value.ref C :: bm).contains (.type B) = true := by rw [List.contains_cons, hB, Bool.or_true]
  have hstar := F.noStar
  simp only [checkBuiltinCall, F.newKind, F.newSplit, F.newRow]
  repeat (first | refine wpAny_loadPart_at hC ?_ | (refine wpAny_isSubtype_exc hC ?_; rw [hcont]) | refine wpAny_staticBase_exc hC ?_ | refine wpAny_madeBy_exc hC ?_ | simp only [bne_self_eq_false, Bool.false_eq_true, if_false] | wp_step)
  exact hq
end
section
variable {prog : Program} {w : World} {A : Around} {E : Value → Shared → Prop} {R : Result → Shared → Prop} {h : Heap} {g : Array GenState} {d : Drawn} {t : Nat} {os : OsState}
variable {nm q : Str} {C N : Addr} {bs bm bmV : List Value} {hdct : Bool} {sn : List Str} {sub : List Value} {ab : Bool} {col : Option Bool} {dd : Option Addr} {k0 k1 k2 k3 k5 : Option Value} {B newId initId : String}

abbrev tupO (rest : List Value) : Obj := { cls := .type "tuple", data := .seq rest.toArray }
abbrev excO (C t : Addr) : Obj := { cls := .ref C, data := .fields #[.ref t, .none, .none, .none, .bool false, .none] }

theorem exc_new2 (F : ExcBaseFacts B newId initId bmV) (hB : bm.contains (.type B) = true) (hA : bm.contains (.type "AttributeError") = false) (hN : bm.contains (.type "NameError") = false) {rest : List Value}
    (hC : h.get? C = some (excClassObj nm q C N bs bm hdct sn sub ab col dd k0 k1 k2 k3 k5 newId))
    (hq : R (.ok (.ret (.ref (h.objs.size + 1)))) ⟨(h.push (tupO rest)).push (excO C h.objs.size), g, d, t, os⟩) (hrest : rest.length ≤ sizeLine) :
    codeAny (model prog w) A (.builtin newId ⟨.ref C :: rest, []⟩) R ⟨h, g, d, t, os⟩ := by
  have hends := F.ends
  have hcB : (Value.ref C :: bm).contains (.type B) = true := by rw [List.contains_cons, hB, Bool.or_true]
  have hcA : (Value.ref C :: bm).contains (.type "AttributeError") = false := by rw [List.contains_cons, hA]; rfl
  have hcN : (Value.ref C :: bm).contains (.type "NameError") = false := by rw [List.contains_cons, hN]; rfl
  refine codeAny_builtinAt F.entry ?_
  unfold Builtin.«BaseException.__new__»
  refine PySem.wpAt_bind ?_
  show PySem.wpAt _ _ _ (stack >>= _) _ _ _
  refine PySem.wpAt_bind (PySem.wpAt_stack fun p below => PySem.wpAt_of_wpAny ?_)
  wp_walk
  refine PySem.wpAt_of_wpAny ?_
  rw [F.owner]
  repeat (first | with_reducible refine wpAny_madeHere_exc F.canon hC ?_ | with_reducible refine wpAny_loadPart_at hC ?_ | (with_reducible refine wpAny_isSubtype_exc hC ?_; first | rw [hcB] | rw [hcA] | rw [hcN]) | wp_step)
  show R _ _
  rw [Heap.size_push]
  exact hq

/-- a call of an own exception class with an __init__ of its own: its code is called upon the new object -/
theorem exc_call2 {K : Frag} {s : Shared} {h₀ : Heap} {L : Addr} {m : Str → Option Value} {news : List (Addr × Obj)} {Q : Value → Shared → Prop} {fI : Addr} {rest : List Value}
    (F : ExcBaseFacts B newId initId bmV) (hB : bm.contains (.type B) = true) (hA : bm.contains (.type "AttributeError") = false) (hN : bm.contains (.type "NameError") = false)
    (Fr₁ : Fr h₀ L s.heap m) (N₁ : News h₀ L s.heap news) (X : K.In s.heap)
    (hl : K.lookup C = some (excClassObj nm q C N bs bm hdct sn sub ab col dd k0 k1 k2 k3 k5 newId))
    (hi : findIn K (.ref C) "__init__" = some (some (.ref fI))) (hf : typeIn K (.ref fI) = some (.type "function")) (hrest : rest.length ≤ sizeLine)
    (hq : ∀ e tu h', Fr h₀ L h' m → News h₀ L h' ((e, excO C tu) :: (tu, tupO rest) :: news) → (∀ p ∈ news, p.1 < tu) → tu < e →
      codeAny (model prog w) (A.under (.builtin "type.__call__" ⟨.ref C :: rest, []⟩)) (.call (.ref fI) ⟨.ref e :: rest, []⟩)
        (fun r s' => match r with | .ok (.ret v) => v = .none ∧ Q (.ref e) s' | .ok _ => False | .error x => E x s') { s with heap := h' }) :
    wpAny (model prog w) A (call (.ref C) rest) Q E s := by
  obtain ⟨hh, g, d, t, os⟩ := s
  dsimp only at Fr₁ N₁ X hq
  have hC := X _ _ hl
  have f1 := tc_lookup
  have f2 := tc_bind (.ref C)
  have hT : (⟨hh, g, d, t, os⟩ : Shared).TypeIs (.ref C) "type" := ⟨_, hC, rfl⟩
  refine wpAny_call (codeAny_of_tree ?_)
  show wpAny _ _ (callAny (.ref C) _) _ _ _
  repeat (any_goals (first | assumption | with_reducible refine wpAny_loadPart_at hC ?_ | wp_step))
  refine ⟨rfl, ?_⟩
  refine codeAny_call_builtin_at (Code.quiet_builtin _ (by decide +kernel)) entry_typeCall (wpAny_check_type_call_sub hC ?_)
  show wpAny _ (A.under (.builtin "type.__call__" ⟨.ref C :: rest, []⟩)) (Builtin.«type.__call__» ⟨.ref C :: rest, []⟩) _ _ _
  repeat (first | with_reducible refine wpAny_loadPart_at hC ?_ | with_reducible refine wpAny_madeBy_exc hC ?_ | wp_step)
  refine codeAny_call_builtin_code (Code.quiet_builtin _ F.quiet) (check_new2 F hB hC ?_)
  refine exc_new2 F hB hA hN hC ?_ hrest
  show wpAny _ _ _ _ _ _
  have kk : ∀ b o, hh.get? b = some o → ((hh.push (tupO rest)).push (excO C hh.objs.size)).get? b = some o := fun b o e => Heap.get?_push_of_some _ (Heap.get?_push_of_some _ e)
  have hC₁ := kk _ _ hC
  have hget : ((hh.push (tupO rest)).push (excO C hh.objs.size)).get? (hh.objs.size + 1) = some { cls := .ref C, data := .fields #[.ref hh.objs.size, .none, .none, .none, .bool false, .none] } := by heap_get
  have hcC : (Value.ref C :: bm).contains (.ref C) = true := by simp
  have i1 := (looks_findIn (M := model prog w) X hi).keeps kk
  have b1 := (bind_fn (M := model prog w) X (.ref (hh.objs.size + 1)) hf).keeps kk
  unfold isInstance
  repeat (first | with_reducible refine wpAny_loadPart_at hget ?_ | (with_reducible refine wpAny_isSubtype_exc hC₁ ?_; rw [hcC]) | wp_step)
  show wpAny _ _ (typeLookup (.ref C) _) _ _ _
  refine i1.at ?_
  refine wpAny_holding (wpAny_bind (b1.at ?_))
  have N' := (N₁.push Fr₁ (tupO rest)).push (Fr₁.push _) (excO C hh.objs.size)
  rw [Heap.size_push] at N'
  refine wpAny_bind (wpAny_call (codeAny_mono (hq (hh.objs.size + 1) hh.objs.size _ ((Fr₁.push _).push _) N' (fun p hp => Heap.lt_size (N₁ p hp).1) (Nat.lt_succ_self _)) fun r s' z => ?_))
  rcases r with x | (v | _ | _ | _) <;> first | exact z | exact z.elim | skip
  obtain ⟨rfl, z⟩ := z
  wp_walk
  exact z
end
end
section
open PySem PySem.W PyProof.Rows PySem.Calls PySem.Spec Builtin Builtin.ObjectAttr
set_option maxHeartbeats 4000000
/-- an own exception's object that has a dict -/
abbrev excD (C tu D : Addr) : Obj := { cls := .ref C, dict := some D, data := .fields #[.ref tu, .none, .none, .none, .bool false, .none] }
/-- a dict of one name -/
abbrev oneO (hs : Int) (name : Str) (tk : Tok) (v : Value) (n : Nat) : Obj := { cls := .type "dict", data := .dict #[⟨hs, .str name tk, v⟩] n }
section
variable {prog : Program} {w : World} {A : Around} {K : Frag} {C x L : Addr} {R : Result → Shared → Prop} {s : Shared} {h₀ : Heap} {m : Str → Option Value} {news : List (Addr × Obj)}

theorem osa_open2 {ox : Obj} {od : Option Obj} {name : Str} {tk : Tok} {v : Value} {cd : ClassData} (X : K.In s.heap) (I : InstAt s.heap x ox C od) (hc : clsIn K C = some cd)
    (hr : ∀ self, refuseLoop self "__setattr__" cd.mro = pure ()) (ho : mroIn K C (.type "object") = some true) (ht : findIn K (.ref C) name = some none)
    (h : ∀ b, wpAny (model prog w) A.in1 (storeInOwnDict (.ref x) (.ref C) (.str name tk) name v b)
      (fun fin s' => match fin with | .done f => R (.ok f) s' | .again c' => c'.quiet = true ∧ codeAny (model prog w) A c' R s') (fun e s' => R (.error e) s') s) :
    codeAny (model prog w) A (.call (.builtin "object.__setattr__") ⟨[.ref x, .str name tk, v], []⟩) R s := by
  have SF := PySem.F.store_object
  have sub : Looks (model prog w) s.heap (isInstance (.ref x) (.type "object")) true := I.type.andThen (looks_mroIn X ho)
  refine codeAny_call_builtin SF.slot.plain SF.entry (@check_slot (model prog w) _ _ s "object.__setattr__" "object" "__setattr__" (.ref x) [.str name tk, v] [] _ SF.kind SF.split sub (SF.args (.ref x) (.str name tk) v) ?_)
  have hm : Looks (model prog w) s.heap (mroOf (.ref C)) cd.mro := (looks_clsIn X hc).andThen .now
  rw [osa_eq, refuse_eq]
  refine wpAny_bind (wpAny_bind (I.type.here (wpAny_bind (hm.here ?_))))
  rw [hr]
  refine wpAny_pure (wpAny_bind (I.type.here (wpAny_bind ((looks_findIn X ht).here (wpAny_bind (wpAny_pure ?_))))))
  exact h _

/-- a field is stored into an own exception that has no dict yet -/
theorem exc_store {E : Value → Shared → Prop} {tu : Addr} {name : Str} {v : Value} {cd : ClassData} {Q : Unit → Shared → Prop} (F : Fr h₀ L s.heap m) (N : News h₀ L s.heap ((x, excO C tu) :: news)) (X₀ : K.In h₀)
    (hsa : findIn K (.ref C) "__setattr__" = some (some (.builtin "object.__setattr__"))) (hc : clsIn K C = some cd)
    (hr : ∀ self, refuseLoop self "__setattr__" cd.mro = pure ()) (ho : mroIn K C (.type "object") = some true) (ht : findIn K (.ref C) name = some none) (hd : cd.hasDict = true) (hx : ∀ p ∈ news, p.1 < x)
    (h : ∀ D n tk h', Fr h₀ L h' m → News h₀ L h' ((D, oneO (PyData.keyHash w.params name) name tk v n) :: (x, excD C tu D) :: news) → (∀ p ∈ news, p.1 < D) → x < D → Q () { s with heap := h', toks := s.toks + 1 + 1 }) :
    wpAny (model prog w) A (setAttr (.ref x) name v) Q E s := by
  have X := X₀.keeps F.keep
  have I : InstAt s.heap x (excO C tu) C none := ⟨(N _ (.head _)).1, rfl, rfl, trivial⟩
  refine set_plain X I hsa ?_
  have X' : K.In ({ s with toks := s.toks + 1 } : Shared).heap := X
  refine osa_open2 (s := { s with toks := s.toks + 1 }) X' I hc hr ho ht fun b => ?_
  obtain ⟨hh, g, dr, t, os⟩ := s
  dsimp only at F N X I h ⊢
  have hxl : x < hh.objs.size := Heap.lt_size (N _ (.head _)).1
  refine wpAny_bind (wpAny_pure (wpAny_bind (wpAny_bind (wpAny_loadPart (N _ (.head _)).1 (wpAny_bind ((looks_clsIn X hc).here ?_))))))
  rw [hd]
  have N1 := N.push F emptyDict
  have F1 := F.push emptyDict
  refine wpAny_bind (wpAny_alloc ?_)
  have N2 : News h₀ L (hh.push emptyDict) ([(hh.objs.size, emptyDict)] ++ (x, excO C tu) :: news) := N1
  obtain ⟨U1, U2⟩ := news_upd (f := fun o => { o with dict := some hh.objs.size }) (o' := excD C tu hh.objs.size) F1 N2 (by intro p hp; rw [List.mem_singleton.mp hp]; exact Nat.ne_of_gt hxl) (fun p hp => Nat.ne_of_lt (hx p hp)) rfl rfl
  refine wpAny_bind (wpAny_update (N2 (x, excO C tu) (by simp)).1 ?_)
  refine wpAny_pure (a := some hh.objs.size) (wpAny_bind (wpAny_pure (wpAny_bind ?_)))
  have D := (U2 (hh.objs.size, emptyDict) (by simp)).1
  unfold nsSet
  refine wpAny_bind (wpAny_bind (wpAny_askSetting (wpAny_pure (wpAny_bind (wpAny_mkText (wpAny_bind (wpAny_loadPart D ?_)))))))
  have cc : (!(#[] : Array DictEntry).any (·.key.isStr name) && (#[] : Array DictEntry).any (·.refKey)) = false := by simp
  dsimp only
  rw [aRefKeyMayBeTheName_at, cc]
  have U3 : News h₀ L ((hh.push emptyDict).update x fun o => { o with dict := some hh.objs.size }) ([] ++ (hh.objs.size, emptyDict) :: ((x, excD C tu hh.objs.size) :: news)) := U2
  have hnD : ∀ p ∈ ((x, excD C tu hh.objs.size) :: news), p.1 ≠ hh.objs.size := by
    intro p hp
    rcases List.mem_cons.mp hp with rfl | hp
    · exact Nat.ne_of_lt hxl
    · exact Nat.ne_of_lt (Nat.lt_trans (hx p hp) hxl)
  obtain ⟨V1, V2⟩ := news_upd (f := Obj.putName name (PyData.keyHash w.params name) (.str name (t + 1)) v) (o' := oneO (PyData.keyHash w.params name) name (t + 1) v 1) U1 U3 (fun _ hp => (nomatch hp)) hnD (by rfl) rfl
  refine wpAny_updatePart D ?_
  refine wpAny_bind (wpAny_lookBehind (V2 (hh.objs.size, oneO (PyData.keyHash w.params name) name (t + 1) v 1) (by simp)).1 (pastItsLine_dict (by rw [sizeLine_eq]; show 1 ≤ _; decide)) ?_)
  exact wpAny_pure (h _ _ _ _ V1 V2 (fun p hp => Nat.lt_trans (hx p hp) hxl) hxl)
end
end
section
open PySem PySem.W PyProof.Rows PySem.Calls PySem.Spec
set_option maxHeartbeats 4000000
/-- what is said of an exception's object outlives the note of a frame -/
def Lasts (P : Obj → Prop) : Prop := ∀ o v, P o → P (o.mapFields (·.setIfInBounds 1 v))
def OwnExc (C D : Addr) (o : Obj) : Prop := o.cls = .ref C ∧ o.dict = some D
theorem ownExc_lasts (C D : Addr) : Lasts (OwnExc C D) := by
  rintro ⟨c, d, dt, sl⟩ v ⟨h1, h2⟩
  cases dt <;> exact ⟨h1, h2⟩
/-- an exception that flies (fl: the frame that notes it, or none) -/
def Noted (h base : Heap) (e : Addr) (P : Obj → Prop) (fl : Value) : Prop :=
  ∃ oe vs T oT ts, h.get? e = some oe ∧ P oe ∧ oe.data = .fields vs ∧ vs[1]? = some (.ref T) ∧ base.get? T = none ∧ T ≠ e ∧ h.get? T = some oT ∧ oT.data = .fields ts ∧ ts[3]? = some fl
def FlyP (base : Heap) (l : List Env) (e : Addr) (P : Obj → Prop) (fl : Value) (h : Heap) : Prop :=
  base.StaysIn h ∧ base.get? e = none ∧ h.FunFrames base l ∧ Noted h base e P fl

section
variable {M : Model} {A : Around} {E : Value → Shared → Prop} {s : Shared} {base : Heap} {env : Env} {outer l : List Env} {L e : Addr} {P : Obj → Prop}

/-- a frame's entry is made and hung onto the exception -/
theorem entryP {oe : Obj} {vs : Array Value} {head : Value} {hadNext : Bool} {Q : Unit → Shared → Prop} (hP : Lasts P) (hfr : A.frames = some (env :: outer)) (hl : s.heap.FunFrames base (env :: outer)) (hf : env.frame = some L)
    (he : s.heap.get? e = some oe) (hPe : P oe) (hkb : base.StaysIn s.heap) (hen : base.get? e = none) (hd : oe.data = .fields vs) (hsz : 1 < vs.size)
    (h : ∀ h', FlyP base (env :: outer) e P (rawInt L) h' → s.heap.UpToSlots h' → Q () { s with heap := h' }) :
    wpAny M A (do let a ← frameOf env; let pl ← entryPlaceOf L hadNext; let b ← EntryCells.newEntry head a .none (rawInt L) .none pl; setField (.ref e) 1 b) Q E s := by
  have hene : e ∉ (env :: outer).filterMap (·.frame) := fun hm => by
    obtain ⟨_, o, ho, hnf⟩ := hl.mem hm
    rw [he] at ho; injection ho with ho; subst ho; exact hnf vs hd
  refine wpAny_bind (wpAny_frameOf_fun hfr hl hf fun h₁ hs₁ => wpAny_bind (wpAny_entryPlaceOf fun pl hpl => ?_))
  unfold EntryCells.newEntry newFields
  refine wpAny_bind (wpAny_newObj_type ?_ (hpl.sizeOk5 _ _ _ _ _))
  generalize hx : ({ cls := .type "traceback", dict := none, data := .fields ([head, .ref L, .none, rawInt L, .none] ++ (if pl.isEmpty then List.replicate 6 Value.none else pl)).toArray } : Obj) = oT
  have hTd : oT.data = .fields ([head, .ref L, .none, rawInt L, .none] ++ (if pl.isEmpty then List.replicate 6 Value.none else pl)).toArray := by rw [← hx]
  have hTf : oT.isFreed = false := by rw [← hx]; rfl
  have he₁ : h₁.get? e = some oe := (hs₁.2.1 e hene).trans he
  have kb₁ : base.StaysIn h₁ := fun b o hbo => (hs₁.2.1 b fun hm => by rw [(hl.mem hm).1] at hbo; cases hbo).trans (hkb b o hbo)
  have he₂ := Heap.get?_push_of_some oT he₁
  refine wpAny_setField he₂ hd hsz ?_
  have hTe : h₁.objs.size ≠ e := Nat.ne_of_gt (Heap.lt_size he₁)
  have hd₃ := Obj.data_mapFields hd (·.setIfInBounds 1 (Value.ref h₁.objs.size))
  have he₃ := Heap.get?_update_self (Obj.mapFields (·.setIfInBounds 1 (Value.ref h₁.objs.size))) he₂ (Obj.isFreed_of_fields hd₃)
  have hT₃ := (Heap.get?_update_other (h₁.push oT) (Obj.mapFields (·.setIfInBounds 1 (Value.ref h₁.objs.size))) (Ne.symm hTe)).trans (Heap.get?_push_size h₁ hTf)
  have keep : ∀ b o, b ≠ e → h₁.get? b = some o → ((h₁.push oT).update e (Obj.mapFields (·.setIfInBounds 1 (Value.ref h₁.objs.size)))).get? b = some o := fun b o hbe hb => by
    rw [Heap.get?_update_other _ _ (Ne.symm hbe)]
    exact Heap.get?_push_of_some _ hb
  have noRec : ∀ b o, s.heap.get? b = some o → (∀ vs, o.data ≠ .fields vs) → b ≠ e := fun b o hb hnf q => by
    rw [q, he] at hb; injection hb with hb; subst hb; exact hnf vs hd
  refine h _ ⟨fun b o hbo => keep b o (fun q => by rw [q, hen] at hbo; cases hbo) (kb₁ b o hbo), hen, hl.of_keeps fun b o hb hnf => ?_, ?_⟩ fun b o hb hnf => ?_
  · obtain ⟨sl, hs⟩ := hs₁.2.2 b o hb
    exact ⟨_, keep b _ (noRec b o hb hnf) hs, rfl⟩
  · refine ⟨_, _, h₁.objs.size, _, _, he₃, hP _ _ hPe, hd₃, by simp [hsz], kb₁.fresh, hTe, hT₃, hTd, ?_⟩
    rcases hpl with rfl | ⟨_, _, _, _, _, _, _, rfl⟩ <;> simp
  · obtain ⟨sl, hs⟩ := hs₁.2.2 b o hb
    exact ⟨sl, keep b _ (noRec b o hb hnf) hs⟩

/-- the flight's note is struck out -/
theorem landP {fl : Value} {Q : Unit → Shared → Prop} (hh : FlyP base l e P fl s.heap) (hQ : ∀ h', FlyP base l e P .none h' → s.heap.UpToSlots h' → Q () { s with heap := h' }) : wpAny M A (setFlight (.ref e) none) Q E s := by
  obtain ⟨hkb, hen, hl, oe, vs, T, oT, ts, he, hPe, hd, h1, hnT, hTe, hT, hdT, h3⟩ := hh
  have hsz3 : 3 < ts.size := (Array.getElem?_eq_some_iff.mp h3).1
  have other : ∀ b, b ≠ T → (s.heap.update T (Obj.mapFields (·.setIfInBounds 3 ((none : Option Addr).elim Value.none fun f => rawInt f)))).get? b = s.heap.get? b :=
    fun b hb => Heap.get?_update_other _ _ (Ne.symm hb)
  have noRec : ∀ b o, s.heap.get? b = some o → (∀ vs, o.data ≠ .fields vs) → b ≠ T := fun b o hb hnf q => by
    rw [q, hT] at hb; injection hb with hb; subst hb; exact hnf ts hdT
  unfold setFlight
  refine wpAny_bind (wpAny_field he hd h1 ?_)
  rw [if_pos (show (Value.ref T != Value.none) = true from by simp)]
  refine wpAny_setField hT hdT hsz3 (hQ _ ⟨fun b o hbo => (other b fun q => by rw [q, hnT] at hbo; cases hbo).trans (hkb b o hbo), hen, hl.of_keeps fun b o hb hnf => ⟨o, (other b (noRec b o hb hnf)).trans hb, rfl⟩, ?_⟩
    fun b o hb hnf => ⟨o.slots, (other b (noRec b o hb hnf)).trans hb⟩)
  exact ⟨oe, vs, T, _, _, (other e (Ne.symm hTe)).trans he, hPe, hd, h1, hnT, hTe, Heap.get?_update_self _ hT (Obj.isFreed_of_fields (Obj.data_mapFields hdT _)), Obj.data_mapFields hdT _, by simp [hsz3]⟩

/-- a new exception leaves the frame that raises it -/
theorem leaveNewP {oe : Obj} {vs : Array Value} {Q : Unit → Shared → Prop} (hP : Lasts P) (hfr : A.frames = some (env :: outer)) (hl : s.heap.FunFrames base (env :: outer)) (hf : env.frame = some L)
    (he : s.heap.get? e = some oe) (hPe : P oe) (hkb : base.StaysIn s.heap) (hen : base.get? e = none) (hd : oe.data = .fields vs) (h1 : vs[1]? = some .none)
    (h : ∀ h', FlyP base outer e P .none h' → s.heap.UpToSlots h' → Q () { s with heap := h' }) : wpAny M A (leaving env (.ref e)) Q E s := by
  unfold leaving noteFrame
  simp only [hf]
  refine wpAny_bind (wpAny_bind (wpAny_field he hd h1 ?_))
  rw [if_neg (by decide)]
  refine entryP hP hfr hl hf he hPe hkb hen hd (Array.getElem?_eq_some_iff.mp h1).1 fun h₁ f₁ u₁ => landP f₁ fun h₂ f₂ u₂ => ?_
  obtain ⟨k1, k2, ⟨_, _, k3⟩, k4⟩ := f₂
  exact h h₂ ⟨k1, k2, k3, k4⟩ (u₁.trans u₂)

/-- the frame that will handle it notes it -/
theorem noteP {Q : Unit → Shared → Prop} (hP : Lasts P) (hfr : A.frames = some (env :: outer)) (hf : env.frame = some L) (hh : FlyP base (env :: outer) e P .none s.heap)
    (h : ∀ h', FlyP base (env :: outer) e P (rawInt L) h' → s.heap.UpToSlots h' → Q () { s with heap := h' }) : wpAny M A (noteFrame (.ref e) env) Q E s := by
  obtain ⟨hkb, hen, hl, oe, vs, T, oT, ts, he, hPe, hd, h1, hnT, hTe, hT, hdT, h3⟩ := hh
  unfold noteFrame
  simp only [hf]
  refine wpAny_bind (wpAny_field he hd h1 ?_)
  rw [if_pos (show (Value.ref T != Value.none) = true from by simp)]
  refine wpAny_bind (wpAny_field hT hdT h3 ?_)
  rw [if_neg (show ¬ ((Value.none == rawInt L) = true) from by simp [rawInt])]
  refine wpAny_bind (wpAny_setField hT hdT (Array.getElem?_eq_some_iff.mp h3).1 ?_)
  have other : ∀ b, b ≠ T → (s.heap.update T (Obj.mapFields (·.setIfInBounds 3 Value.none))).get? b = s.heap.get? b := fun b hb => Heap.get?_update_other _ _ (Ne.symm hb)
  have noRec : ∀ b o, s.heap.get? b = some o → (∀ vs, o.data ≠ .fields vs) → b ≠ T := fun b o hb hnf q => by
    rw [q, hT] at hb; injection hb with hb; subst hb; exact hnf ts hdT
  refine entryP hP hfr (hl.of_keeps fun b o hb hnf => ⟨o, (other b (noRec b o hb hnf)).trans hb, rfl⟩) hf ((other e (Ne.symm hTe)).trans he) hPe
    (fun b o hbo => (other b fun q => by rw [q, hnT] at hbo; cases hbo).trans (hkb b o hbo)) hen hd (Array.getElem?_eq_some_iff.mp h1).1 fun h' f' u' => h h' f' fun b o hb hnf => u' b o ((other b (noRec b o hb hnf)).trans hb) hnf
end

/-- it flies out of a frame, and what the ground G and the ledger hold lies as it lay (the frames' own slots apart) -/
def RaisedP (base G : Heap) (l : List Env) (e : Addr) (P : Obj → Prop) (news : List (Addr × Obj)) (h : Heap) : Prop :=
  ∃ B, base.StaysIn B ∧ (∀ b o, G.get? b = some o → b ∉ l.filterMap (·.frame) → B.get? b = some o) ∧ (∀ q ∈ news, B.get? q.1 = some q.2 ∧ G.get? q.1 = none ∧ base.get? q.1 = none) ∧ FlyP B l e P .none h

section
variable {M : Model} {A A₀ : Around} {E : Value → Shared → Prop} {s' : Shared} {base g G : Heap} {outer : List Env} {L a e : Addr} {m : Str → Option Value} {name : Str} {scope : Scope} {cd : Value} {P : Obj → Prop} {Q : Unit → Shared → Prop} {news : List (Addr × Obj)}
theorem leave_newP {oe : Obj} {vs : Array Value} (hP : Lasts P) (K : Below A base outer g) (F : Fr g L s'.heap m) (N : News g L s'.heap ((e, oe) :: news)) (hPe : P oe) (hd : oe.data = .fields vs) (h1 : vs[1]? = some .none) (hne : ∀ p ∈ news, p.1 ≠ e)
    (hQ : ∀ h', RaisedP base g outer e P news h' → g.UpToSlots h' → Q () { s' with heap := h' }) (hk : scope.kind = .function := by rfl) :
    wpAny M (A.deeper (envOf name scope L a cd)) (leaving (envOf name scope L a cd) (.ref e)) Q E s' := by
  have K' := K.push (name := name) (a := a) (cd := cd) F hk
  have he := N _ (.head _)
  have hbe : base.get? e = none := fresh_of_stays K.stays he.2.2
  have hin : ∀ env ∈ (envOf name scope L a cd :: outer), ∀ b, env.frame = some b → b ∈ e :: (envOf name scope L a cd :: outer).filterMap (·.frame) := fun env he b hb => .tail _ (List.mem_filterMap.mpr ⟨env, he, hb⟩)
  have st : base.StaysIn (hideAll s'.heap (e :: (envOf name scope L a cd :: outer).filterMap (·.frame))) := fun b o q => hideAll_get _ (K'.stays b o q) fun hm => by
    rcases List.mem_cons.mp hm with rfl | hm
    · rw [hbe] at q; cases q
    · rw [(K'.frames.mem hm).1] at q; cases q
  have sg : ∀ b o, g.get? b = some o → b ∉ outer.filterMap (·.frame) → (hideAll s'.heap (e :: (envOf name scope L a cd :: outer).filterMap (·.frame))).get? b = some o := fun b o q nm => hideAll_get _ (F.keep b o q) fun hm => by
    rcases List.mem_cons.mp hm with rfl | hm
    · rw [he.2.2] at q; cases q
    · rcases kts_mem hm with z | z
      · rw [z, kts_self F] at q; cases q
      · exact nm z
  have hl : ∀ q ∈ news, (hideAll s'.heap (e :: (envOf name scope L a cd :: outer).filterMap (·.frame))).get? q.1 = some q.2 ∧ g.get? q.1 = none ∧ base.get? q.1 = none := fun q hq => by
    have hN := N q (.tail _ hq)
    refine ⟨hideAll_get _ hN.1 fun hm => ?_, hN.2.2, fresh_of_stays K.stays hN.2.2⟩
    rcases List.mem_cons.mp hm with hm | hm
    · exact hne q hq hm
    · obtain ⟨env, hv, hf⟩ := List.mem_filterMap.mp hm
      rcases List.mem_cons.mp hv with rfl | hv
      · exact hN.2.1 (Option.some.inj hf).symm
      · obtain ⟨o, ho, _⟩ := (K.frames.mem (List.mem_filterMap.mpr ⟨env, hv, hf⟩)).2
        rw [hN.2.2] at ho; cases ho
  refine leaveNewP hP K'.stack (funFrames_hide K'.frames hin) rfl he.1 hPe (fun b o hb => of_hideAll _ hb) (hideAll_none _ (.head _)) hd h1 fun h' f' u' => ?_
  exact hQ h' ⟨_, st, sg, hl, f'⟩ ((Heap.UpToSlots.of_keeps F.keep).trans u')

/-- the frame that catches it: noted, and the flight's note struck out -/
theorem catchP {B : Heap} (hP : Lasts P) (K : Below A₀ base outer g) (hfl : FlyP B (envOf name scope L a cd :: outer) e P .none s'.heap) (hsm : G.UpToSlots s'.heap)
    (h : ∀ h', FlyP B (envOf name scope L a cd :: outer) e P .none h' → G.UpToSlots h' → Q () { s' with heap := h' }) :
    wpAny M (A₀.deeper (envOf name scope L a cd)) (noteFrame (.ref e) (envOf name scope L a cd)) (fun _ s₂ => wpAny M (A₀.deeper (envOf name scope L a cd)) (setFlight (.ref e) none) Q E s₂) E s' := by
  refine noteP hP (Around.frames_deeper K.stack) rfl hfl fun h₄ f₄ u₄ => ?_
  refine landP f₄ fun h₅ f₅ u₅ => ?_
  exact h h₅ f₅ (hsm.trans (u₄.trans u₅))

/-- behind the catch the frame stands upon a ground of its own again -/
theorem groundP {B h₆ : Heap} (K : Below A₀ base outer g) (F : Fr g L G m) (hBG : ∀ b o, G.get? b = some o → b ∉ (envOf name scope L a cd :: outer).filterMap (·.frame) → B.get? b = some o)
    (hl : ∀ q ∈ news, B.get? q.1 = some q.2 ∧ G.get? q.1 = none ∧ base.get? q.1 = none) (hfl : FlyP B (envOf name scope L a cd :: outer) e P .none h₆) (hsm : G.UpToSlots h₆) (D : KtsDicts (outer.filterMap (·.frame)) g) :
    ∃ g' oe vs, KtsTurn (outer.filterMap (·.frame)) g g' ∧ Fr g' L h₆ m ∧ Below A₀ base outer g' ∧ KtsDicts (outer.filterMap (·.frame)) g' ∧ News g' L h₆ ((e, oe) :: news) ∧ P oe ∧ oe.data = .fields vs := by
  have hL : B.get? L = none := by
    obtain ⟨_, ⟨L', _, hf, hn', _⟩, _⟩ := hfl.2.2.1
    obtain rfl : L = L' := Option.some.inj hf
    exact hn'
  obtain ⟨g₆, T₆, F₆, K₆⟩ := kts_ground K F hBG hfl.1 hsm
  obtain ⟨f1, f2, f3, oe, vs, T, oT, ts, hoe, hPe, hoed, r⟩ := hfl
  have ne₆ : g₆.get? e = none := T₆.none_ _ (kts_fresh F hBG f2 fun o ho m => by
    obtain ⟨_, o', ho', hd⟩ := K.frames.mem m
    rw [ho] at ho'
    cases ho'
    obtain ⟨sl, hs⟩ := hsm _ _ (F.keep _ _ ho) hd
    rw [hoe] at hs
    cases hs
    exact hd _ hoed)
  have N₆ : News g₆ L h₆ [(e, oe)] := News.more F₆ News.nil hoe (fun es n q => by rw [hoed] at q; cases q) ne₆
  have Nl : News g₆ L h₆ news := fun q hq => ⟨f1 _ _ (hl q hq).1, (fun z => by have := (hl q hq).1; rw [z, hL] at this; cases this), T₆.none_ _ (kts_none F.keep (hl q hq).2.1)⟩
  exact ⟨g₆, oe, vs, T₆, F₆, K₆, D.turn T₆, fun q hq => (List.mem_cons.mp hq).elim (fun z => N₆ q (z ▸ .head _)) (Nl q), hPe, hoed⟩
end

section
variable {prog : Program} {w : World} {A₀ : Around} {E : Value → Shared → Prop} {s' : Shared} {base g g₀ G : Heap} {outer : List Env} {L a e C Dd : Addr} {m : Str → Option Value} {name : Str} {scope : Scope} {cd : Value}
  {n : Str} {b₀ : Stmt} {suite : List Stmt} {pos np : Pos} {rest : List ExceptHandler} {Q : Flow → Shared → Prop} {news : List (Addr × Obj)} {KF : Frag}
  {p : Program} {loose : List Str} {mean : ExcName → Option Value} {mg mb : Str → Option Value} {x : Str} {T' : String}

theorem ownExc_open {oe : Obj} {vs : Array Value} (h : OwnExc C Dd oe) (hd : oe.data = .fields vs) : ∃ sl, oe = { cls := .ref C, dict := some Dd, data := .fields vs, slots := sl } := by
  obtain ⟨oc, od, odt, osl⟩ := oe
  obtain ⟨h1, h2⟩ := h
  dsimp only at h1 h2 hd
  subst h1 h2 hd
  exact ⟨osl, rfl⟩

/-- caught by its own class's name, «as n» -/
theorem caughtP_as (R : RaisedP base G (envOf name scope L a cd :: outer) e (OwnExc C Dd) news s'.heap) (F : Fr g L G m) (K : Below A₀ base outer g) (hsm : G.UpToSlots s'.heap) (XB : KF.In base) (TB : Top p loose mean mg mb base)
    (D : KtsDicts (outer.filterMap (·.frame)) g) (T0 : KtsTurn (outer.filterMap (·.frame)) g₀ g)
    (ex : nsIn KF mainGlobals x = some (some (.ref C))) (q : ktsIn KF C "BaseException" = true)
    (k : ∀ h' g' vs sl tk, KtsTurn (outer.filterMap (·.frame)) g₀ g' → Fr g' L h' (fun y => if y = n then some (.ref e) else m y) → News g' L h' ((e, { cls := .ref C, dict := some Dd, data := .fields vs, slots := sl }) :: news) → Below A₀ base outer g' → KF.In g' → Top p loose mean mg mb g' → KtsDicts (outer.filterMap (·.frame)) g' →
      wpAny (model prog w) ((A₀.deeper (envOf name scope L a cd)).mark (some (.ref e))) (execs (b₀ :: suite) (envOf name scope L a cd))
        (fun f s₄ => wpAny (model prog w) (A₀.deeper (envOf name scope L a cd)) (do bindName (envOf name scope L a cd) n .none; unbindBehindTheSuite (envOf name scope L a cd) n pos) (fun _ s₅ => Q f s₅) E s₄)
        (AsSuiteRaised (model prog w) ((A₀.deeper (envOf name scope L a cd)).mark (some (.ref e))) (envOf name scope L a cd) n pos (notedBy (model prog w) ((A₀.deeper (envOf name scope L a cd)).mark (some (.ref e))) (envOf name scope L a cd) (cameBackBy (model prog w) (A₀.deeper (envOf name scope L a cd)) (envOf name scope L a cd) E)))
        { s' with heap := h', toks := tk })
    (hk : scope.kind = .function := by rfl) (hlo : (envOf name scope L a cd).kindOf n = some .local := by rfl) (hx : (envOf name scope L a cd).kindOf x = some .globalImplicit := by rfl) (hd : (x == ("__debug__" : Str)) = false := by decide) :
    wpAny (model prog w) (A₀.deeper (envOf name scope L a cd)) (noteFrame (.ref e) (envOf name scope L a cd))
      (fun _ s₂ => wpAny (model prog w) (A₀.deeper (envOf name scope L a cd)) (setFlight (.ref e) none) (fun _ s₃ =>
        wpAny (model prog w) (A₀.deeper (envOf name scope L a cd)) (handleBy (.ref e) (envOf name scope L a cd) (.ExceptHandler (some (.Name x np)) (some n) (b₀ :: suite) pos :: rest)) Q E s₃) E s₂) E s' := by
  obtain ⟨B, hB, hBG, hl, hfl⟩ := R
  refine catchP (ownExc_lasts C Dd) K hfl hsm fun h₅ f₅ u₅ => ?_
  obtain ⟨g₅, o₅, v₅, T₅, F₅, K₅, D₅, N₅, P₅, d₅⟩ := groundP K F hBG hl f₅ u₅ D
  have X₅ : KF.In g₅ := XB.keeps K₅.stays
  obtain ⟨nm, q', N, bs, bm, hdct, sn, sub, ab, col, dd, k0, k1, k2, k3, k5, newId, hC, hbase, hbT⟩ := kts_cls X₅ q
  have hC₅ := F₅.keep _ _ hC
  refine wpAny_handleBy_cons (codeAny_handlers_test (name_K F₅ X₅ (topRead_of (TB.keeps K₅.stays)) ex ?_ hk hx hd)) (by intro q; cases q)
  refine wpAny_excMatches_sub_self hC₅ (N₅ _ (.head _)).1 P₅.1 hbase (codeAny_handlers_suite_as ?_)
  refine landP f₅ fun h₆ f₆ u₆ => ?_
  obtain ⟨g₆, o₆, v₆, T₆, F₆, K₆, D₆, N₆, P₆, d₆⟩ := groundP K F hBG hl f₆ (u₅.trans u₆) D
  obtain ⟨sl, rfl⟩ := ownExc_open P₆ d₆
  refine stN F₆ N₆ (fun h₇ F₇ N₇ => ?_) hk hlo
  exact k h₇ g₆ _ _ _ (T0.trans T₆) F₇ N₇ K₆ (XB.keeps K₆.stays) (TB.keeps K₆.stays) D₆

/-- caught by a built-in class's name -/
theorem caughtP_ty (R : RaisedP base G (envOf name scope L a cd :: outer) e (OwnExc C Dd) news s'.heap) (F : Fr g L G m) (K : Below A₀ base outer g) (hsm : G.UpToSlots s'.heap) (XB : KF.In base) (TB : Top p loose mean mg mb base)
    (D : KtsDicts (outer.filterMap (·.frame)) g) (T0 : KtsTurn (outer.filterMap (·.frame)) g₀ g)
    (q : ktsIn KF C T' = true) (ex : nsIn KF mainGlobals x = some none) (hv : bootBuiltins x = some (.type T')) (hn' : x ≠ "__name__")
    (hexc : isSubtype (.type T') (.type "BaseException") = pure true) (hnt : isSubtype (.type ((Manifest.find? T').elim "type" fun y => y.metatype)) (.type "tuple") = pure false)
    (k : ∀ h' g' vs sl, KtsTurn (outer.filterMap (·.frame)) g₀ g' → Fr g' L h' m → News g' L h' ((e, { cls := .ref C, dict := some Dd, data := .fields vs, slots := sl }) :: news) → Below A₀ base outer g' → KF.In g' → Top p loose mean mg mb g' → KtsDicts (outer.filterMap (·.frame)) g' →
      wpAny (model prog w) ((A₀.deeper (envOf name scope L a cd)).mark (some (.ref e))) (execs (b₀ :: suite) (envOf name scope L a cd)) Q E { s' with heap := h' })
    (hk : scope.kind = .function := by rfl) (hx : (envOf name scope L a cd).kindOf x = some .globalImplicit := by rfl) (hd : (x == ("__debug__" : Str)) = false := by decide)
    (hE : PassesOwnAt (model prog w) ((A₀.deeper (envOf name scope L a cd)).mark (some (.ref e))) (A₀.deeper (envOf name scope L a cd)) (envOf name scope L a cd) E := by passes_own) :
    wpAny (model prog w) (A₀.deeper (envOf name scope L a cd)) (noteFrame (.ref e) (envOf name scope L a cd))
      (fun _ s₂ => wpAny (model prog w) (A₀.deeper (envOf name scope L a cd)) (setFlight (.ref e) none) (fun _ s₃ =>
        wpAny (model prog w) (A₀.deeper (envOf name scope L a cd)) (handleBy (.ref e) (envOf name scope L a cd) (.ExceptHandler (some (.Name x np)) none (b₀ :: suite) pos :: rest)) Q E s₃) E s₂) E s' := by
  obtain ⟨B, hB, hBG, hl, hfl⟩ := R
  refine catchP (ownExc_lasts C Dd) K hfl hsm fun h₅ f₅ u₅ => ?_
  obtain ⟨g₅, o₅, v₅, T₅, F₅, K₅, D₅, N₅, P₅, d₅⟩ := groundP K F hBG hl f₅ u₅ D
  have X₅ : KF.In g₅ := XB.keeps K₅.stays
  obtain ⟨nm, q', N, bs, bm, hdct, sn, sub, ab, col, dd, k0, k1, k2, k3, k5, newId, hC, hbase, hbT⟩ := kts_cls X₅ q
  have hC₅ := F₅.keep _ _ hC
  refine wpAny_handleBy_cons (codeAny_handlers_test (name_B F₅ X₅ (topRead_of (TB.keeps K₅.stays)) ex hv hn' ?_ hk hx hd)) (by intro q; cases q)
  refine wpAny_excMatches_sub_type hC₅ (N₅ _ (.head _)).1 P₅.1 hexc hnt ?_
  rw [hbT]
  refine codeAny_handlers_suite ?_
  refine landP f₅ fun h₆ f₆ u₆ => ?_
  obtain ⟨g₆, o₆, v₆, T₆, F₆, K₆, D₆, N₆, P₆, d₆⟩ := groundP K F hBG hl f₆ (u₅.trans u₆) D
  obtain ⟨sl, rfl⟩ := ownExc_open P₆ d₆
  exact wpAny_passesOwnAt hE (k h₆ g₆ _ _ (T0.trans T₆) F₆ N₆ K₆ (XB.keeps K₆.stays) (TB.keeps K₆.stays) D₆)
end
end
section
open PySem PySem.W PyProof.Rows PySem.Calls PySem.Spec Builtin Builtin.ObjectAttr
set_option maxHeartbeats 400000
/-- an own exception's class -/
def ExcCls (h : Heap) (C : Addr) : Prop := ∃ nm qn N bs bm hdct sn sub ab col dd k0 k1 k2 k3 k5 newId, h.get? C = some (excClassObj nm qn C N bs bm hdct sn sub ab col dd k0 k1 k2 k3 k5 newId) ∧ bm.contains (.type "BaseException") = true
theorem excCls_of {K : Frag} {h : Heap} {C : Addr} (X : K.In h) (q : ktsIn K C "BaseException" = true) : ExcCls h C := by
  obtain ⟨nm, qn, N, bs, bm, hdct, sn, sub, ab, col, dd, k0, k1, k2, k3, k5, newId, hC, hb, _⟩ := kts_cls X q
  exact ⟨nm, qn, N, bs, bm, hdct, sn, sub, ab, col, dd, k0, k1, k2, k3, k5, newId, hC, hb⟩
/-- a value that may be raised: an own exception's new object with a dict -/
def RaisableD (C : Addr) (E : Value → Shared → Prop) (v : Value) (s₁ : Shared) : Prop := ∃ a tu D, v = .ref a ∧ ExcCls s₁.heap C ∧ s₁.heap.get? a = some (excD C tu D) ∧ E (.ref a) s₁
section
variable {M : Model} {A : Around} {E : Value → Shared → Prop} {s : Shared} {env : Env} {C : Addr}
theorem raiseStmtD {x : Sem Value} {Q : Flow → Shared → Prop} (hh : A.handled = none) (h : wpAny M A x (RaisableD C E) E s) : wpAny M A (raiseStmt env (some x) none) Q E s := by
  unfold raiseStmt
  refine wpAny_bind (wpAny_mono h (fun v s₁ h₁ => ?_) fun _ _ x => x)
  obtain ⟨e, t, D, rfl, ⟨nm, q, N, bs, bm, hdct, sn, sub, ab, col, dd, k0, k1, k2, k3, k5, newId, hC, hbase⟩, he, hE⟩ := h₁
  have hcB : (Value.ref C :: bm).contains (.type "BaseException") = true := by rw [List.contains_cons, hbase, Bool.or_true]
  obtain ⟨hp, g, d, tk, os⟩ := s₁
  have he' : hp.get? e = some { cls := .ref C, dict := some D, data := .fields #[.ref t, .none, .none, .none, .bool false, .none] } := he
  repeat (first | with_reducible refine wpAny_loadPart_at he' ?_ | with_reducible refine wpAny_loadPart_at hC ?_ | (with_reducible refine wpAny_isSubtype_exc hC ?_; rw [hcB]) | wp_step)
  exact wpAny_raiseNew_none hh hE
theorem raise_own {e : Expr} {pos : Pos} {Q : Flow → Shared → Prop} (C : Addr) (hh : A.handled = none) (h : wpAny M A (eval e env) (RaisableD C E) E s) : wpAny M A (exec (.Raise (some e) none pos) env) Q E s := by
  show wpAny M A (do standAt pos; raiseStmt env (some (do let v ← eval e env; standAt pos; pure v)) none) Q E s
  refine wpAny_bind (wpAny_standAt (raiseStmtD (C := C) hh ?_))
  exact wpAny_bind (wpAny_mono h (fun v s₁ h₁ => wpAny_bind (wpAny_standAt (wpAny_pure h₁))) fun _ _ x => x)
end
section
variable {prog : Program} {w : World} {A : Around} {E : Value → Shared → Prop} {s : Shared} {K : Frag} {x C L : Addr} {h₀ : Heap} {m : Str → Option Value} {news : List (Addr × Obj)} {ox : Obj} {od : Option Obj} {name : Str} {expr : Bool} {Q : Value → Shared → Prop}
theorem slot_bexc_ga : Slot "ValueError" "__getattribute__" "BaseException.__getattribute__" := PySem.F.attr_ValueError.ga
/-- a field of an own exception's dict -/
theorem exc_get {v : Value} (X : K.In s.heap) (I : InstAt s.heap x ox C od) (hga : findIn K (.ref C) "__getattribute__" = some (some (.builtin "BaseException.__getattribute__"))) (hgt : findIn K (.ref C) "__getattr__" = some none)
    (hb : mroIn K C (.type "BaseException") = some true) (hf : findObj K C od name = some (.value v)) (hh : handedIn v = true) (h : Q v { s with toks := s.toks + 1 }) : wpAny (model prog w) A (getAttr (.ref x) name expr) Q E s := by
  obtain ⟨hp, g, d, t, os⟩ := s
  dsimp only at X I h
  have L0 := I.type (M := model prog w)
  have L1 := looks_findIn (M := model prog w) X hga
  have L2 := looks_findIn (M := model prog w) X hgt
  have L3 := looks_find (M := model prog w) X I hf
  have hi : Looks (model prog w) hp (isInstance (.ref x) (.type "BaseException")) true := L0.andThen (looks_mroIn X hb)
  have f3 := slot_bexc_ga.bind (.ref x)
  have hx0 : (expr && onTheHeap (Value.builtin "BaseException.__getattribute__")) = false := by cases expr <;> rfl
  have hx2 : (Value.builtin "BaseException.__getattribute__" == Value.builtin "object.__getattribute__") = false := by decide +kernel
  have hx1 : (onTheHeap (Value.ref C) && Value.builtin "BaseException.__getattribute__" == Value.builtin "object.__getattribute__") = false := by rw [hx2]; rfl
  have hk : builtinKind "BaseException.__getattribute__" = some .slot := by decide +kernel
  have hs : splitId "BaseException.__getattribute__" = some ("BaseException", "__getattribute__") := by decide +kernel
  unfold getAttr getAttrBy
  refine wpAny_bind (wpAny_mkText (wpAny_holding (wpAny_bind (L0.at (wpAny_bind (L1.at ?_))))))
  dsimp only
  rw [hx1]
  rw [if_neg Bool.false_ne_true]
  unfold getAttrByItsOwn hookBefore
  refine wpAny_bind ?_
  rw [if_pos (show onTheHeap (Value.ref C) = true from rfl)]
  refine L2.at ?_
  refine wpAny_bind (wpAny_attempt (wpAny_holding ?_))
  unfold callGetattribute
  rw [hx0, if_neg Bool.false_ne_true]
  unfold boundAndCalled
  rw [f3]
  refine wpAny_bind (wpAny_pure (wpAny_call ?_))
  show codeAny _ _ (.call (.builtin "BaseException.__getattribute__") ⟨[.ref x, .str name t], []⟩) _ _
  refine codeAny_call_builtin slot_bexc_ga.plain F.entry_bexc_ga (@check_slot (model prog w) _ _ ⟨hp, g, d, t + 1, os⟩ "BaseException.__getattribute__" "BaseException" "__getattribute__" (.ref x) [.str name t] [] _ hk hs hi (F.args_bexc_ga _ _) ?_)
  unfold Builtin.«object.__getattribute__»
  refine wpAny_bind (wpAny_pure (wpAny_bind (wpAny_pure (wpAny_bind (L0.at (wpAny_bind (L3.at (wpAny_pure ?_))))))))
  show wpAny _ _ (handedOut v) _ _ _
  rw [handedOut_of hh]
  exact wpAny_pure h
end
end
section
open PySem PySem.W PyProof.Rows
set_option maxHeartbeats 8000000
noncomputable abbrev PR : Program := PySem.Challenge.rw_sh0002_01.row.prog
noncomputable abbrev LO : List Str := looseW hd.view_39 [Str.ofString "IllegalMonthError"]
abbrev mroX : List Value := [.type "ValueError", .type "IndexError", .type "LookupError", .type "Exception", .type "BaseException", .type "object"]
theorem mro_passes (self : Value) : refuseLoop self "__setattr__" (.ref 38 :: mroX) = pure () := by
  rw [refuseLoop_ref]; kernel_rfl
local macro_rules | `(tactic| k_room) => `(tactic| ktr_room)
theorem make_exc {w : World} {mean : ExcName → Option Value} {mg mb : Str → Option Value} {news : List (Addr × Obj)} {dp un : Nat} {gd : Option (List Code)} {cn : Str} {cs : Scope} {a : Addr} {ccd : Value} {outer : List Env} {A₀ : Around} {base h₀ : Heap} {L : Addr} {m : Str → Option Value} {s : Shared} {Q E : Value → Shared → Prop}
    (p : Int) (tk : Tok) (B : Below A₀ base outer h₀) (F : Fr h₀ L s.heap m) (X : (hd.heap_39 w.params).In h₀) (N : News h₀ L s.heap news) (T : Top hd.view_39 LO mean mg mb h₀) (hk : cs.kind = .function) (hdp : dp + 3 < recursionLimit) (hu : un + 50 < cLine)
    (h : ∀ e tu D n tk₁ h' tk', Fr h₀ L h' m → News h₀ L h' ((e, excD 38 tu D) :: (D, oneO (PyData.keyHash w.params "month") "month" tk₁ (.int p tk) n) :: news) → (∀ q ∈ (D, oneO (PyData.keyHash w.params "month") "month" tk₁ (.int p tk) n) :: news, q.1 ≠ e) → Q (.ref e) { s with heap := h', toks := tk' }) :
    wpAny (model PR w) (ktrTop dp un gd cn cs L a ccd [] outer) (call (.ref 38) [.int p tk]) Q E s := by
  w_on
  have ff := Mine.fill
  revert ff
  k_fill
  intro _
  refine exc_call2 (K := hd.heap_39 w.params) PySem.F.excBase_ValueError (bm := mroX) (by decide +kernel) (by decide +kernel) (by decide +kernel) F N (X.keeps F.keep) (by k_is) (by k_is) (by k_is) (by rw [PySem.sizeLine_eq]; exact Nat.le_of_ble_eq_true rfl) ?_
  intro e tu h' F' N' l1 l2
  have hx : ∀ q ∈ (tu, tupO [.int p tk]) :: news, q.1 < e := by
    intro q hq
    rcases List.mem_cons.mp hq with rfl | hq
    · exact l2
    · exact Nat.lt_trans (l1 q hq) l2
  clear F N
  k_dflt cell_enter
  k_steps
  k_here
  k_dflt (refine' exc_store ?F ?N ?X ?hsa ?hc ?hr ?ho ?ht ?hd ?hx ?_)
  (case F => k_asm)
  (case N => k_asm)
  (case X => k_asm)
  (case hsa => k_is)
  (case hc => k_is)
  (case hr => exact mro_passes)
  (case ho => k_is)
  (case ht => k_is)
  (case hd => rfl)
  (case hx => exact hx)
  intro D n tk₁ h'' F'' N'' l3 l4
  k_steps
  rename Fr h₀ L h'' m => FE
  rename News h₀ L h'' _ => NE
  refine h e tu D n tk₁ h'' _ FE ?_ ?_
  · intro q hq
    refine NE q ?_
    rcases List.mem_cons.mp hq with rfl | hq
    · exact .tail _ (.head _)
    · rcases List.mem_cons.mp hq with rfl | hq
      · exact .head _
      · exact .tail _ (.tail _ (.tail _ hq))
  · intro q hq
    rcases List.mem_cons.mp hq with rfl | hq
    · exact Nat.ne_of_gt l4
    · exact Nat.ne_of_lt (hx q (.tail _ hq))
end
section
open PySem PySem.W PyProof.Rows PySem.Builtin
set_option maxHeartbeats 1000000
theorem slotG_int_repr : SlotG "int" (Str.ofString "__repr__") "int.__repr__" := F.slot_int_repr.toG
theorem reprUnder_int {prog : Program} {w : World} {A : Around} {E : Value → Shared → Prop} {s : Shared} {b : Nat} {n : Int} {u : Tok} {Q : Value → Shared → Prop} (hd : n.natAbs.log2 < 1920)
    (h : Q (.str (Str.ofString (toString n)) s.toks) { s with toks := s.toks + 1 }) : wpAny (model prog w) A (pyReprObjUnder b (.int n u)) Q E s := by
  have hv : [Value.int n u].any Value.onHeap = false := rfl
  unfold pyReprObjUnder pyReprObjBy
  simp only [cRoomFor, hv, Bool.false_eq_true, if_false, pure_bind]
  refine wpAny_bind (wpAny_specialOf (name := Str.ofString "__repr__") (typeIs_int s n u) F.slot_int_repr.lookup ?_)
  refine wpAny_bind (wpAny_callSpecialIfBoundBy?_slotG (name := Str.ofString "__repr__") (typeIs_int s n u) slotG_int_repr ?_)
  show wpAny _ _ (call (.builtin "int.__repr__") [.int n u]) _ _ _
  refine call_gives F.slot_int_repr (typeIs_int s n u) F.entry_int_repr (F.args_int_repr_1 _) (gives_int_repr n u hd) ⟨int_text_fits hd, ?_⟩
  exact wpAny_bind (wpAny_isInstance (T := "str") (b := true) rfl isSubtype_str_str (wpAny_pure h))
theorem mod_r {prog : Program} {w : World} {A : Around} {E : Value → Shared → Prop} {s : Shared} {n : Int} {t u : Tok} {Q : Value → Shared → Prop} (hd : n.natAbs.log2 < 1920) (hl : (Str.ofString (toString n)).length ≤ 1000000)
    (h : ∀ t' k, Q (.str (Str.ofString "bad month number " ++ Str.ofString (toString n) ++ Str.ofString "; must be 1-12") t') { s with toks := k }) :
    wpAny (model prog w) A (binaryOp .Mod (.str "bad month number %r; must be 1-12" t) (.int n u)) Q E s := by
  refine' KPc.mod_lit ?k1 hd ?k2 h
  case k1 => kpc_eq
  case k2 =>
    intros
    apply KPc.meets_of
    intro _ _ _ _ _ _ _
    rw [KPc.entry_is]
    unfold Builtin.Str.percentFormat
    refine wpAny_bind (wpAny_isInstance (typeIs_int _ _ _) F.sub_int_tuple ?_)
    refine wpAny_bind (wpAny_of_eq (a := none) rfl ?_)
    refine wpAny_bind (wpAny_of_eq (KPc.fills _ _) ?_)
    kpc_if
    refine wpAny_bind (wpAny_pure ?_)
    refine wpAny_bind ?_
    rw [KPc.range_list]
    refine KPc.start ?_
    intro _ _
    refine KPc.turn ?_
    kpc_check
    (repeat kpc_if)
    (refine wpAny_pure ?_; kpc_piece)
    refine KPc.turn ?_
    kpc_check
    (repeat kpc_if)
    refine wpAny_bind ?_
    refine wpAny_holding ?_
    (repeat kpc_if)
    refine wpAny_bind ?_
    (repeat kpc_if)
    refine reprUnder_int (by assumption) ?_
    refine wpAny_bind (wpAny_of_eq (a := some _) rfl ?_)
    refine wpAny_pure ?_
    refine wpAny_pure ?_
    kpc_piece
    kpc_turns
end
section
open PySem PySem.W PyProof.Rows
set_option maxHeartbeats 1000000
theorem strOk_ofString (x : String) : PyData.strOk (Str.ofString x) = true := by
  unfold PyData.strOk
  rw [Str.ofString_eq_toList]
  simp only [List.all_toArray, List.all_map, List.all_eq_true, Function.comp]
  intro c _
  have h := c.valid
  rcases h with h | ⟨_, h⟩
  · exact decide_eq_true (Nat.lt_trans h (by decide))
  · exact decide_eq_true h
theorem strOk_append {x y : Str} (hx : PyData.strOk x = true) (hy : PyData.strOk y = true) : PyData.strOk (x ++ y) = true := by
  unfold PyData.strOk at *
  rw [Str.cps_append, Array.all_append, hx, hy]; rfl
theorem ne_said {prog : Program} {w : World} {A : Around} {E : Value → Shared → Prop} {s : Shared} {h₀ : Heap} {L a b : Addr} {news : List (Addr × Obj)} {p : Int} {S : Str} {t u t' u' : Tok} {n n' : Nat} {Q : Value → Shared → Prop}
    (N : News h₀ L s.heap news) (ma : (a, W.listOf #[.int p t, .str S u] n) ∈ news) (mb : (b, W.listOf #[.int p t', .str S u'] n') ∈ news) (hS : PyData.strOk S = true) (hu : A.units + 64 < cLine) (h : Q (.bool false) s) :
    wpAny (model prog w) A (compareOp .NotEq (.ref a) (.ref b)) Q E s := by
  have ok : ∀ d ∈ [Dat.int p, Dat.str S], kqdOk 8 d = true := by
    intro d hd
    simp only [List.mem_cons, List.not_mem_nil, or_false] at hd
    rcases hd with rfl | rfl
    · rfl
    · exact hS
  refine kqd_ne (xs := [.int p t, .str S u]) (ys := [.int p t', .str S u']) (n₁ := news) (n₂ := news) (ds := [Dat.int p, Dat.str S]) (es := [Dat.int p, Dat.str S]) N ma rfl rfl (.cons (.int _ _) (.cons (.str _ _) .nil)) (fun _ h => h) mb rfl rfl (.cons (.int _ _) (.cons (.str _ _) .nil)) (fun _ h => h) ok ok hu ?_
  simp only [decide_true, Bool.not_true]
  exact h
end
section
open PySem PySem.W PyProof.Rows
set_option maxHeartbeats 3000000
/-- a contract of a def that the law calls: from the law's own frame, with room, it gives what Ret takes, and the ledger lies as it lay -/
def Claim (w : World) (mean : ExcName → Option Value) (mg mb : Str → Option Value) (f : Addr) (vs : List Value) (Ret : Value → Prop) : Prop :=
  ∀ (news : List (Addr × Obj)) (dp un : Nat) (gd : Option (List Code)) (cn : Str) (cs : Scope) (a : Addr) (ccd : Value) (A₀ : Around) (h₀ : Heap) (L : Addr) (m : Str → Option Value) (s : Shared) (Q E : Value → Shared → Prop),
    Below A₀ h₀ [] h₀ → Fr h₀ L s.heap m → (hd.heap_39 w.params).In h₀ → News h₀ L s.heap news → Top hd.view_39 LO mean mg mb h₀ → cs.kind = .function → dp + 20 < recursionLimit → un + 200 < cLine →
    (∀ (v : Value) (h' : Heap) (tk' : Nat), Ret v → Fr h₀ L h' m → News h₀ L h' news → Q v { s with heap := h', toks := tk' }) →
      wpAny (model PR w) (ktrTop dp un gd cn cs L a ccd [] []) (call (.ref f) vs) Q E s
theorem leave_own {M : Model} {A : Around} {E : Value → Shared → Prop} {s' : Shared} {base g : Heap} {outer : List Env} {L a e C tu Dd : Addr} {m : Str → Option Value} {name : Str} {scope : Scope} {cd : Value} {Q : Unit → Shared → Prop} {news : List (Addr × Obj)}
    (K : Below A base outer g) (F : Fr g L s'.heap m) (N : News g L s'.heap ((e, excD C tu Dd) :: news)) (hne : ∀ p ∈ news, p.1 ≠ e)
    (hQ : ∀ h', RaisedP base g outer e (OwnExc C Dd) news h' → g.UpToSlots h' → Q () { s' with heap := h' }) (hk : scope.kind = .function) :
    wpAny M (A.deeper (envOf name scope L a cd)) (leaving (envOf name scope L a cd) (.ref e)) Q E s' :=
  leave_newP (ownExc_lasts C Dd) K F N ⟨rfl, rfl⟩ rfl rfl hne hQ hk
theorem find_month (P : Params) (hs : Int) (tk : Tok) (v : Value) (n : Nat) : findObj (hd.heap_39 P) 38 (some (oneO hs (Str.ofString "month") tk v n)) (Str.ofString "month") = some (.value v) := by kernel_rfl
theorem get_month {prog : Program} {w : World} {A : Around} {E : Value → Shared → Prop} {s : Shared} {e L Dd : Addr} {h₀ : Heap} {m : Str → Option Value} {news : List (Addr × Obj)} {expr : Bool} {Q : Value → Shared → Prop} {P : Params} {vs : Array Value} {sl : Array (Option Value)} {hs : Int} {tk : Tok} {v : Value} {n : Nat}
    (F : Fr h₀ L s.heap m) (X₀ : (hd.heap_39 P).In h₀) (N : News h₀ L s.heap news) (h1 : (e, ({ cls := .ref 38, dict := some Dd, data := .fields vs, slots := sl } : Obj)) ∈ news) (h2 : (Dd, oneO hs (Str.ofString "month") tk v n) ∈ news) (hh : handedIn v = true)
    (h : Q v { s with toks := s.toks + 1 }) : wpAny (model prog w) A (getAttr (.ref e) (Str.ofString "month") expr) Q E s :=
  exc_get (X₀.keeps F.keep) (C := 38) (ox := { cls := .ref 38, dict := some Dd, data := .fields vs, slots := sl }) (od := some (oneO hs (Str.ofString "month") tk v n)) ⟨(N _ h1).1, rfl, rfl, (N _ h2).1⟩ (by kernel_rfl) (by kernel_rfl) (by kernel_rfl) (find_month P hs tk v n) hh h
theorem inst_exc {h₀ h : Heap} {L e C Dd : Addr} {news : List (Addr × Obj)} {vs : Array Value} {sl : Array (Option Value)} {od : Obj} (N : News h₀ L h news) (h1 : (e, ({ cls := .ref C, dict := some Dd, data := .fields vs, slots := sl } : Obj)) ∈ news) (h2 : (Dd, od) ∈ news) :
    InstAt h e { cls := .ref C, dict := some Dd, data := .fields vs, slots := sl } C (some od) := ⟨(N _ h1).1, rfl, rfl, (N _ h2).1⟩
theorem log_small {p : Int} (hlo : -1000001 ≤ p) (hhi : p ≤ 1000001) : p.natAbs.log2 < 1920 := by
  have h : p.natAbs < 2 ^ 1920 := Nat.lt_of_le_of_lt (show p.natAbs ≤ 2 ^ 20 by omega) (Nat.pow_lt_pow_right (by decide) (by decide))
  by_cases h0 : p.natAbs = 0
  · rw [h0]; decide
  · exact (Nat.log2_lt h0).mpr h
theorem len_small {p : Int} (hlo : -1000001 ≤ p) (hhi : p ≤ 1000001) : (Str.ofString (toString p)).length ≤ 1000000 := by
  have e := int_text_length_le10 (a := p) (k := 10) (by decide) (by omega)
  rw [PySem.ofString_length]
  omega
local macro_rules | `(tactic| k_room) => `(tactic| first | ktr_room | ((try simp only [depth_mark, depth_under_make, depth_under_kw, depth_in1, depth_deeper, depth_caller]); (try dsimp only [ktrTop]); omega))
local macro_rules | `(tactic| k_units) => `(tactic| ktr_units)
local macro_rules | `(tactic| walk_at "compareOp NotIn int ref") => `(tactic| (k_here; (with_reducible show wpAny _ _ (compareOp CmpOp.NotIn (Value.int _ _) (Value.ref _)) _ _ _); (refine' notin_range ?k1 ?_; (case k1 => assumption); k_whole)))
local macro_rules | `(tactic| walk_at "exec Raise some none") => `(tactic| (k_here; k_dflt (refine' raise_own 38 ?hh ?_; (case hh => exact rfl); k_whole)))
local macro_rules | `(tactic| walk_at "call ref") => `(tactic| (k_here; k_dflt (refine' make_exc _ _ ?B ?F ?X ?N ?T ?hk ?hdp ?hu ?_; (case B => k_asm); (case F => k_asm); (case X => k_asm); (case N => k_asm); (case T => k_asm); (case hk => exact rfl); (case hdp => ktr_room); (case hu => ktr_units); k_whole); intro e' tu' D' n' tk₁' h' tk' F' N' hne'; refine' ⟨_, _, _, rfl, excCls_of ?X ?q, (N' _ (.head _)).1, ?_⟩; (case X => k_in); (case q => kts_isx)))
local macro_rules | `(tactic| walk_at "leaving ref") => `(tactic| (k_here; k_dflt (refine' leave_own ?K ?F ?N ?hne ?_ ?hk; (case K => k_asm); (case F => k_asm); (case N => k_asm); (case hne => assumption); (case hk => exact rfl); k_whole); intro h' R' U'; (try dsimp only at R' U' ⊢)))
local macro_rules | `(tactic| walk_at "noteFrame ref") => `(tactic| (k_here; (rename RaisedP _ _ _ _ _ _ _ => rsX); k_dflt (refine' caughtP_as ?R ?F ?K ?U ?XB ?TB ?D ?T0 ?ex ?q ?_ ?hk ?hlo ?hx ?hd; (case R => exact rsX); (case F => assumption); (case K => assumption); (case U => assumption); (case XB => assumption); (case TB => assumption); (case D => assumption); (case T0 => first | assumption | exact KtsTurn.refl); (case ex => k_is); (case q => kts_isx); (case hk => exact rfl); (case hlo => exact rfl); (case hx => exact rfl); (case hd => decide); k_whole); intro h' g' vs' sl' tk' T' F' N' K' X' P' D'; (try k_lift K'); (try k_sweep)))
local macro_rules | `(tactic| walk_at "noteFrame ref") => `(tactic| (k_here; (rename RaisedP _ _ _ _ _ _ _ => rsX); (with_reducible show wpAny _ _ (noteFrame _ _) (fun _ s₂ => wpAny _ _ (setFlight _ none) (fun _ s₃ => wpAny _ _ (handleBy _ _ (ExceptHandler.ExceptHandler (some (Expr.Name ("ValueError" : Str) _)) none _ _ :: _)) _ _ s₃) _ s₂) _ _); k_dflt (refine' caughtP_ty (T' := "ValueError") ?R ?F ?K ?U ?XB ?TB ?D ?T0 ?q ?ex PyProof.Rows.Boot.«ValueError» ?hn PySem.F.isExc_ValueError PySem.F.notTuple_ValueError ?_; (case R => exact rsX); (case F => assumption); (case K => assumption); (case U => assumption); (case XB => assumption); (case TB => assumption); (case D => assumption); (case T0 => first | assumption | exact KtsTurn.refl); (case q => kts_isx); (case ex => k_is); (case hn => decide); k_whole); intro h' g' vs' sl' T' F' N' K' X' P' D'; (try k_lift K'); (try k_sweep)))
local macro_rules | `(tactic| walk_at "noteFrame ref") => `(tactic| (k_here; (rename RaisedP _ _ _ _ _ _ _ => rsX); (with_reducible show wpAny _ _ (noteFrame _ _) (fun _ s₂ => wpAny _ _ (setFlight _ none) (fun _ s₃ => wpAny _ _ (handleBy _ _ (ExceptHandler.ExceptHandler (some (Expr.Name ("IndexError" : Str) _)) none _ _ :: _)) _ _ s₃) _ s₂) _ _); k_dflt (refine' caughtP_ty (T' := "IndexError") ?R ?F ?K ?U ?XB ?TB ?D ?T0 ?q ?ex PyProof.Rows.Boot.«IndexError» ?hn PySem.F.isExc_IndexError PySem.F.notTuple_IndexError ?_; (case R => exact rsX); (case F => assumption); (case K => assumption); (case U => assumption); (case XB => assumption); (case TB => assumption); (case D => assumption); (case T0 => first | assumption | exact KtsTurn.refl); (case q => kts_isx); (case ex => k_is); (case hn => decide); k_whole); intro h' g' vs' sl' T' F' N' K' X' P' D'; (try k_lift K'); (try k_sweep)))
local macro_rules | `(tactic| walk_at "getAttr ref") => `(tactic| (k_here; k_dflt (refine' get_month ?F ?X ?N ?h1 ?h2 ?hh ?_; (case F => k_asm); (case X => k_asm); (case N => k_asm); (case h1 => k_memK); (case h2 => k_memK); (case hh => exact rfl); k_whole)))
local macro_rules | `(tactic| walk_at "binaryOp Mod str int") => `(tactic| (k_here; (with_reducible show wpAny _ _ (binaryOp Operator.Mod (Value.str _ _) (Value.int _ _)) _ _ _); k_dflt (refine' mod_r ?hd ?hl ?_; (case hd => assumption); (case hl => assumption)); intro _ _))
local macro_rules | `(tactic| walk_at "call type:str") => `(tactic| (k_here; (with_reducible show wpAny _ _ (call (Value.type "str") [Value.ref _]) _ _ _); k_dflt (refine' kso_call ?k1 ?k2 (inst_exc ?N ?h1 ?h2) ?k4 ?k5 ?_; (case N => k_asm); (case h1 => k_memK); (case h2 => k_memK); (case k1 => ktr_units); (case k2 => k_in); (case k4 => k_is); (case k5 => k_is); k_whole)))
local macro_rules | `(tactic| walk_at "compareOp NotEq ref ref") => `(tactic| (k_here; (with_reducible show wpAny _ _ (compareOp CmpOp.NotEq (Value.ref _) (Value.ref _)) _ _ _); k_dflt (refine' ne_said ?N ?ma ?mb ?hS ?hu ?_; (case N => k_asm); (case ma => k_memK); (case mb => k_memK); (case hS => exact strOk_append (strOk_append (strOk_ofString _) (strOk_ofString _)) (strOk_ofString _)); (case hu => ktr_units); k_whole)))
theorem guard_end {p : Int} {x : Bool} (h : x = !decide (1 ≤ p ∧ p < 13)) : Value.bool (x == !decide (1 ≤ p ∧ p < 13)) = Value.bool true := by rw [h]; simp
theorem guard_claim {w : World} {mean : ExcName → Option Value} {mg mb : Str → Option Value} (p : Int) (tk : Tok) (hlo : -1000001 ≤ p) (hhi : p ≤ 1000001) : Claim w mean mg mb 97 [.int p tk] (fun v => v = .bool true) := by
  w_on
  have ff := Mine.fill
  revert ff
  k_fill
  intro _
  unfold Claim
  intro news dp un gd cn cs a ccd A₀ h₀ L m s Q E B F X N T hk hdp hun hret
  have hlog := log_small hlo hhi
  have hlen := len_small hlo hhi
  have cases3 : p < 1 ∨ (1 ≤ p ∧ p < 13) ∨ 13 ≤ p := by omega
  rcases cases3 with hc | hc | hc
  all_goals (
    refine wpAny_call ?_
    k_dflt (refine' code_defS0 ?k1 ?k2 ?k3 ?k4 ?k5 ?kA ?k6 ?k7 ?k8 ?k9 ?kB ?_ ?cK ?c2 ?c3 ?c4 ?c5; (case kA => exact rfl); (case k2 => k_asm); (case k1 => k_asm); (case k3 => k_asm); (case k4 => k_asm); (case k5 => k_asm); (case k6 => k_is); (case k7 => k_is); (case k8 => k_room); (case k9 => exact BindsTo.of_eq rfl); (case kB => exact locs rfl); (case cK => assumption); (case c2 => exact rfl); (case c3 => exact rfl); (case c4 => exact rfl); (case c5 => decide); k_whole; intro g' L' h' FG' F' N' B' X' T' D'; (try dsimp only); (try k_lift B'); (try k_fold))
    k_steps)
  all_goals (refine hret _ _ _ (guard_end ?_) (by assumption) ?_)
  all_goals (first
    | exact ((congrArg not (decide_eq_true hc)).symm)
    | exact ((congrArg not (decide_eq_false (p := 1 ≤ p ∧ p < 13) (by omega))).symm)
    | (intro q9 hq9; (rename News h₀ L _ _ => nE9); exact nE9 q9 (by k_ownIn)))
end
section
open PySem PySem.W PyProof.Rows
set_option maxHeartbeats 4000000
abbrev pairO (y m : Int) (t u : Tok) (n : Nat) : Obj := { cls := .type "tuple", data := .seq #[.int y t, .int m u] n }
/-- a contract of a def that gives a new pair of ints -/
def ClaimP (w : World) (mean : ExcName → Option Value) (mg mb : Str → Option Value) (f : Addr) (vs : List Value) (Ret : Int → Int → Prop) : Prop :=
  ∀ (news : List (Addr × Obj)) (dp un : Nat) (gd : Option (List Code)) (cn : Str) (cs : Scope) (a : Addr) (ccd : Value) (A₀ : Around) (h₀ : Heap) (L : Addr) (m : Str → Option Value) (s : Shared) (Q E : Value → Shared → Prop),
    Below A₀ h₀ [] h₀ → Fr h₀ L s.heap m → (hd.heap_39 w.params).In h₀ → News h₀ L s.heap news → Top hd.view_39 LO mean mg mb h₀ → cs.kind = .function → dp + 20 < recursionLimit → un + 200 < cLine →
    (∀ (b : Addr) (y k : Int) (t u : Tok) (n : Nat) (h' : Heap) (tk' : Nat), Ret y k → Fr h₀ L h' m → News h₀ L h' ((b, pairO y k t u n) :: news) → (∀ p ∈ news, p.1 < b) → Q (.ref b) { s with heap := h', toks := tk' }) →
      wpAny (model PR w) (ktrTop dp un gd cn cs L a ccd [] []) (call (.ref f) vs) Q E s
local macro_rules | `(tactic| k_room) => `(tactic| first | ktr_room | ((try simp only [depth_mark, depth_under_make, depth_under_kw, depth_in1, depth_deeper, depth_caller]); (try dsimp only [ktrTop]); omega))
local macro_rules | `(tactic| k_units) => `(tactic| ktr_units)
theorem next_claim {w : World} {mean : ExcName → Option Value} {mg mb : Str → Option Value} (y k : Int) (t u : Tok) : ClaimP w mean mg mb 62 [.int y t, .int k u] (fun y' k' => (k = 12 ∧ y' = y + 1 ∧ k' = 1) ∨ (k ≠ 12 ∧ y' = y ∧ k' = k + 1)) := by
  w_on
  have ff := Mine.fill
  revert ff
  k_fill
  intro _
  unfold ClaimP
  intro news dp un gd cn cs a ccd A₀ h₀ L m s Q E B F X N T hk hdp hun hret
  refine wpAny_call ?_
  k_dflt cell_enter
  k_steps
  all_goals (refine' hret _ _ _ _ _ _ _ _ ?kR ?kF ?kN ?kL; (case kF => assumption); (case kN => assumption); (case kL => assumption); (case kR => omega))
theorem prev_claim {w : World} {mean : ExcName → Option Value} {mg mb : Str → Option Value} (y k : Int) (t u : Tok) : ClaimP w mean mg mb 55 [.int y t, .int k u] (fun y' k' => (k = 1 ∧ y' = y - 1 ∧ k' = 12) ∨ (k ≠ 1 ∧ y' = y ∧ k' = k - 1)) := by
  w_on
  have ff := Mine.fill
  revert ff
  k_fill
  intro _
  unfold ClaimP
  intro news dp un gd cn cs a ccd A₀ h₀ L m s Q E B F X N T hk hdp hun hret
  refine wpAny_call ?_
  k_dflt cell_enter
  k_steps
  all_goals (refine' hret _ _ _ _ _ _ _ _ ?kR ?kF ?kN ?kL; (case kF => assumption); (case kN => assumption); (case kL => assumption); (case kR => omega))
end
section
open PySem PySem.W PyProof.Rows
set_option maxHeartbeats 4000000
local macro_rules | `(tactic| k_room) => `(tactic| first | ktr_room | ((try simp only [depth_mark, depth_under_make, depth_under_kw, depth_in1, depth_deeper, depth_caller]); (try dsimp only [ktrTop]); omega))
local macro_rules | `(tactic| k_units) => `(tactic| ktr_units)
theorem news_head {h₀ h : Heap} {L : Addr} {p : Addr × Obj} {rest news : List (Addr × Obj)} (N : News h₀ L h (p :: rest)) (hs : ∀ q ∈ news, q ∈ rest) : News h₀ L h (p :: news) :=
  fun q hq => N q ((List.mem_cons.mp hq).elim (fun e => e ▸ .head _) fun m => .tail _ (hs q m))
theorem line_claim {w : World} {mean : ExcName → Option Value} {mg mb : Str → Option Value} (y k j : Int) (t u v : Tok) : ClaimP w mean mg mb 104 [.int y t, .int k u, .int j v] (fun y' k' => (((0 < j ∧ (12 < k ∨ k + j < 1)) ∨ (j ≤ 0 ∧ (k < 1 ∨ 12 < k + j))) ∧ y' = y ∧ k' = k + j) ∨ (((0 < j ∧ k ≤ 12 ∧ 1 ≤ k + j) ∨ (j ≤ 0 ∧ 1 ≤ k ∧ k + j ≤ 12)) ∧ 12 * y' + k' = 12 * y + (k + j) ∧ 1 ≤ k' ∧ k' ≤ 12)) := by
  w_on
  have ff := Mine.fill
  revert ff
  k_fill
  intro _
  unfold ClaimP
  intro news dp un gd cn cs a ccd A₀ h₀ L m s Q E B F X N T hk hdp hun hret
  refine wpAny_call ?_
  k_dflt cell_enter
  k_steps
  all_goals (refine' hret _ _ _ _ _ _ _ _ ?kR ?kF ?kN ?kL; (case kF => assumption); (case kN => (refine' news_head ?kM ?kS; (case kM => assumption); (case kS => (intro q9 hq9; k_ownIn)))); (case kL => first | assumption | ((rename (∀ p ∈ _, p.1 < _) => hLt9); exact fun q9 hq9 => hLt9 q9 (by k_ownIn)) | ((rename AllLt _ _ => hLt9); exact fun q9 hq9 => kst_ltOf hLt9 q9 (by k_ownIn)) | ((rename _ < _ ∧ AllLt _ _ => hLt9); exact kst_ltOf hLt9.2)); (case kR => first | omega | (simp only [Int.fdiv_eq_ediv_of_nonneg _ (show (0 : Int) ≤ 12 by decide), Int.fmod_eq_emod_of_nonneg _ (show (0 : Int) ≤ 12 by decide)]; omega)))
end
section
open PySem PySem.W PyProof.Rows PySem.Calls PySem.Spec
set_option maxHeartbeats 4000000
section
variable {prog : Program} {w : World} {A : Around} {E : Value → Shared → Prop} {s : Shared} {env : Env} {h₀ : Heap} {x : Str} {body : List Stmt} {Q : Flow → Shared → Prop}
/-- a loop over a range by ones, by what holds of its frame and its ledger -/
theorem range_G {r : Addr} {a₀ b₀ : Int} {t₀ u₀ v₀ : Tok} {n : Nat} {m₀ : Str → Option Value} {news : List (Addr × Obj)} (J : Nat → (Str → Option Value) → List (Addr × Obj) → Prop)
    (hh : A.handled = none) (hr : IsRange s.heap r a₀ b₀ 1 t₀ u₀ v₀) (hsmall : Builtin.Range.small a₀ b₀ 1 = true) (hsz : Builtin.Range.rangeSize a₀ b₀ 1 = (n : Int)) (F : Fr h₀ env.locals s.heap m₀) (N : News h₀ env.locals s.heap news) (hj : J 0 m₀ news)
    (turn : ∀ (i : Nat) t m₁ nx h tk own, i < n → OwnOff own (nx.map (·.1)) → J i m₁ nx → Fr h₀ env.locals h (fun y => if y = x then some (.int (a₀ + (i : Int)) t) else m₁ y) → News h₀ env.locals h (nx ++ own) →
      wpAny (model prog w) A (execs body env) (InvPostG h₀ env.locals (J (i + 1)) own { s with heap := h, toks := tk } Q) E { s with heap := h, toks := tk })
    (done : ∀ m₁ nx h tk, J n m₁ nx → Fr h₀ env.locals h m₁ → News h₀ env.locals h nx → Q .next { s with heap := h, toks := tk }) :
    wpAny (model prog w) A (pyIter (.ref r)) (fun it s₂ => LoopAtV prog w A h₀ env x body Q E it s₂) E s := by
  refine wpAny_pyIter_range hr hsmall ?_
  have W : Walks prog w A s.heap.objs.size [s.heap.objs.size] [s.heap.objs.size] n (fun i v => i < n ∧ ∃ t, v = .int (a₀ + i * 1) t)
      (fun i h => IsRangeIter h s.heap.objs.size (a₀ + (i : Nat) * 1) ((n : Int) - (i : Nat)) 1) := (Walks.range hh _ a₀ 1 n).bound
  refine kdr_loop J W (fun _ h => h) (fun _ h => h) ?_ ?_ ?_ ?_ (by show IsRangeIter _ _ _ _ _; rw [hsz]; simpa using Heap.get?_push_size _ rfl) (F.push _) (fun p hp => ⟨Heap.get?_push_of_some _ (N p hp).1, (N p hp).2⟩) hj ?_ done
  · intro i h hi b hb
    rw [List.mem_singleton.mp hb]
    exact ⟨_, hi⟩
  · intro hm
    exact absurd F.ns.lt ((List.mem_singleton.mp hm) ▸ Nat.lt_irrefl _)
  · intro b hb
    rw [List.mem_singleton.mp hb]
    exact next_is_new F
  · intro p hp hI
    exact absurd (Heap.lt_size (N p hp).1) ((List.mem_singleton.mp hI) ▸ Nat.lt_irrefl _)
  · rintro i v m₁ nx h tk own hi ⟨_, t, rfl⟩ hoff hJ F₁ N₁
    have e1 : a₀ + (i : Int) * 1 = a₀ + (i : Int) := by omega
    rw [e1] at F₁
    exact turn i t m₁ nx h tk own hi hoff hJ F₁ N₁
end
end
section
open PySem PySem.W PyProof.Rows PySem.Calls PySem.Spec
set_option maxHeartbeats 4000000
def DrawnJ (D l : Addr) (news : List (Addr × Obj)) (i : Nat) (m : Str → Option Value) (nx : List (Addr × Obj)) : Prop :=
  ∃ vs ns n, nx = (D, W.listOf vs.toArray n) :: news ∧ IntsAre vs ns ∧ ns.length = min i 8 ∧ m (Str.ofString "drawn") = some (.ref D) ∧ m (Str.ofString "script") = some (.ref l)
def drawnM (D l : Addr) (u : Str → Option Value) : Str → Option Value := fun y => if y = Str.ofString "drawn" then some (.ref D) else if y = Str.ofString "script" then some (.ref l) else u y
theorem drawnM_eq {D l : Addr} {m : Str → Option Value} (h1 : m (Str.ofString "drawn") = some (.ref D)) (h2 : m (Str.ofString "script") = some (.ref l)) : drawnM D l m = m := by
  funext y
  unfold drawnM
  by_cases e1 : y = Str.ofString "drawn"
  · rw [if_pos e1, e1, h1]
  · rw [if_neg e1]
    by_cases e2 : y = Str.ofString "script"
    · rw [if_pos e2, e2, h2]
    · rw [if_neg e2]
/-- the end of a turn -/
def DrawnEnd (h₀ : Heap) (L D l : Addr) (news own : List (Addr × Obj)) (k : Nat) (s₁ : Shared) (f : Flow) (s₂ : Shared) : Prop :=
  f = .next ∧ ∃ h' tk' m' vs' ns' n' all, s₂ = { s₁ with heap := h', toks := tk' } ∧ Fr h₀ L h' m' ∧ News h₀ L h' all ∧ (∀ p ∈ (D, W.listOf vs'.toArray n') :: (news ++ own), p ∈ all) ∧ IntsAre vs' ns' ∧ ns'.length = min k 8 ∧ m' (Str.ofString "drawn") = some (.ref D) ∧ m' (Str.ofString "script") = some (.ref l)
theorem DrawnEnd.intro {h₀ : Heap} {L D l : Addr} {news own all : List (Addr × Obj)} {k : Nat} {s₁ : Shared} {h' : Heap} {tk' : Nat} {m' : Str → Option Value} {vs' : List Value} {ns' : List Int} {n' : Nat} (F : Fr h₀ L h' m') (N : News h₀ L h' all)
    (hs : ∀ p ∈ (D, W.listOf vs'.toArray n') :: (news ++ own), p ∈ all) (hi : IntsAre vs' ns') (hn : ns'.length = min k 8) (e1 : m' (Str.ofString "drawn") = some (.ref D)) (e2 : m' (Str.ofString "script") = some (.ref l)) :
    DrawnEnd h₀ L D l news own k s₁ .next { s₁ with heap := h', toks := tk' } := ⟨rfl, h', tk', m', vs', ns', n', all, rfl, F, N, hs, hi, hn, e1, e2⟩
section
variable {prog : Program} {w : World} {A : Around} {E : Value → Shared → Prop} {s : Shared} {env : Env} {h₀ : Heap} {body : List Stmt} {Q : Flow → Shared → Prop}
theorem drawn_loop {D l : Addr} {ns₀ : List Int} {xv : Value} {m : Str → Option Value} {news : List (Addr × Obj)} (S : PairSrc prog w A E h₀ env ItemKind.int ns₀ xv s m ((D, W.listOf #[] 0) :: news))
    (h1 : m (Str.ofString "drawn") = some (.ref D)) (h2 : m (Str.ofString "script") = some (.ref l)) (hD : ∀ p ∈ news, p.1 ≠ D)
    (turn : ∀ (i : Nat) a t tv vs ns n (u : Str → Option Value) h tk own, i < ns₀.length → IntsAre vs ns → ns.length = min i 8 → (∀ p ∈ news ++ own, p.1 ≠ D) →
      Fr h₀ env.locals h (fun y => if y = Str.ofString "number" then some (.int a tv) else if y = Str.ofString "place" then some (.int (i : Int) t) else if y = Str.ofString "drawn" then some (.ref D) else if y = Str.ofString "script" then some (.ref l) else u y) →
      News h₀ env.locals h ((D, W.listOf vs.toArray n) :: (news ++ own)) →
      wpAny (model prog w) A (execs body env) (DrawnEnd h₀ env.locals D l news own (i + 1) { s with heap := h, toks := tk }) E { s with heap := h, toks := tk })
    (done : ∀ vs ns n (u : Str → Option Value) h tk, IntsAre vs ns → ns.length = min ns₀.length 8 → Fr h₀ env.locals h (fun y => if y = Str.ofString "drawn" then some (.ref D) else if y = Str.ofString "script" then some (.ref l) else u y) → News h₀ env.locals h ((D, W.listOf vs.toArray n) :: news) → Q .next { s with heap := h, toks := tk }) :
    wpAny (model prog w) A (pyIter xv) (fun it s₂ => PairAt3 prog w A h₀ env (Str.ofString "place") (Str.ofString "number") body Q E it s₂) E s := by
  refine S (Str.ofString "place") (Str.ofString "number") body Q (DrawnJ D l news) ⟨[], [], 0, rfl, .nil, rfl, h1, h2⟩ ?_ ?_
  · rintro i a t v m₁ news₁ s₁ own ⟨h, tk, rfl⟩ ha hk ⟨vs, ns, n, rfl, hi, hn, e1, e2⟩ _ hoff F₁ N₁
    obtain ⟨tv, rfl⟩ := hk
    have hlt : i < ns₀.length := (List.getElem?_eq_some_iff.mp ha).1
    have F₂ : Fr h₀ env.locals h (fun y => if y = Str.ofString "number" then some (.int a tv) else if y = Str.ofString "place" then some (.int (i : Int) t) else drawnM D l m₁ y) := by rw [drawnM_eq e1 e2]; exact F₁
    have sub : ∀ p ∈ (D, W.listOf vs.toArray n) :: (news ++ own), p ∈ own ++ (D, W.listOf vs.toArray n) :: news := by
      intro p hp
      rcases List.mem_cons.mp hp with rfl | hp
      · exact List.mem_append.mpr (.inr (.head _))
      · rcases List.mem_append.mp hp with hp | hp
        · exact List.mem_append.mpr (.inr (.tail _ hp))
        · exact List.mem_append.mpr (.inl hp)
    have hne : ∀ p ∈ news ++ own, p.1 ≠ D := by
      intro p hp
      rcases List.mem_append.mp hp with hp | hp
      · exact hD p hp
      · exact hoff p hp (D, W.listOf #[] 0) (.head _)
    refine wpAny_mono (turn i a t tv vs ns n m₁ h tk own hlt hi hn hne F₂ fun p hp => N₁ p (sub p hp)) (fun f s₂ hf => ?_) fun _ _ e => e
    obtain ⟨rfl, h', tk', m', vs', ns', n', all, rfl, F', N', hs, hi', hn', e1', e2'⟩ := hf
    refine ⟨rfl, h', tk', m', (D, W.listOf vs'.toArray n') :: news, rfl, F', fun p hp => N' p (hs p ?_), rfl, vs', ns', n', rfl, hi', hn', e1', e2'⟩
    rcases List.mem_append.mp hp with hp | hp
    · exact .tail _ (List.mem_append.mpr (.inr hp))
    · rcases List.mem_cons.mp hp with rfl | hp
      · exact .head _
      · exact .tail _ (List.mem_append.mpr (.inl hp))
  · rintro h' tk m' news' F' N' _ ⟨vs, ns, n, rfl, hi, hn, e1, e2⟩
    refine done vs ns n m' h' tk hi hn ?_ N'
    have F₂ : Fr h₀ env.locals h' (drawnM D l m') := by rw [drawnM_eq e1 e2]; exact F'
    exact F₂
theorem append_L {D L : Addr} {vs : List Value} {n : Nat} {v : Value} {m : Str → Option Value} {post : List (Addr × Obj)} {Q : Value → Shared → Prop} (F : Fr h₀ L s.heap m) (N : News h₀ L s.heap ((D, W.listOf vs.toArray n) :: post)) (hne : ∀ p ∈ post, p.1 ≠ D) (hz : vs.length ≤ 100)
    (h : ∀ h', Fr h₀ L h' m → News h₀ L h' ((D, W.listOf (vs ++ [v]).toArray (n + 1)) :: post) → Q .none { s with heap := h' }) : wpAny (model prog w) A (call (.builtin "list.append") [.ref D, v]) Q E s := by
  refine append_K F N (.head hne) (fun h' F' N' => h h' F' ?_) ?_
  · rw [← List.push_toArray]; exact N'
  · rw [List.size_toArray, PySem.sizeLine_eq]; omega
theorem ints_snoc {vs : List Value} {ns : List Int} {x : Int} {t : Tok} (h : IntsAre vs ns) : IntsAre (vs ++ [.int x t]) (ns ++ [x]) := by
  induction h with
  | nil => exact .cons _ _ .nil
  | cons a b _ ih => exact .cons _ _ ih
end
end
section
open PySem PySem.W PyProof.Rows
set_option maxHeartbeats 4000000
local macro_rules | `(tactic| k_room) => `(tactic| first | ktr_room | ((try simp only [depth_mark, depth_under_make, depth_under_kw, depth_in1, depth_deeper, depth_caller]); (try dsimp only [ktrTop]); omega))
local macro_rules | `(tactic| k_units) => `(tactic| ktr_units)
local macro_rules | `(tactic| walk_at "call builtin:list.append") => `(tactic| (k_here; k_dflt (refine' append_L ?F ?N ?hne ?hz ?_; (case F => k_asm); (case N => k_asm); (case hne => assumption); (case hz => assumption); k_whole); intro h' F' N'))
local macro_rules | `(tactic| k_all) => `(tactic| assumption)
theorem drawn_claim {w : World} {mean : ExcName → Option Value} {mg mb : Str → Option Value} {news : List (Addr × Obj)} {dp un : Nat} {gd : Option (List Code)} {cn : Str} {cs : Scope} {a : Addr} {ccd : Value} {A₀ : Around} {h₀ : Heap} {L l : Addr} {m : Str → Option Value} {s : Shared} {Q E : Value → Shared → Prop} {us : List Value} {ns₀ : List Int}
    (B : Below A₀ h₀ [] h₀) (F : Fr h₀ L s.heap m) (X : (hd.heap_39 w.params).In h₀) (N : News h₀ L s.heap news) (T : Top hd.view_39 LO mean mg mb h₀) (hk : cs.kind = .function) (hdp : dp + 20 < recursionLimit) (hun : un + 200 < cLine) (hl : h₀.IsList l us.toArray) (hi : IntsAre us ns₀) (hlen : ns₀.length ≤ 63)
    (hret : ∀ D vs ns n h' tk', IntsAre vs ns → Fr h₀ L h' m → News h₀ L h' ((D, W.listOf vs.toArray n) :: news) → Q (.ref D) { s with heap := h', toks := tk' }) :
    wpAny (model PR w) (ktrTop dp un gd cn cs L a ccd [] []) (call (.ref 69) [.ref l]) Q E s := by
  w_on
  have ff := Mine.fill
  revert ff
  k_fill
  intro _
  refine wpAny_call ?_
  k_dflt cell_enter
  k_steps
  rename PairSrcL _ _ _ _ _ _ _ _ _ _ _ _ => S
  rename (∀ p ∈ news, p.1 < _) => hLt
  have hD := fun p hp => Nat.ne_of_lt (hLt p hp)
  k_dflt (refine' drawn_loop (PairSrcL.at S _ rfl) rfl rfl ?hD ?turn ?done)
  case hD => exact hD
  case done =>
    intro vs ns n u h' tk' hi' hn' F' N'
    have hvl : vs.length ≤ 100 := by have := hi'.length; omega
    (try k_fold)
    k_steps
    exact hret _ _ _ _ _ _ (ints_snoc hi') (by assumption) (by assumption)
  case turn =>
    intro i a t tv vs ns n u h' tk' own hlt hi' hn' hne F' N'
    have hvl : vs.length ≤ 100 := by have := hi'.length; omega
    (try k_fold)
    k_steps
    all_goals (
      (with_unfolding_all refine' DrawnEnd.intro ?F ?N ?hs ?hi ?hn ?e1 ?e2)
      (case F => assumption)
      (case N => assumption)
      (case hs => exact fun _ h => h)
      (case hi => first | assumption | exact ints_snoc hi')
      (case e1 => rfl)
      (case e2 => rfl)
      (case hn => (simp only [List.length_append, List.length_cons, List.length_nil, List.length_set]; omega)))
end
section
open PySem PySem.W PyProof.Rows PySem.Calls PySem.Spec
set_option maxHeartbeats 4000000
/-- the end of a turn of the law's loop: what is to be kept lies as it lay -/
def TurnEnd (h₀ : Heap) (L : Addr) (keep : List (Addr × Obj)) (s₁ : Shared) (f : Flow) (s₂ : Shared) : Prop :=
  f = .next ∧ ∃ h' tk' m' all, s₂ = { s₁ with heap := h', toks := tk' } ∧ Fr h₀ L h' m' ∧ News h₀ L h' all ∧ ∀ p ∈ keep, p ∈ all
theorem TurnEnd.intro {h₀ : Heap} {L : Addr} {keep all : List (Addr × Obj)} {s₁ : Shared} {h' : Heap} {tk' : Nat} {m' : Str → Option Value} (F : Fr h₀ L h' m') (N : News h₀ L h' all) (hs : ∀ p ∈ keep, p ∈ all) :
    TurnEnd h₀ L keep s₁ .next { s₁ with heap := h', toks := tk' } := ⟨rfl, h', tk', m', all, rfl, F, N, hs⟩

/-- i steps ahead of (Y, P) upon the line with its two ways -/
def AheadAt (Y P : Int) (i : Int) (y k : Int) : Prop := ((12 < P ∨ P + i < 1) ∧ y = Y ∧ k = P + i) ∨ (P ≤ 12 ∧ 1 ≤ P + i ∧ 12 * y + k = 12 * Y + (P + i) ∧ 1 ≤ k ∧ k ≤ 12)
def BackAt (Y P : Int) (i : Int) (y k : Int) : Prop := ((P < 1 ∨ 12 < P - i) ∧ y = Y ∧ k = P - i) ∨ (1 ≤ P ∧ P - i ≤ 12 ∧ 12 * y + k = 12 * Y + (P - i) ∧ 1 ≤ k ∧ k ≤ 12)
theorem ahead_zero (Y P : Int) : AheadAt Y P 0 Y P := by unfold AheadAt; omega
theorem back_zero (Y P : Int) : BackAt Y P 0 Y P := by unfold BackAt; omega
theorem ahead_next {Y P i y k y' k' : Int} (h0 : 0 ≤ i) (h : AheadAt Y P i y k) (hn : (k = 12 ∧ y' = y + 1 ∧ k' = 1) ∨ (k ≠ 12 ∧ y' = y ∧ k' = k + 1)) : AheadAt Y P (1 + i) y' k' := by unfold AheadAt at *; omega
theorem back_next {Y P i y k y' k' : Int} (h0 : 0 ≤ i) (h : BackAt Y P i y k) (hn : (k = 1 ∧ y' = y - 1 ∧ k' = 12) ∨ (k ≠ 1 ∧ y' = y ∧ k' = k - 1)) : BackAt Y P (1 + i) y' k' := by unfold BackAt at *; omega
/-- what _law_line gives -/
def LineAt (y k j y' k' : Int) : Prop := (((0 < j ∧ (12 < k ∨ k + j < 1)) ∨ (j ≤ 0 ∧ (k < 1 ∨ 12 < k + j))) ∧ y' = y ∧ k' = k + j) ∨ (((0 < j ∧ k ≤ 12 ∧ 1 ≤ k + j) ∨ (j ≤ 0 ∧ 1 ≤ k ∧ k + j ≤ 12)) ∧ 12 * y' + k' = 12 * y + (k + j) ∧ 1 ≤ k' ∧ k' ≤ 12)
theorem ahead_line {Y P i y k y' k' : Int} (hi : 0 < i) (h : AheadAt Y P i y k) (hl : LineAt Y P i y' k') : y = y' ∧ k = k' := by unfold AheadAt at h; unfold LineAt at hl; omega
theorem back_line {Y P i y k y' k' : Int} (hi : 0 < i) (h : BackAt Y P i y k) (hl : LineAt Y P (-i) y' k') : y = y' ∧ k = k' := by unfold BackAt at h; unfold LineAt at hl; omega
theorem ahead_small {Y P i y k : Int} (h : AheadAt Y P i y k) (h0 : 0 ≤ i) (h1 : i ≤ 15) (hp : -6 ≤ P) (hq : P ≤ 19) : -1000001 ≤ k ∧ k ≤ 1000001 := by unfold AheadAt at h; omega
theorem back_small {Y P i y k : Int} (h : BackAt Y P i y k) (h0 : 0 ≤ i) (h1 : i ≤ 15) (hp : -6 ≤ P) (hq : P ≤ 19) : -1000001 ≤ k ∧ k ≤ 1000001 := by unfold BackAt at h; omega

def InnerJ (Y P : Int) (base : List (Addr × Obj)) (i : Nat) (m : Str → Option Value) (nx : List (Addr × Obj)) : Prop :=
  ∃ a b y1 k1 y2 k2 t1 u1 n1 t2 u2 n2 ty tp, nx = (a, pairO y1 k1 t1 u1 n1) :: (b, pairO y2 k2 t2 u2 n2) :: base ∧ m (Str.ofString "ahead") = some (.ref a) ∧ m (Str.ofString "back") = some (.ref b) ∧ m (Str.ofString "year") = some (.int Y ty) ∧ m (Str.ofString "place") = some (.int P tp) ∧
    AheadAt Y P (i : Int) y1 k1 ∧ BackAt Y P (i : Int) y2 k2
def innerM (a b : Addr) (vy vp : Value) (u : Str → Option Value) : Str → Option Value := fun y => if y = Str.ofString "ahead" then some (.ref a) else if y = Str.ofString "back" then some (.ref b) else if y = Str.ofString "year" then some vy else if y = Str.ofString "place" then some vp else u y
theorem innerM_eq {a b : Addr} {vy vp : Value} {m : Str → Option Value} (h1 : m (Str.ofString "ahead") = some (.ref a)) (h2 : m (Str.ofString "back") = some (.ref b)) (h3 : m (Str.ofString "year") = some vy) (h4 : m (Str.ofString "place") = some vp) : innerM a b vy vp m = m := by
  funext y
  unfold innerM
  by_cases e1 : y = Str.ofString "ahead"
  · rw [if_pos e1, e1, h1]
  · rw [if_neg e1]
    by_cases e2 : y = Str.ofString "back"
    · rw [if_pos e2, e2, h2]
    · rw [if_neg e2]
      by_cases e3 : y = Str.ofString "year"
      · rw [if_pos e3, e3, h3]
      · rw [if_neg e3]
        by_cases e4 : y = Str.ofString "place"
        · rw [if_pos e4, e4, h4]
        · rw [if_neg e4]
theorem own_ne {all own : List (Addr × Obj)} {a : Addr} (h : ∀ p ∈ all, p.1 < a) (hs : ∀ p ∈ own, p ∈ all) : ∀ p ∈ own, p.1 ≠ a := fun p hp => Nat.ne_of_lt (h p (hs p hp))
def InnerEnd (h₀ : Heap) (L : Addr) (Y P : Int) (base own : List (Addr × Obj)) (k : Int) (s₁ : Shared) (f : Flow) (s₂ : Shared) : Prop :=
  f = .next ∧ ∃ h' tk' m' all a b y1 k1 y2 k2 t1 u1 n1 t2 u2 n2 ty tp, s₂ = { s₁ with heap := h', toks := tk' } ∧ Fr h₀ L h' m' ∧ News h₀ L h' all ∧ (∀ p ∈ (a, pairO y1 k1 t1 u1 n1) :: (b, pairO y2 k2 t2 u2 n2) :: (base ++ own), p ∈ all) ∧
    m' (Str.ofString "ahead") = some (.ref a) ∧ m' (Str.ofString "back") = some (.ref b) ∧ m' (Str.ofString "year") = some (.int Y ty) ∧ m' (Str.ofString "place") = some (.int P tp) ∧ AheadAt Y P k y1 k1 ∧ BackAt Y P k y2 k2 ∧ (∀ p ∈ own, p.1 ≠ a) ∧ (∀ p ∈ own, p.1 ≠ b)
theorem InnerEnd.intro {h₀ : Heap} {L : Addr} {Y P : Int} {base own all : List (Addr × Obj)} {k : Int} {s₁ : Shared} {h' : Heap} {tk' : Nat} {m' : Str → Option Value} {a b : Addr} {y1 k1 y2 k2 : Int} {t1 u1 t2 u2 ty tp : Tok} {n1 n2 : Nat} (F : Fr h₀ L h' m') (N : News h₀ L h' all)
    (hs : ∀ p ∈ (a, pairO y1 k1 t1 u1 n1) :: (b, pairO y2 k2 t2 u2 n2) :: (base ++ own), p ∈ all) (e1 : m' (Str.ofString "ahead") = some (.ref a)) (e2 : m' (Str.ofString "back") = some (.ref b)) (e3 : m' (Str.ofString "year") = some (.int Y ty)) (e4 : m' (Str.ofString "place") = some (.int P tp))
    (hA : AheadAt Y P k y1 k1) (hB : BackAt Y P k y2 k2) (o1 : ∀ p ∈ own, p.1 ≠ a) (o2 : ∀ p ∈ own, p.1 ≠ b) : InnerEnd h₀ L Y P base own k s₁ .next { s₁ with heap := h', toks := tk' } :=
  ⟨rfl, h', tk', m', all, a, b, y1, k1, y2, k2, t1, u1, n1, t2, u2, n2, ty, tp, rfl, F, N, hs, e1, e2, e3, e4, hA, hB, o1, o2⟩
section
variable {prog : Program} {w : World} {A : Around} {E : Value → Shared → Prop} {s : Shared} {env : Env} {h₀ : Heap} {body : List Stmt} {Q : Flow → Shared → Prop}
theorem outer_loop {l : Addr} {x : Str} {vs : List Value} {ns : List Int} {nn : Nat} {m₀ : Str → Option Value} {news : List (Addr × Obj)} (hh : A.handled = none) (hl : (l, W.listOf vs.toArray nn) ∈ news) (hi : IntsAre vs ns) (F : Fr h₀ env.locals s.heap m₀) (N : News h₀ env.locals s.heap news)
    (turn : ∀ a t (u : Str → Option Value) h tk own, Fr h₀ env.locals h (fun y => if y = x then some (.int a t) else u y) → News h₀ env.locals h ((l, W.listOf vs.toArray nn) :: own) →
      wpAny (model prog w) A (execs body env) (TurnEnd h₀ env.locals ((l, W.listOf vs.toArray nn) :: own) { s with heap := h, toks := tk }) E { s with heap := h, toks := tk })
    (done : ∀ (u : Str → Option Value) h tk, Fr h₀ env.locals h u → News h₀ env.locals h [(l, W.listOf vs.toArray nn)] → Q .next { s with heap := h, toks := tk }) :
    wpAny (model prog w) A (pyIter (.ref l)) (fun it s₂ => LoopAtV prog w A h₀ env x body Q E it s₂) E s := by
  refine kdl_iter (news := [(l, W.listOf vs.toArray nn)]) (fun _ _ nx => nx = [(l, W.listOf vs.toArray nn)]) hh (.head _) F (fun p hp => by rw [List.mem_singleton.mp hp]; exact N _ hl) rfl ?_ ?_
  · rintro i v m₁ nx h tk own hv hoff _ rfl F₁ N₁
    have hi' : i < ns.length := by rw [← hi.length]; exact (List.getElem?_eq_some_iff.mp hv).1
    obtain ⟨t, hx⟩ := hi.get i (ns[i]'hi') (List.getElem?_eq_getElem hi')
    have ev : v = .int (ns[i]'hi') t := by rw [hx] at hv; exact (Option.some.inj hv).symm
    subst ev
    refine wpAny_mono (turn _ t m₁ h tk own F₁ N₁) (fun f s₂ hf => ?_) fun _ _ e => e
    obtain ⟨rfl, h', tk', m', all, rfl, F', N', hs⟩ := hf
    exact ⟨h', tk', m', all, [(l, W.listOf vs.toArray nn)], rfl, F', N', fun p hp => hs p (by rw [List.mem_singleton.mp hp]; exact .head _), fun p hp => hs p (.tail _ hp), hoff, .head _, rfl⟩
  · rintro m₁ nx h tk rfl F₁ N₁
    exact done m₁ h tk F₁ N₁
theorem inner_loop {r : Addr} {t₀ u₀ v₀ : Tok} {m₀ : Str → Option Value} {base : List (Addr × Obj)} {a b : Addr} {Y P : Int} {t1 u1 t2 u2 ty tp : Tok} {n1 n2 : Nat} (hh : A.handled = none) (hr : IsRange s.heap r 1 16 1 t₀ u₀ v₀) (F : Fr h₀ env.locals s.heap m₀) (N : News h₀ env.locals s.heap base)
    (ma : (a, pairO Y P t1 u1 n1) ∈ base) (mb : (b, pairO Y P t2 u2 n2) ∈ base) (e1 : m₀ (Str.ofString "ahead") = some (.ref a)) (e2 : m₀ (Str.ofString "back") = some (.ref b)) (e3 : m₀ (Str.ofString "year") = some (.int Y ty)) (e4 : m₀ (Str.ofString "place") = some (.int P tp))
    (turn : ∀ (i : Nat) t a b y1 k1 y2 k2 t1 u1 n1 t2 u2 n2 ty tp (u : Str → Option Value) h tk own, i < 15 → AheadAt Y P (i : Int) y1 k1 → BackAt Y P (i : Int) y2 k2 →
      Fr h₀ env.locals h (fun y => if y = Str.ofString "steps" then some (.int (1 + (i : Int)) t) else if y = Str.ofString "ahead" then some (.ref a) else if y = Str.ofString "back" then some (.ref b) else if y = Str.ofString "year" then some (.int Y ty) else if y = Str.ofString "place" then some (.int P tp) else u y) →
      News h₀ env.locals h ((a, pairO y1 k1 t1 u1 n1) :: (b, pairO y2 k2 t2 u2 n2) :: (base ++ own)) →
      wpAny (model prog w) A (execs body env) (InnerEnd h₀ env.locals Y P base own (1 + (i : Int)) { s with heap := h, toks := tk }) E { s with heap := h, toks := tk })
    (done : ∀ a b y1 k1 y2 k2 t1 u1 n1 t2 u2 n2 ty tp (u : Str → Option Value) h tk, AheadAt Y P 15 y1 k1 → BackAt Y P 15 y2 k2 →
      Fr h₀ env.locals h (fun y => if y = Str.ofString "ahead" then some (.ref a) else if y = Str.ofString "back" then some (.ref b) else if y = Str.ofString "year" then some (.int Y ty) else if y = Str.ofString "place" then some (.int P tp) else u y) →
      News h₀ env.locals h ((a, pairO y1 k1 t1 u1 n1) :: (b, pairO y2 k2 t2 u2 n2) :: base) → Q .next { s with heap := h, toks := tk }) :
    wpAny (model prog w) A (pyIter (.ref r)) (fun it s₂ => LoopAtV prog w A h₀ env (Str.ofString "steps") body Q E it s₂) E s := by
  refine range_G (n := 15) (news := (a, pairO Y P t1 u1 n1) :: (b, pairO Y P t2 u2 n2) :: base) (InnerJ Y P base) hh hr (by decide) (by decide) F (fun p hp => N p ((List.mem_cons.mp hp).elim (fun e => e ▸ ma) fun hp => (List.mem_cons.mp hp).elim (fun e => e ▸ mb) id)) ⟨a, b, Y, P, Y, P, t1, u1, n1, t2, u2, n2, ty, tp, rfl, e1, e2, e3, e4, ahead_zero Y P, back_zero Y P⟩ ?_ ?_
  · rintro i t m₁ nx h tk own hi hoff ⟨a, b, y1, k1, y2, k2, t1, u1, n1, t2, u2, n2, ty, tp, rfl, e1, e2, e3, e4, hA, hB⟩ F₁ N₁
    have F₂ : Fr h₀ env.locals h (fun y => if y = Str.ofString "steps" then some (.int (1 + (i : Int)) t) else innerM a b (.int Y ty) (.int P tp) m₁ y) := by rw [innerM_eq e1 e2 e3 e4]; exact F₁
    refine wpAny_mono (turn i t a b y1 k1 y2 k2 t1 u1 n1 t2 u2 n2 ty tp m₁ h tk own hi hA hB F₂ N₁) (fun f s₂ hf => ?_) fun _ _ e => e
    obtain ⟨rfl, h', tk', m', all, a', b', y1', k1', y2', k2', t1', u1', n1', t2', u2', n2', ty', tp', rfl, F', N', hs', e1', e2', e3', e4', hA', hB', o1, o2⟩ := hf
    refine ⟨h', tk', m', all, (a', pairO y1' k1' t1' u1' n1') :: (b', pairO y2' k2' t2' u2' n2') :: base, rfl, F', N', fun p hp => hs' p ?_, fun p hp => hs' p (.tail _ (.tail _ (List.mem_append.mpr (.inr hp)))), ?_, a', b', y1', k1', y2', k2', t1', u1', n1', t2', u2', n2', ty', tp', rfl, e1', e2', e3', e4', ?_, ?_⟩
    · rcases List.mem_cons.mp hp with rfl | hp
      · exact .head _
      · rcases List.mem_cons.mp hp with rfl | hp
        · exact .tail _ (.head _)
        · exact .tail _ (.tail _ (List.mem_append.mpr (.inl hp)))
    · intro p hp c hc
      rcases List.mem_cons.mp hc with rfl | hc
      · exact o1 p hp
      · rcases List.mem_cons.mp hc with rfl | hc
        · exact o2 p hp
        · exact hoff p hp c (.tail _ (.tail _ hc))
    · rw [show ((i + 1 : Nat) : Int) = 1 + (i : Int) by omega]; exact hA'
    · rw [show ((i + 1 : Nat) : Int) = 1 + (i : Int) by omega]; exact hB'
  · rintro m₁ nx h tk ⟨a, b, y1, k1, y2, k2, t1, u1, n1, t2, u2, n2, ty, tp, rfl, e1, e2, e3, e4, hA, hB⟩ F₁ N₁
    refine done a b y1 k1 y2 k2 t1 u1 n1 t2 u2 n2 ty tp m₁ h tk hA hB ?_ N₁
    have F₂ : Fr h₀ env.locals h (innerM a b (.int Y ty) (.int P tp) m₁) := by rw [innerM_eq e1 e2 e3 e4]; exact F₁
    exact F₂
end
end
section
open PySem PySem.W PyProof.Rows PySem.Calls PySem.Spec
set_option maxHeartbeats 4000000
section
variable {prog : Program} {w : World} {A : Around} {E : Value → Shared → Prop} {s : Shared} {h₀ : Heap} {L a b : Addr} {news : List (Addr × Obj)} {y k y' k' : Int} {t u t' u' : Tok} {n n' : Nat} {Q : Value → Shared → Prop}
theorem ne_pair (N : News h₀ L s.heap news) (ma : (a, pairO y k t u n) ∈ news) (mb : (b, pairO y' k' t' u' n') ∈ news) (hyk : y = y' ∧ k = k') (hu : A.units + 64 < cLine) (h : Q (.bool false) s) :
    wpAny (model prog w) A (compareOp .NotEq (.ref a) (.ref b)) Q E s := by
  obtain ⟨rfl, rfl⟩ := hyk
  have ra : ∀ (t u : Tok), ReadsAll s.heap [.int y t, .int k u] [.int y, .int k] _ := fun t u => ReadsAll.cons (Reads.int y t) (ReadsAll.cons (Reads.int k u) ReadsAll.nil)
  refine ne_dataH (da := .tuple [.int y, .int k]) (db := .tuple [.int y, .int k]) (reads_tuple_at (N.get ma) rfl rfl (ra t u)) (reads_tuple_at (N.get mb) rfl rfl (ra t' u')) rfl rfl hu ?_
  have e : PyData.eqv (.tuple [.int y, .int k]) (.tuple [.int y, .int k]) = true := by simp [PyData.eqv, PyData.eqvAll]
  rw [e]
  exact h
end
section
variable {w : World} {mean : ExcName → Option Value} {mg mb : Str → Option Value} {news : List (Addr × Obj)} {dp un : Nat} {gd : Option (List Code)} {cn : Str} {cs : Scope} {a : Addr} {ccd : Value} {A₀ : Around} {h₀ : Heap} {L : Addr} {m : Str → Option Value} {s : Shared} {Q E : Value → Shared → Prop}
theorem guard_use (p : Int) (tk : Tok) (hlo : -1000001 ≤ p ∧ p ≤ 1000001) (B : Below A₀ h₀ [] h₀) (F : Fr h₀ L s.heap m) (X : (hd.heap_39 w.params).In h₀) (N : News h₀ L s.heap news) (T : Top hd.view_39 LO mean mg mb h₀) (hk : cs.kind = .function) (hdp : dp + 20 < recursionLimit) (hun : un + 200 < cLine)
    (h : ∀ h' tk', Fr h₀ L h' m → News h₀ L h' news → Q (.bool true) { s with heap := h', toks := tk' }) :
    wpAny (model PR w) (ktrTop dp un gd cn cs L a ccd [] []) (call (.ref 97) [.int p tk]) Q E s :=
  guard_claim p tk hlo.1 hlo.2 _ _ _ _ _ _ _ _ _ _ _ _ _ _ _ B F X N T hk hdp hun fun v h' tk' e F' N' => by subst e; exact h h' tk' F' N'
theorem next_use (y k : Int) (t u : Tok) (B : Below A₀ h₀ [] h₀) (F : Fr h₀ L s.heap m) (X : (hd.heap_39 w.params).In h₀) (N : News h₀ L s.heap news) (T : Top hd.view_39 LO mean mg mb h₀) (hk : cs.kind = .function) (hdp : dp + 20 < recursionLimit) (hun : un + 200 < cLine)
    (h : ∀ b y' k' t u n h' tk', ((k = 12 ∧ y' = y + 1 ∧ k' = 1) ∨ (k ≠ 12 ∧ y' = y ∧ k' = k + 1)) → Fr h₀ L h' m → News h₀ L h' ((b, pairO y' k' t u n) :: news) → (∀ p ∈ news, p.1 < b) → Q (.ref b) { s with heap := h', toks := tk' }) :
    wpAny (model PR w) (ktrTop dp un gd cn cs L a ccd [] []) (call (.ref 62) [.int y t, .int k u]) Q E s :=
  next_claim y k t u _ _ _ _ _ _ _ _ _ _ _ _ _ _ _ B F X N T hk hdp hun h
theorem prev_use (y k : Int) (t u : Tok) (B : Below A₀ h₀ [] h₀) (F : Fr h₀ L s.heap m) (X : (hd.heap_39 w.params).In h₀) (N : News h₀ L s.heap news) (T : Top hd.view_39 LO mean mg mb h₀) (hk : cs.kind = .function) (hdp : dp + 20 < recursionLimit) (hun : un + 200 < cLine)
    (h : ∀ b y' k' t u n h' tk', ((k = 1 ∧ y' = y - 1 ∧ k' = 12) ∨ (k ≠ 1 ∧ y' = y ∧ k' = k - 1)) → Fr h₀ L h' m → News h₀ L h' ((b, pairO y' k' t u n) :: news) → (∀ p ∈ news, p.1 < b) → Q (.ref b) { s with heap := h', toks := tk' }) :
    wpAny (model PR w) (ktrTop dp un gd cn cs L a ccd [] []) (call (.ref 55) [.int y t, .int k u]) Q E s :=
  prev_claim y k t u _ _ _ _ _ _ _ _ _ _ _ _ _ _ _ B F X N T hk hdp hun h
theorem line_use (y k j : Int) (t u v : Tok) (B : Below A₀ h₀ [] h₀) (F : Fr h₀ L s.heap m) (X : (hd.heap_39 w.params).In h₀) (N : News h₀ L s.heap news) (T : Top hd.view_39 LO mean mg mb h₀) (hk : cs.kind = .function) (hdp : dp + 20 < recursionLimit) (hun : un + 200 < cLine)
    (h : ∀ b y' k' t u n h' tk', LineAt y k j y' k' → Fr h₀ L h' m → News h₀ L h' ((b, pairO y' k' t u n) :: news) → Q (.ref b) { s with heap := h', toks := tk' }) :
    wpAny (model PR w) (ktrTop dp un gd cn cs L a ccd [] []) (call (.ref 104) [.int y t, .int k u, .int j v]) Q E s :=
  line_claim y k j t u v _ _ _ _ _ _ _ _ _ _ _ _ _ _ _ B F X N T hk hdp hun fun b y' k' t u n h' tk' r F' N' _ => h b y' k' t u n h' tk' r F' N'
end
end
section
open PySem PySem.W PyProof.Rows
set_option maxHeartbeats 3000000
theorem big_small (n : Int) : -1000001 ≤ Int.fmod n 2000003 - 1000001 ∧ Int.fmod n 2000003 - 1000001 ≤ 1000001 := by
  rw [Int.fmod_eq_emod_of_nonneg n (show (0 : Int) ≤ 2000003 by decide)]; omega
theorem place_in (n : Int) : -6 ≤ Int.fmod n 26 - 6 ∧ Int.fmod n 26 - 6 ≤ 19 := by
  rw [Int.fmod_eq_emod_of_nonneg n (show (0 : Int) ≤ 26 by decide)]; omega
theorem place_small (n : Int) : -1000001 ≤ Int.fmod n 26 - 6 ∧ Int.fmod n 26 - 6 ≤ 1000001 := by
  have := place_in n; omega
local macro_rules | `(tactic| walk_at "call ref") => `(tactic| (k_here; k_dflt (refine' guard_use _ _ ?hlo ?B ?F ?X ?N ?T ?hk ?hdp ?hun ?_; (case B => k_asm); (case F => k_asm); (case X => k_asm); (case N => k_asm); (case T => k_asm); (case hk => exact rfl); (case hdp => with_unfolding_all decide); (case hun => with_unfolding_all decide); (case hlo => first | assumption | exact big_small _ | exact place_small _ | exact ahead_small (by assumption) (by decide) (by decide) (place_in _).1 (place_in _).2 | exact back_small (by assumption) (by decide) (by decide) (place_in _).1 (place_in _).2)); intro h' tk' F' N'; (try k_sweep)))
local macro_rules | `(tactic| walk_at "call ref") => `(tactic| (k_here; k_dflt (refine' next_use _ _ _ _ ?B ?F ?X ?N ?T ?hk ?hdp ?hun ?_; (case B => k_asm); (case F => k_asm); (case X => k_asm); (case N => k_asm); (case T => k_asm); (case hk => exact rfl); (case hdp => with_unfolding_all decide); (case hun => with_unfolding_all decide)); intro b' y' k' t' u' n' h' tk' R' F' N' l'; (have A' := ahead_next (Int.natCast_nonneg _) (by assumption) R')))
local macro_rules | `(tactic| walk_at "call ref") => `(tactic| (k_here; k_dflt (refine' prev_use _ _ _ _ ?B ?F ?X ?N ?T ?hk ?hdp ?hun ?_; (case B => k_asm); (case F => k_asm); (case X => k_asm); (case N => k_asm); (case T => k_asm); (case hk => exact rfl); (case hdp => with_unfolding_all decide); (case hun => with_unfolding_all decide)); intro b' y' k' t' u' n' h' tk' R' F' N' l'; (have A' := back_next (Int.natCast_nonneg _) (by assumption) R')))
local macro_rules | `(tactic| walk_at "call ref") => `(tactic| (k_here; k_dflt (refine' line_use _ _ _ _ _ _ ?B ?F ?X ?N ?T ?hk ?hdp ?hun ?_; (case B => k_asm); (case F => k_asm); (case X => k_asm); (case N => k_asm); (case T => k_asm); (case hk => exact rfl); (case hdp => with_unfolding_all decide); (case hun => with_unfolding_all decide)); intro b' y' k' t' u' n' h' tk' R' F' N'))
local macro_rules | `(tactic| walk_at "call ref") => `(tactic| (k_here; k_dflt (refine' drawn_claim ?B ?F ?X ?N ?T ?hk ?hdp ?hun ?hl ?hi ?hlen ?_; (case B => k_asm); (case F => k_asm); (case X => k_asm); (case N => k_asm); (case T => k_asm); (case hk => exact rfl); (case hdp => with_unfolding_all decide); (case hun => with_unfolding_all decide); (case hl => assumption); (case hi => assumption); (case hlen => omega)); intro D' vs' ns' n' h' tk' I' F' N'; (try k_sweep)))
local macro_rules | `(tactic| walk_at "compareOp NotEq ref ref") => `(tactic| (k_here; (with_reducible show wpAny _ _ (compareOp CmpOp.NotEq (Value.ref _) (Value.ref _)) _ _ _); k_dflt (refine' ne_pair ?N ?ma ?mb ?hyk ?hu ?_; (case N => k_asm); (case ma => k_memK); (case mb => k_memK); (case hyk => first | (refine' ahead_line ?z1 ?z2 ?z3; (case z2 => assumption); (case z3 => assumption); (case z1 => omega)) | (refine' back_line ?z1 ?z2 ?z3; (case z2 => assumption); (case z3 => assumption); (case z1 => omega))); (case hu => ke_room); k_whole)))
structure Stop (p : Prop) : Prop where
  out : p
local macro_rules | `(tactic| walk_at "pyIter ref") => `(tactic| (k_here; k_dflt (refine' outer_loop ?hh ?hl ?hi ?F ?N ?turn ?done; (case hh => exact rfl); (case F => k_asm); (case N => k_asm); (case hl => k_memK); (case hi => assumption)); (case' turn => (intro a' t' u' h' tk' own' F' N'; (try k_fold))); (case' done => (intro u' h' tk' F' N'; (try k_fold)))))
local macro_rules | `(tactic| walk_at "pyIter ref") => `(tactic| (k_here; (rename IsRange _ _ _ _ _ _ _ _ => rgX); refine Stop.out ?_))
theorem t1 : PySem.Challenge.rw_sh0002_01.Holds := hd (by
  w_strict (k_go0; (all_goals try k_fold); k_steps)
  refine Stop.mk ?_
  k_dflt (refine' inner_loop ?hh ?hr ?F ?N ?ma ?mb ?e1 ?e2 ?e3 ?e4 ?turn ?done)
  (case hh => exact rfl)
  (case hr => assumption)
  (case F => k_asm)
  (case N => k_asm)
  (case e1 => exact rfl)
  (case e2 => exact rfl)
  (case e3 => exact rfl)
  (case e4 => exact rfl)
  (case ma => k_memK)
  (case mb => k_memK)
  case turn =>
    intro i' t' a' b' y1' k1' y2' k2' t1' u1' n1' t2' u2' n2' ty' tp' u' h' tk' own' I' A' B' F' N'
    (try k_fold)
    k_steps
    (with_unfolding_all refine' InnerEnd.intro ?F ?N ?hs ?e1 ?e2 ?e3 ?e4 ?hA ?hB ?o1 ?o2)
    (case F => assumption)
    (case N => assumption)
    (case e1 => exact rfl)
    (case e2 => exact rfl)
    (case e3 => exact rfl)
    (case e4 => exact rfl)
    (case hs => exact List.forall_mem_cons.mpr ⟨by k_memK, List.forall_mem_cons.mpr ⟨by k_memK, fun q9 h9 => by k_ownIn⟩⟩)
    (case hA => assumption)
    (case hB => assumption)
    (case o1 => (refine' own_ne ?L ?S; (case L => assumption); (case S => (intro q9 h9; repeat (first | exact List.mem_append.mpr (Or.inr h9) | exact h9 | refine List.Mem.tail _ ?_)))))
    (case o2 => (refine' own_ne ?L ?S; (case L => assumption); (case S => (intro q9 h9; repeat (first | exact List.mem_append.mpr (Or.inr h9) | exact h9 | refine List.Mem.tail _ ?_)))))
  case done =>
    intro a' b' y1' k1' y2' k2' t1' u1' n1' t2' u2' n2' ty' tp' u' h' tk' A' B' F' N'
    (try k_fold)
    k_steps
    (with_unfolding_all refine' TurnEnd.intro ?F ?N ?hs)
    (case F => assumption)
    (case N => assumption)
    (case hs => exact List.forall_mem_cons.mpr ⟨by k_memK, fun q9 h9 => by k_ownIn⟩)
  all_goals (try k_data))
end
end Mine
set_option maxHeartbeats 4000000 in
theorem PySem.Challenge.cw_sh0002_01_holds : PySem.Challenge.rw_sh0002_01.Holds := by
  exact Mine.t1
