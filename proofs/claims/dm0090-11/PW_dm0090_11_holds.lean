import PyProof.Rows.All
import Wide.All
import OpenK.AllK
import Wide.FinOn
import PySem.Challenge.RW_dm0090_11
set_option Elab.async false
set_option compiler.extract_closed false
local macro_rules | `(tactic| omega) => `(tactic| lia)
section
open PySem PySem.W PyProof.Rows
set_option maxRecDepth 100000
set_option maxHeartbeats 1000000
namespace Mine

theorem lookup_mem {α β} [BEq α] [LawfulBEq α] : ∀ {l : List (α × β)} {a : α} {b : β}, l.lookup a = some b → (a, b) ∈ l
  | [], _, _, h => by cases h
  | (c, d) :: l, a, b, h => by
    rw [List.lookup_cons] at h
    split at h
    · rename_i q; cases h; rw [eq_of_beq q]; exact .head _
    · exact .tail _ (lookup_mem h)
theorem wd_slot : Slot "wrapper_descriptor" "__get__" "wrapper_descriptor.__get__" := .of (owner := "wrapper_descriptor") (n := "__get__") (by rw [typeLookup_type, builtinLookup_eq_fast]; kernel_rfl) (by decide +kernel) (by decide +kernel) (by decide +kernel)
  (by first | exact .inl (by decide +kernel) | exact .inr (by decide +kernel)) (by rw [isSubtype_type]; kernel_rfl)
theorem wd_entry : entryFor table "wrapper_descriptor.__get__" = some Builtin.«wrapper_descriptor.__get__» := entryFor_of_tree (by kernel_rfl)
theorem wd_args (a b c : Value) : argsOk "wrapper_descriptor.__get__" ⟨[a, b, c], []⟩ := by unfold argsOk; kernel_rfl
theorem md_slot : Slot "method_descriptor" "__get__" "method_descriptor.__get__" := .of (owner := "method_descriptor") (n := "__get__") (by rw [typeLookup_type, builtinLookup_eq_fast]; kernel_rfl) (by decide +kernel) (by decide +kernel) (by decide +kernel)
  (by first | exact .inl (by decide +kernel) | exact .inr (by decide +kernel)) (by rw [isSubtype_type]; kernel_rfl)
theorem md_entry : entryFor table "method_descriptor.__get__" = some Builtin.«method_descriptor.__get__» := entryFor_of_tree (by kernel_rfl)
theorem md_args (a b c : Value) : argsOk "method_descriptor.__get__" ⟨[a, b, c], []⟩ := by unfold argsOk; kernel_rfl

section
variable {prog : Program} {w : World} {A : Around} {E : Value → Shared → Prop} {h : Heap} {g : Array GenState} {d : Drawn} {t : Nat} {os : OsState}


theorem wd_get {i : String} {x C : Addr} {ox : Obj} {K : Frag} {Q : Fin → Shared → Prop} (X : K.In h) (hx : h.get? x = some ox) (hxc : ox.cls = .ref C) (hsub : mroIn K C (.type "list") = some true)
   (hid : (".".intercalate (i.cutAt '.').dropLast) = "list")
   (hq : Q (.done (.ret (.ref h.objs.size))) ⟨h.push { cls := .type "method-wrapper", data := .fields #[.builtin i, .ref x] }, g, d, t, os⟩) :
    wpAny (model prog w) A (Builtin.«wrapper_descriptor.__get__» ⟨[.builtin i, .ref x, .ref C], []⟩) Q E ⟨h, g, d, t, os⟩ := by
  unfold Builtin.«wrapper_descriptor.__get__»
  repeat (first | wp_step)
  rw [hxc, hid]
  refine Looks.at (looks_mroIn X hsub) ?_
  unfold newFields
  repeat (first | (with_reducible refine wpAny_newObj_type ?_ (by size_fits)) | wp_step)
  all_goals exact hq
theorem md_get {i : String} {x C : Addr} {ox : Obj} {K : Frag} {Q : Fin → Shared → Prop} (X : K.In h) (hx : h.get? x = some ox) (hxc : ox.cls = .ref C) (hsub : mroIn K C (.type "list") = some true)
   (hid : (".".intercalate (i.cutAt '.').dropLast) = "list") (htc : Manifest.toldItsClass.contains i = false)
   (hq : Q (.done (.ret (.ref h.objs.size))) ⟨h.push { cls := .type "builtin_function_or_method", data := .fields #[.builtin i, .ref x] }, g, d, t, os⟩) :
    wpAny (model prog w) A (Builtin.«method_descriptor.__get__» ⟨[.builtin i, .ref x, .ref C], []⟩) Q E ⟨h, g, d, t, os⟩ := by
  unfold Builtin.«method_descriptor.__get__»
  repeat (first | (simp only [htc, Bool.false_eq_true, if_false]) | wp_step)
  rw [hxc, hid]
  refine Looks.at (looks_mroIn X hsub) ?_
  unfold newFields
  repeat (first | (with_reducible refine wpAny_newObj_type ?_ (by size_fits)) | wp_step)
  all_goals exact hq

noncomputable abbrev boundObj (T i : String) (x : Addr) : Obj := { cls := .type T, data := .fields #[.builtin i, .ref x] }

structure SupName (name : Str) (i T B : String) : Prop where
  own : builtinOwn "list" name = some (.builtin i)
  typ : builtinType i = pure (.type T)
  cls : (name == ("__class__" : Str)) = false
  get : ∀ {prog : Program} {w : World} {A : Around} {E : Value → Shared → Prop} {h : Heap} {g : Array GenState} {d : Drawn} {t : Nat} {os : OsState} {x C : Addr} {ox : Obj} {K : Frag} {Q : Value → Shared → Prop},
    K.In h → h.get? x = some ox → ox.cls = .ref C → mroIn K C (.type "list") = some true → Q (.ref h.objs.size) ⟨h.push (boundObj B i x), g, d, t, os⟩ →
    wpAny (model prog w) A (call (.builtin (T ++ ".__get__")) [.builtin i, .ref x, .ref C]) Q E ⟨h, g, d, t, os⟩
  look : typeLookup (.type T) "__get__" = pure (some (.builtin (T ++ ".__get__")))


theorem sup_wd {name : Str} {i : String} (own : builtinOwn "list" name = some (.builtin i)) (typ : builtinType i = pure (.type "wrapper_descriptor")) (cls : (name == ("__class__" : Str)) = false)
    (hid : (".".intercalate (i.cutAt '.').dropLast) = "list") : SupName name i "wrapper_descriptor" "method-wrapper" :=
  ⟨own, typ, cls, fun X hx hc hs hq => wpAny_call_entry wd_slot (show typeOf (.builtin i) = _ from typ) wd_entry (wd_get X hx hc hs hid ⟨_, rfl, hq⟩) (wd_args _ _ _), wd_slot.lookup⟩
theorem sup_md {name : Str} {i : String} (own : builtinOwn "list" name = some (.builtin i)) (typ : builtinType i = pure (.type "method_descriptor")) (cls : (name == ("__class__" : Str)) = false)
    (hid : (".".intercalate (i.cutAt '.').dropLast) = "list") (htc : Manifest.toldItsClass.contains i = false) : SupName name i "method_descriptor" "builtin_function_or_method" :=
  ⟨own, typ, cls, fun X hx hc hs hq => wpAny_call_entry md_slot (show typeOf (.builtin i) = _ from typ) md_entry (md_get X hx hc hs hid htc ⟨_, rfl, hq⟩) (md_args _ _ _), md_slot.lookup⟩
theorem sup_len : SupName "__len__" "list.__len__" "wrapper_descriptor" "method-wrapper" := sup_wd (by rw [builtinOwn_eq_fast]; kernel_rfl) (by rw [builtinType_eq_fast]; kernel_rfl) (by decide +kernel) (by decide +kernel)
theorem sup_init : SupName "__init__" "list.__init__" "wrapper_descriptor" "method-wrapper" := sup_wd (by rw [builtinOwn_eq_fast]; kernel_rfl) (by rw [builtinType_eq_fast]; kernel_rfl) (by decide +kernel) (by decide +kernel)
theorem sup_pop : SupName "pop" "list.pop" "method_descriptor" "builtin_function_or_method" := sup_md (by rw [builtinOwn_eq_fast]; kernel_rfl) (by rw [builtinType_eq_fast]; kernel_rfl) (by decide +kernel) (by decide +kernel) (by decide +kernel)

theorem forIn_first {β : Type} {M : Model} {c : Value} {l : List Value} {init : β} {body : Value → β → Sem (ForInStep β)} {Q : β → Shared → Prop} {s : Shared}
    (hq : wpAny M A (body c init) (fun st s' => match st with | .done b => Q b s' | .yield _ => False) E s) : wpAny M A (forIn (c :: l) init body) Q E s := by
  rw [List.forIn_cons]
  refine wpAny_bind (wpAny_mono hq (fun st s' hs => ?_) fun _ _ z => z)
  cases st with
  | done b => exact wpAny_pure hs
  | yield b => exact hs.elim

theorem super_ga {so x C : Addr} {ox : Obj} {K : Frag} {name : Str} {i T B : String} {tk : Tok} {cd : ClassData} {Q : Fin → Shared → Prop} (S : SupName name i T B)
    (hso : h.get? so = some { cls := .type "super", dict := none, data := .fields #[.ref C, .ref x, .ref C], slots := #[] }) (X : K.In h) (hno : nsIn K cStatics "thirdparty.any" = some none)
    (hC : clsIn K C = some cd) (hm : cd.mro = [.ref C, .type "list", .type "object"]) (hx : h.get? x = some ox) (hxc : ox.cls = .ref C) (hxC : x ≠ C)
    (hq : Q (.done (.ret (.ref h.objs.size))) ⟨h.push (boundObj B i x), g, d, t, os⟩) :
    wpAny (model prog w) A (Builtin.«super.__getattribute__» ⟨[.ref so, .str name tk], []⟩) Q E ⟨h, g, d, t, os⟩ := by
  have hne : (Value.ref x == Value.ref C) = false := by simp [hxC]
  have hdt : ({ cls := .type "super", dict := none, data := .fields #[.ref C, .ref x, .ref C], slots := #[] } : Obj).data = .fields #[.ref C, .ref x, .ref C] := rfl
  have f0 : (#[.ref C, .ref x, .ref C] : Array Value)[0]? = some (.ref C) := rfl
  have f1 : (#[.ref C, .ref x, .ref C] : Array Value)[1]? = some (.ref x) := rfl
  have f2 : (#[.ref C, .ref x, .ref C] : Array Value)[2]? = some (.ref C) := rfl
  have hmro : Looks (model prog w) h (mroOf (.ref C)) cd.mro := (looks_clsIn X hC).andThen .now
  have hsub : mroIn K C (.type "list") = some true := by unfold mroIn; rw [hC, Option.bind_some, hm]; rfl
  have hcls := S.cls
  have htyp := S.typ
  have hlk := S.look
  have hown : classOwn (.type "list") name = pure (some (.builtin i)) := by show pure (builtinOwn "list" name) = _; rw [S.own]
  have hafter : (cd.mro.dropWhile (· != .ref C)).drop 1 = [.type "list", .type "object"] := by rw [hm]; simp
  unfold Builtin.«super.__getattribute__»
  repeat (first
    | (with_reducible refine wpAny_field hso hdt f0 ?_) | (with_reducible refine wpAny_field hso hdt f1 ?_) | (with_reducible refine wpAny_field hso hdt f2 ?_)
    | (with_reducible refine ks_wpAny_notOpaque (looks_opaque X hno) ?_)
    | (with_reducible refine Looks.at hmro ?_; rw [hafter])
    | (with_reducible refine forIn_first ?_)
    | (with_reducible refine wpAny_of_eq hown ?_)
    | (with_reducible refine S.get X hx hxc hsub ?_)
    | (simp only [hcls, hne, Bool.or_false, Bool.false_eq_true, if_false])
    | wp_step
    | dsimp only)
  all_goals exact hq

theorem super_getMethod {so x C : Addr} {ox : Obj} {K : Frag} {name : Str} {i T B : String} {cd : ClassData} {pl : Sem Bool} {Q : Value × List Value → Shared → Prop} (S : SupName name i T B)
    (hso : h.get? so = some { cls := .type "super", dict := none, data := .fields #[.ref C, .ref x, .ref C], slots := #[] }) (X : K.In h) (hno : nsIn K cStatics "thirdparty.any" = some none)
    (hC : clsIn K C = some cd) (hm : cd.mro = [.ref C, .type "list", .type "object"]) (hx : h.get? x = some ox) (hxc : ox.cls = .ref C) (hxC : x ≠ C)
    (hq : Q (.ref h.objs.size, []) ⟨h.push (boundObj B i x), g, d, t + 1, os⟩) :
    wpAny (model prog w) A (getMethod (.ref so) name pl) Q E ⟨h, g, d, t, os⟩ := by
  have hlk := F.ks_slot_super_ga.lookup
  have hcan := F.ks_canon_super_ga
  have hT : ∀ t', (⟨h, g, d, t', os⟩ : Shared).TypeIs (.ref so) "super" := fun _ => ⟨_, hso, rfl⟩
  unfold getMethod
  refine wpAny_bind (wpAny_specialOf (hT _) hlk ?_)
  show wpAny _ _ (if (Manifest.canonical "super.__getattribute__" != "object.__getattribute__") = true then _ else _) _ _ _
  rw [if_pos hcan]
  unfold getAttr getAttrBy
  refine wpAny_bind (wpAny_bind (wpAny_mkText (wpAny_holding (wpAny_bind (wpAny_typeOf (hT _) (wpAny_bind (wpAny_of_eq hlk ?_)))))))
  show wpAny _ _ (getAttrByItsOwn (.ref so) (.str name t) (.type "super") (.builtin "super.__getattribute__") true false) _ _ _
  unfold getAttrByItsOwn hookBefore callGetattribute boundAndCalled
  refine wpAny_bind (wpAny_of_eq (show (if onTheHeap (.type "super") then typeLookup (.type "super") "__getattr__" else pure none) = pure none from rfl) ?_)
  refine wpAny_bind (wpAny_attempt (wpAny_holding ?_))
  show wpAny _ _ (bindSpecial (.builtin "super.__getattribute__") (.ref so) >>= _) _ _ _
  refine wpAny_bind (wpAny_of_eq (F.ks_slot_super_ga.bind _) ?_)
  refine wpAny_mono (Q := fun v s' => v = .ref h.objs.size ∧ s' = ⟨h.push (boundObj B i x), g, d, t + 1, os⟩) (E := fun _ _ => False)
    (wpAny_call_entry F.ks_slot_super_ga (hT _) F.ks_entry_super_ga (super_ga S hso X hno hC hm hx hxc hxC ⟨_, rfl, rfl, rfl⟩) (F.ks_gaArgs_super _ _)) (fun v s' hv => ?_) fun _ _ z => z.elim
  obtain ⟨rfl, rfl⟩ := hv
  exact wpAny_pure (wpAny_pure hq)

noncomputable abbrev Ext (h h' : Heap) : Prop := ∀ b o, h.get? b = some o → h'.get? b = some o
theorem Ext.refl {h : Heap} : Ext h h := fun _ _ e => e
theorem Ext.trans {h₁ h₂ h₃ : Heap} (x : Ext h₁ h₂) (y : Ext h₂ h₃) : Ext h₁ h₃ := fun b o e => y b o (x b o e)
theorem Ext.push {h : Heap} (o : Obj) : Ext h (h.push o) := fun _ _ e => Heap.get?_push_of_some _ e

noncomputable abbrev Hid [I : Membership Nat Unit] (a : Addr) : Prop := I.mem () a
structure Gd [Membership Nat Unit] (K : Frag) (h : Heap) : Prop where
  kin : K.In h
  blt : ∃ mb, h.Ns builtinsNs mb ∧ ∀ x : Str, x ≠ "__name__" → mb x = bootBuiltins x
  glb : ∃ mg, h.Ns mainGlobals mg
  bmd : ∃ mg b o, BMod h mainGlobals mg b o
  hid : ∀ a, Hid a → ∃ o, h.get? a = some o
variable [aI : Membership Nat Unit]
theorem Gd.ext {K : Frag} {h h' : Heap} (x : Gd K h) (e : Ext h h') : Gd K h' := ⟨x.kin.keeps e, let ⟨mb, a, b⟩ := x.blt; ⟨mb, a.keeps e, b⟩, let ⟨mg, a⟩ := x.glb; ⟨mg, a.keeps e⟩, let ⟨mg, b, o, a⟩ := x.bmd; ⟨mg, b, o, a.keeps e⟩, fun a q => let ⟨o, z⟩ := x.hid a q; ⟨o, e _ _ z⟩⟩

structure ClsK (prog : Program) (K : Frag) (C cc : Addr) (cd : ClassData) : Prop where
  cls : clsIn K C = some cd
  mro : cd.mro = [.ref C, .type "list", .type "object"]
  opq : nsIn K cStatics "thirdparty.any" = some none
  cell : ∃ cl cld csl, K.lookup cc = some ⟨cl, cld, .cell (some (.ref C)), csl⟩
  sup : nsIn K mainGlobals "super" = some none
  top : (prog.main.scope.names.lookup ("super" : Str)).isSome = false

theorem sup_call {K : Frag} {C cc x L f cda : Addr} {cd : ClassData} {ox : Obj} {m : Str → Option Value} {fd : FuncData} {of oc : Obj} {body : List Stmt} {vs : Array Value} {file : Str} {tf : Tok}
    {name : Str} {i T B : String} {p0 p1 apos pos : Pos} {args : List PySem.Expr} {s : Shared} {ar : Arg} {env : Env} {Q : Value → Shared → Prop} (S : SupName name i T B) (G : Gd K s.heap) (H : ClsK prog K C cc cd)
    (hk : env.scope.kind = .function) (hks : env.kindOf "super" = some .globalImplicit) (hkc : env.kindOf "__class__" = some .free) (hfu : env.func = some f) (hf : s.heap.get? f = some of) (hfd : of.data = .func fd)
    (hp : (fd.params.posonlyargs ++ fd.params.args).head? = some ar) (hka : env.kindOf ar.arg = some .local) (hco : env.code = .ref cda) (hcc : s.heap.get? cda = some oc) (hoc : oc.data = .fields vs) (hvs : vs[2]? = some (.str file tf))
    (hfile : ((prog.main.file : Str) == file) = true) (hcl : env.cells.lookup (Str.ofString "__class__") = some cc) (hgl : env.globals = mainGlobals) (hbl : env.builtins = builtinsNs)
    (hns : s.heap.Ns env.locals m) (hv : m ar.arg = some (.ref x)) (hx : s.heap.get? x = some ox) (hxc : ox.cls = .ref C) (hnc : ∀ c, ox.data ≠ .cls c)
    (h : ∀ b h' t', Ext s.heap h' → h'.get? b = some (boundObj B i x) → wpAny (model prog w) A (callWith pos (.ref b) [] (backTo pos (starEach args env)) []) Q E { s with heap := h', toks := t' })
    (he : eval (.Call (.Attribute (.Call (.Name "super" p0) [] [] p1) name apos) args [] pos) env = (do
      let ov ← attributeBase (.Call (.Name "super" p0) [] [] p1) name env (eval (.Call (.Name "super" p0) [] [] p1) env)
      standAt apos.atName
      let (f, first) ← holding [ov] (getMethod ov name (do return (← importBound (.Call (.Name "super" p0) [] [] p1) env).getD true))
      callWith pos f first (backTo pos (starEach args env)) []) := by rfl) :
    PySem.wpAt (model prog w) A (.func body env) (eval (.Call (.Attribute (.Call (.Name "super" p0) [] [] p1) name apos) args [] pos) env) Q E s := by
  obtain ⟨hh, gg, dd, tt, oo⟩ := s
  obtain ⟨mb, hb, hbb⟩ := G.blt
  obtain ⟨mg, hg⟩ := G.glb
  have X := G.kin
  have hsub : mroIn K C (.ref C) = some true := by unfold mroIn; rw [H.cls, Option.bind_some, H.mro]; simp
  obtain ⟨oD, hD1, hD2⟩ : ∃ oD, hh.get? C = some oD ∧ oD.data = .cls cd := by
    have hD := H.cls
    unfold clsIn at hD
    split at hD
    · rename_i c d cd' sl ho
      cases hD
      exact ⟨_, X _ _ ho, rfl⟩
    · cases hD
  have hxC : x ≠ C := by
    rintro rfl
    have hx' : hh.get? x = some ox := hx
    rw [hD1] at hx'
    cases hx'
    exact hnc _ hD2
  obtain ⟨cl, cld, csl, hce⟩ := H.cell
  rw [he]
  refine PySem.wpAt_bind (ks_wpAt_super_base hks hkc S.cls hfu hf hfd hp hco hcc hoc hvs hfile H.top ?_)
  refine ks_loadName_global hk hks (Calls.loadGlobal_builtin (hgl ▸ hg) (mg_none_of X hg H.sup) (hbl ▸ hb) ((hbb _ (by decide +kernel)).trans (by kernel_rfl)) ⟨rfl, ?_⟩)
  refine wpAny_loadName_free hk hkc hcl ⟨_, X _ _ hce, rfl⟩ ?_
  refine wpAny_loadName_local hk hka hns hv ?_
  refine ks_wpAny_isType_cls hD1 hD2 ⟨rfl, ?_⟩
  refine ks_wpAny_call_super hD1 hD2 hx hxc hnc (looks_mroIn X hsub) (fun h' e k => ?_)
  refine PySem.wpAt_bind (PySem.wpAt_of_wpAny (wpAny_standAt (PySem.wpAt_of_wpAny (wpAny_bind (wpAny_holding ?_)))))
  refine super_getMethod S e (X.keeps k) H.opq H.cls H.mro (k _ _ hx) hxc hxC ?_
  exact h _ _ _ (Ext.trans k (Ext.push _)) (Heap.get?_push_at rfl rfl)
end
end Mine

end
section
open PySem PySem.W
open PyProof.Rows hiding wpAt wpAt_bind
set_option linter.unusedSectionVars false
set_option maxRecDepth 100000
set_option maxHeartbeats 1000000
set_option linter.unusedVariables false
namespace Mine
variable [aI : Membership Nat Unit]

inductive Dv where
  | none
  | bool (b : Bool)
  | int (i : Int)
  | str (x : Str)
  | tup (l : List Dv)
  | raw (v : Value)

noncomputable abbrev tupObj (vs : List Value) (n : Nat) : Obj := { cls := .type "tuple", data := .seq vs.toArray n }

mutual
/-- v reads as d in h -/
inductive VR (h : Heap) : Value → Dv → Prop
  | none : VR h .none .none
  | bool (b : Bool) : VR h (.bool b) (.bool b)
  | int (i : Int) (t : Tok) : VR h (.int i t) (.int i)
  | str (x : Str) (t : Tok) : VR h (.str x t) (.str x)
  | tup {a : Addr} {vs : List Value} {n : Nat} {ds : List Dv} : ¬ Hid a → h.get? a = some (tupObj vs n) → VRs h vs ds → VR h (.ref a) (.tup ds)
  | raw (v : Value) : VR h v (.raw v)
inductive VRs (h : Heap) : List Value → List Dv → Prop
  | nil : VRs h [] []
  | cons {v : Value} {vs : List Value} {d : Dv} {ds : List Dv} : VR h v d → VRs h vs ds → VRs h (v :: vs) (d :: ds)
end

noncomputable def Pers (h h' : Heap) : Prop := ∀ a vs n, ¬ Hid a → h.get? a = some (tupObj vs n) → h'.get? a = some (tupObj vs n)
theorem Pers.refl {h : Heap} : Pers h h := fun _ _ _ _ e => e
theorem Pers.trans {a b c : Heap} (x : Pers a b) (y : Pers b c) : Pers a c := fun _ _ _ n e => y _ _ _ n (x _ _ _ n e)
theorem Ext.pers {h h' : Heap} (x : Ext h h') : Pers h h' := fun _ _ _ _ e => x _ _ e

structure Stays (s s' : Shared) : Prop where
  p : Pers s.heap s'.heap
  os : s'.os = s.os
  bare : AllBare s.gens → AllBare s'.gens
theorem Stays.refl {s : Shared} : Stays s s := ⟨.refl, rfl, id⟩
theorem Stays.trans {a b c : Shared} (x : Stays a b) (y : Stays b c) : Stays a c := ⟨x.p.trans y.p, y.os.trans x.os, fun h => y.bare (x.bare h)⟩
theorem Pers.st {s s' : Shared} (x : Pers s.heap s'.heap) (o : s'.os = s.os := by rfl) (g : s'.gens = s.gens := by rfl) : Stays s s' := ⟨x, o, fun h => g ▸ h⟩

mutual
theorem VR.mono {h h' : Heap} (k : Pers h h') : ∀ {v : Value} {d : Dv}, VR h v d → VR h' v d
  | _, _, .none => .none
  | _, _, .bool b => .bool b
  | _, _, .int i t => .int i t
  | _, _, .str x t => .str x t
  | _, _, .tup n e r => .tup n (k _ _ _ n e) (VRs.mono k r)
  | _, _, .raw v => .raw v
theorem VRs.mono {h h' : Heap} (k : Pers h h') : ∀ {v : List Value} {d : List Dv}, VRs h v d → VRs h' v d
  | _, _, .nil => .nil
  | _, _, .cons a b => .cons (VR.mono k a) (VRs.mono k b)
end
theorem VRs.length {h : Heap} {vs : List Value} {ds : List Dv} (x : VRs h vs ds) : vs.length = ds.length := by
  induction vs generalizing ds with
  | nil => cases x; rfl
  | cons v vs ih => cases x with | cons _ r => rw [List.length_cons, List.length_cons, ih r]
theorem VRs.append {h : Heap} {vs ws : List Value} {ds es : List Dv} (x : VRs h vs ds) (y : VRs h ws es) : VRs h (vs ++ ws) (ds ++ es) := by
  induction vs generalizing ds with
  | nil => cases x; exact y
  | cons v vs ih => cases x with | cons a r => exact .cons a (ih r)
theorem VRs.get {h : Heap} {vs : List Value} {ds : List Dv} (x : VRs h vs ds) {k : Nat} {v : Value} (e : vs[k]? = some v) : ∃ d, ds[k]? = some d ∧ VR h v d := by
  induction vs generalizing ds k with
  | nil => cases e
  | cons u vs ih =>
    cases x with
    | cons a r =>
      cases k with
      | zero => cases e; exact ⟨_, rfl, a⟩
      | succ k => exact ih r e
theorem VRs.get' {h : Heap} {vs : List Value} {ds : List Dv} (x : VRs h vs ds) {k : Nat} {d : Dv} (e : ds[k]? = some d) : ∃ v, vs[k]? = some v ∧ VR h v d := by
  induction vs generalizing ds k with
  | nil => cases x; cases e
  | cons u vs ih =>
    cases x with
    | cons a r =>
      cases k with
      | zero => cases e; exact ⟨_, rfl, a⟩
      | succ k => exact ih r e
theorem VRs.take {h : Heap} {vs : List Value} {ds : List Dv} (x : VRs h vs ds) (k : Nat) : VRs h (vs.take k) (ds.take k) := by
  induction vs generalizing ds k with
  | nil => cases x; simp; exact .nil
  | cons u vs ih =>
    cases x with
    | cons a r =>
      cases k with
      | zero => exact .nil
      | succ k => exact .cons a (ih r k)
theorem VRs.drop {h : Heap} {vs : List Value} {ds : List Dv} (x : VRs h vs ds) (k : Nat) : VRs h (vs.drop k) (ds.drop k) := by
  induction vs generalizing ds k with
  | nil => cases x; simp; exact .nil
  | cons u vs ih =>
    cases x with
    | cons a r =>
      cases k with
      | zero => exact .cons a r
      | succ k => exact ih r k
inductive AObj where
  | list (ds : List Dv)
  | acc (C d : Addr) (ds : List Dv)
  | inst (C d : Addr)
  | idict (l : List (Str × Dv))
  | cell (d : Option Dv)
  | tab
  | slc (l u s : Dv)
  | fix (o : Obj) (ds : List Dv)
  | any (P : Obj → Prop)

inductive Ents (h : Heap) : List DictEntry → List (Str × Dv) → Prop
  | nil : Ents h [] []
  | cons {hs : Int} {x : Str} {t : Tok} {v : Value} {d : Dv} {es : List DictEntry} {l : List (Str × Dv)} : VR h v d → Ents h es l → Ents h (⟨hs, .str x t, v⟩ :: es) ((x, d) :: l)
theorem Ents.mono {h h' : Heap} (k : Pers h h') {es : List DictEntry} {l : List (Str × Dv)} (x : Ents h es l) : Ents h' es l := by
  induction x with
  | nil => exact .nil
  | cons a _ ih => exact .cons (a.mono k) ih

noncomputable abbrev accObj (C d : Addr) (vs : List Value) (n : Nat) : Obj := { cls := .ref C, dict := some d, data := .seq vs.toArray n }
noncomputable abbrev lstObj (vs : List Value) (n : Nat) : Obj := { cls := .type "list", data := .seq vs.toArray n }

noncomputable def OR (h : Heap) (a : Addr) : AObj → Prop
  | .list ds => ∃ vs n, h.get? a = some (lstObj vs n) ∧ VRs h vs ds
  | .acc C d ds => ∃ vs n, h.get? a = some (accObj C d vs n) ∧ VRs h vs ds
  | .inst C d => h.get? a = some { cls := .ref C, dict := some d, data := .plain }
  | .idict l => ∃ es n, h.get? a = some { cls := .type "dict", data := .dict es.toArray n } ∧ Ents h es l
  | .cell none => h.IsCell a none
  | .cell (some d) => ∃ v, h.IsCell a (some v) ∧ VR h v d
  | .any P => ∃ o, h.get? a = some o ∧ P o ∧ ∀ vs n, o ≠ tupObj vs n
  | .tab => ∃ ps, h.get? a = some (tabObj ps) ∧ TriplesOk ps.toList
  | .fix o ds => h.get? a = some o ∧ o.cls = .type "list" ∧ ∃ vs n, o.data = .seq (vs : List Value).toArray n ∧ VRs h vs ds
  | .slc l u s => ∃ vl vu vs, h.get? a = some { cls := .type "slice", data := .fields #[vl, vu, vs] } ∧ VR h vl l ∧ VR h vu u ∧ VR h vs s

theorem OR.mono {h h' : Heap} {a : Addr} {o : AObj} (k : Pers h h') (e : h'.get? a = h.get? a) (x : OR h a o) : OR h' a o := by
  cases o with
  | list ds => obtain ⟨vs, n, p, q⟩ := x; exact ⟨vs, n, e.trans p, q.mono k⟩
  | acc C d ds => obtain ⟨vs, n, p, q⟩ := x; exact ⟨vs, n, e.trans p, q.mono k⟩
  | inst C d => exact e.trans x
  | idict l => obtain ⟨vs, n, p, q⟩ := x; exact ⟨vs, n, e.trans p, q.mono k⟩
  | cell d =>
    cases d with
    | none => obtain ⟨o, p, q⟩ := x; exact ⟨o, e.trans p, q⟩
    | some d => obtain ⟨v, ⟨o, p, z⟩, q⟩ := x; exact ⟨v, ⟨o, e.trans p, z⟩, q.mono k⟩
  | tab => obtain ⟨ps, p, q⟩ := x; exact ⟨ps, e.trans p, q⟩
  | slc l u s => obtain ⟨v1, v2, v3, p, a, b, c⟩ := x; exact ⟨v1, v2, v3, e.trans p, a.mono k, b.mono k, c.mono k⟩
  | fix ob ds => obtain ⟨p, q, vs, n, z, r⟩ := x; exact ⟨e.trans p, q, vs, n, z, r.mono k⟩
  | any P => obtain ⟨o, p, q⟩ := x; exact ⟨o, e.trans p, q⟩
theorem OR.some {h : Heap} {a : Addr} {o : AObj} (x : OR h a o) : ∃ ob, h.get? a = some ob ∧ ∀ vs n, ob ≠ tupObj vs n := by
  cases o with
  | list ds => obtain ⟨vs, n, p, q⟩ := x; exact ⟨_, p, by intro _ _ z; simp at z⟩
  | acc C d ds => obtain ⟨vs, n, p, q⟩ := x; exact ⟨_, p, by intro _ _ z; simp at z⟩
  | inst C d => exact ⟨_, x, by intro _ _ z; simp at z⟩
  | idict l => obtain ⟨vs, n, p, q⟩ := x; exact ⟨_, p, by intro _ _ z; simp at z⟩
  | cell d =>
    cases d with
    | none => obtain ⟨o, p, q⟩ := x; exact ⟨_, p, by rintro _ _ rfl; cases q⟩
    | some d => obtain ⟨v, ⟨o, p, z⟩, q⟩ := x; exact ⟨_, p, by rintro _ _ rfl; cases z⟩
  | tab => obtain ⟨ps, p, q⟩ := x; exact ⟨_, p, by intro _ _ z; simp at z⟩
  | slc l u s => obtain ⟨v1, v2, v3, p, _⟩ := x; exact ⟨_, p, by intro _ _ z; simp at z⟩
  | fix ob ds => obtain ⟨p, q, _⟩ := x; exact ⟨_, p, by rintro _ _ rfl; simp at q⟩
  | any P => obtain ⟨o, p, _, q⟩ := x; exact ⟨_, p, q⟩

noncomputable abbrev Own := List (Addr × AObj)
structure OwnOk (h₀ : Heap) (own : Own) (h : Heap) : Prop where
  keep : Ext h₀ h
  at_ : ∀ p ∈ own, OR h p.1 p.2
  off : ∀ p ∈ own, h₀.get? p.1 = none
  nd : (own.map (·.1)).Nodup

noncomputable abbrev Loc := List (Str × Dv)
structure LocOk (h₀ : Heap) (L : Addr) (loc : Loc) (own : Own) (h : Heap) : Prop where
  ns : ∃ m, h.Ns L m ∧ ∀ x d, (x, d) ∈ loc → ∃ v, m x = some v ∧ VR h v d
  fresh : h₀.get? L = none
  off : ∀ p ∈ own, p.1 ≠ L
  nd : (loc.map (·.1)).Nodup
structure Rel (h₀ : Heap) (L : Addr) (loc : Loc) (own : Own) (h : Heap) : Prop where
  ow : OwnOk h₀ own h
  lc : LocOk h₀ L loc own h

inductive Upd (a : Addr) (o o' : AObj) : Own → Own → Prop
  | here {r : Own} : Upd a o o' ((a, o) :: r) ((a, o') :: r)
  | there {p : Addr × AObj} {r r' : Own} : Upd a o o' r r' → Upd a o o' (p :: r) (p :: r')
theorem Upd.mem {a : Addr} {o o' : AObj} {own own' : Own} (u : Upd a o o' own own') : (a, o) ∈ own := by
  induction u with
  | here => exact .head _
  | there _ ih => exact .tail _ ih
theorem Upd.keys {a : Addr} {o o' : AObj} {own own' : Own} (u : Upd a o o' own own') : own'.map (·.1) = own.map (·.1) := by
  induction u with
  | here => rfl
  | there _ ih => rw [List.map_cons, List.map_cons, ih]
theorem Upd.of_mem {a : Addr} {o o' : AObj} {own own' : Own} (u : Upd a o o' own own') (nd : (own.map (·.1)).Nodup) : ∀ p ∈ own', p = (a, o') ∨ (p ∈ own ∧ p.1 ≠ a) := by
  induction u with
  | here =>
    intro p hp
    rcases List.mem_cons.mp hp with rfl | hp
    · exact .inl rfl
    · refine .inr ⟨.tail _ hp, fun e => ?_⟩
      rw [List.map_cons, List.nodup_cons] at nd
      have := List.mem_map_of_mem (f := fun q : Addr × AObj => q.1) hp
      rw [e] at this
      exact nd.1 this
  | there u' ih =>
    intro p hp
    rw [List.map_cons, List.nodup_cons] at nd
    rcases List.mem_cons.mp hp with rfl | hp
    · refine .inr ⟨.head _, fun e => nd.1 ?_⟩
      rw [e]
      exact List.mem_map_of_mem (f := fun q : Addr × AObj => q.1) u'.mem
    · rcases ih nd.2 p hp with e | ⟨q, e⟩
      · exact .inl e
      · exact .inr ⟨.tail _ q, e⟩

structure Chg (a : Addr) (h h' : Heap) : Prop where
  same : ∀ b, b ≠ a → h'.get? b = h.get? b
  old : ∃ o, h.get? a = some o ∧ ∀ vs n, o ≠ tupObj vs n
theorem Chg.pers {a : Addr} {h h' : Heap} (c : Chg a h h') : Pers h h' := fun b vs n _ e => by
  rw [c.same b ?_]; exact e
  rintro rfl
  obtain ⟨o, q, r⟩ := c.old
  rw [q] at e; cases e
  exact r _ _ rfl
theorem OwnOk.upd {h₀ h h' : Heap} {own own' : Own} {a : Addr} {o o' : AObj} (x : OwnOk h₀ own h) (u : Upd a o o' own own') (c : Chg a h h') (n : OR h' a o') : OwnOk h₀ own' h' where
  keep := fun b ob e => (c.same b fun z => by subst z; have := x.off _ u.mem; rw [e] at this; cases this).trans (x.keep b ob e)
  at_ := fun p hp => by
    rcases u.of_mem x.nd p hp with rfl | ⟨q, e⟩
    · exact n
    · exact (x.at_ p q).mono c.pers (c.same _ e)
  off := fun p hp => by
    rcases u.of_mem x.nd p hp with rfl | ⟨q, e⟩
    · exact x.off (a, o) u.mem
    · exact x.off p q
  nd := u.keys ▸ x.nd
theorem LocOk.upd {h₀ h h' : Heap} {L : Addr} {loc : Loc} {own own' : Own} {a : Addr} {o o' : AObj} (x : LocOk h₀ L loc own h) (u : Upd a o o' own own') (c : Chg a h h') : LocOk h₀ L loc own' h' where
  ns := by
    obtain ⟨m, n, k⟩ := x.ns
    have hL : L ≠ a := fun e => x.off _ u.mem e.symm
    refine ⟨m, ?_, fun y d hy => ?_⟩
    · obtain ⟨ob, es, ep, q, r⟩ := n; exact ⟨ob, es, ep, (c.same L hL).trans q, r⟩
    · obtain ⟨v, e, r⟩ := k y d hy; exact ⟨v, e, r.mono c.pers⟩
  fresh := x.fresh
  off := fun p hp => by
    have : p.1 ∈ own.map (·.1) := u.keys ▸ List.mem_map_of_mem hp
    obtain ⟨q, hq, e⟩ := List.mem_map.mp this
    rw [← e]; exact x.off q hq
  nd := x.nd
theorem Rel.upd {h₀ h h' : Heap} {L : Addr} {loc : Loc} {own own' : Own} {a : Addr} {o o' : AObj} (x : Rel h₀ L loc own h) (u : Upd a o o' own own') (c : Chg a h h') (n : OR h' a o') : Rel h₀ L loc own' h' :=
  ⟨x.ow.upd u c n, x.lc.upd u c⟩

theorem get_size_none (h : Heap) : h.get? h.objs.size = none := by
  cases q : h.get? h.objs.size with
  | none => rfl
  | some o => exact absurd (Heap.lt_size q) (Nat.lt_irrefl _)
theorem Ext.none {h h' : Heap} (e : Ext h h') {a : Addr} (n : h'.get? a = none) : h.get? a = none := by
  cases q : h.get? a with
  | none => rfl
  | some o => rw [e _ _ q] at n; cases n

theorem OwnOk.ext {h₀ h h' : Heap} {own : Own} (x : OwnOk h₀ own h) (e : Ext h h') : OwnOk h₀ own h' where
  keep := x.keep.trans e
  at_ := fun p hp => by
    obtain ⟨ob, q, _⟩ := (x.at_ p hp).some
    exact (x.at_ p hp).mono (Ext.pers e) ((e _ _ q).trans q.symm)
  off := x.off
  nd := x.nd
theorem OwnOk.more {h₀ h h' : Heap} {own : Own} {a : Addr} {o : AObj} (x : OwnOk h₀ own h) (e : Ext h h') (n : h.get? a = none) (r : OR h' a o) : OwnOk h₀ ((a, o) :: own) h' where
  keep := x.keep.trans e
  at_ := fun p hp => by
    rcases List.mem_cons.mp hp with rfl | hp
    · exact r
    · exact (x.ext e).at_ p hp
  off := fun p hp => by
    rcases List.mem_cons.mp hp with rfl | hp
    · exact x.keep.none n
    · exact x.off p hp
  nd := by
    rw [List.map_cons, List.nodup_cons]
    refine ⟨fun q => ?_, x.nd⟩
    obtain ⟨p, hp, e'⟩ := List.mem_map.mp q
    obtain ⟨ob, z, _⟩ := (x.at_ p hp).some
    rw [e', n] at z; cases z
theorem LocOk.ext {h₀ h h' : Heap} {L : Addr} {loc : Loc} {own : Own} (x : LocOk h₀ L loc own h) (e : Ext h h') : LocOk h₀ L loc own h' where
  ns := by
    obtain ⟨m, n, k⟩ := x.ns
    exact ⟨m, n.keeps e, fun y d hy => by obtain ⟨v, q, r⟩ := k y d hy; exact ⟨v, q, r.mono (Ext.pers e)⟩⟩
  fresh := x.fresh
  off := x.off
  nd := x.nd
theorem Rel.ext {h₀ h h' : Heap} {L : Addr} {loc : Loc} {own : Own} (x : Rel h₀ L loc own h) (e : Ext h h') : Rel h₀ L loc own h' := ⟨x.ow.ext e, x.lc.ext e⟩
theorem Rel.more {h₀ h h' : Heap} {L : Addr} {loc : Loc} {own : Own} {a : Addr} {o : AObj} (x : Rel h₀ L loc own h) (e : Ext h h') (n : h.get? a = none) (r : OR h' a o) : Rel h₀ L loc ((a, o) :: own) h' :=
  ⟨x.ow.more e n r, ⟨(x.lc.ext e).ns, x.lc.fresh, fun p hp => by
    rcases List.mem_cons.mp hp with rfl | hp
    · obtain ⟨_, ⟨ob, _, _, q, _⟩, _⟩ := x.lc.ns
      intro z
      have z : a = L := z
      subst z
      rw [q] at n; cases n
    · exact x.lc.off p hp, x.lc.nd⟩⟩
theorem OwnOk.sub {h₀ h : Heap} {own own' : Own} (x : OwnOk h₀ own h) (s : own'.Sublist own) : OwnOk h₀ own' h :=
  ⟨x.keep, fun p hp => x.at_ p (s.subset hp), fun p hp => x.off p (s.subset hp), (s.map _).nodup x.nd⟩
theorem Rel.sub {h₀ h : Heap} {L : Addr} {loc : Loc} {own own' : Own} (x : Rel h₀ L loc own h) (s : own'.Sublist own) : Rel h₀ L loc own' h :=
  ⟨x.ow.sub s, ⟨x.lc.ns, x.lc.fresh, fun p hp => x.lc.off p (s.subset hp), x.lc.nd⟩⟩
theorem Rel.fresh {K : Frag} {h₀ h : Heap} {L a : Addr} {loc : Loc} {own : Own} (r : Rel h₀ L loc own h) (g : Gd K h₀) (n : h.get? a = none) : ¬ Hid a := fun q => by
  obtain ⟨o, e⟩ := g.hid a q
  rw [r.ow.keep _ _ e] at n; cases n
end Mine

end
section
open PySem PySem.W
open PyProof.Rows hiding wpAt wpAt_bind
set_option linter.unusedSectionVars false
set_option maxRecDepth 100000
set_option maxHeartbeats 1000000
set_option linter.unusedVariables false
namespace Mine
variable [aI : Membership Nat Unit]

structure Fm where
  prog : Program
  w : World
  K : Frag
  A : Around
  env : Env
  E : Value → Shared → Prop
  D : Nat
  U : Nat
  hh : A.handled = none
  hD : A.depth ≤ D
  hU : A.units ≤ U
  hk : env.scope.kind = .function
  hg : env.globals = mainGlobals
  hb : env.builtins = builtinsNs

noncomputable abbrev QV := Dv → Loc → Own → Prop
inductive Out (h₀ : Heap) (L : Addr) (h : Shared) (Q : QV) (v : Value) (s' : Shared) : Prop
  | mk (d : Dv) (loc : Loc) (own : Own) : Stays h s' → Rel h₀ L loc own s'.heap → VR s'.heap v d → Q d loc own → Out h₀ L h Q v s'

noncomputable def Ev (Γ : Fm) (loc : Loc) (own : Own) (e : PySem.Expr) (Q : QV) : Prop :=
  ∀ h₀ s, Gd Γ.K h₀ → Rel h₀ Γ.env.locals loc own s.heap → wpAny (model Γ.prog Γ.w) Γ.A (eval e Γ.env) (Out h₀ Γ.env.locals s Q) Γ.E s
noncomputable def Op2 (Γ : Fm) (loc : Loc) (own : Own) (a b : Dv) (t : Value → Value → Sem Value) (Q : QV) : Prop :=
  ∀ h₀ s x y, Gd Γ.K h₀ → Rel h₀ Γ.env.locals loc own s.heap → VR s.heap x a → VR s.heap y b → wpAny (model Γ.prog Γ.w) Γ.A (t x y) (Out h₀ Γ.env.locals s Q) Γ.E s
noncomputable def OpN (Γ : Fm) (loc : Loc) (own : Own) (ds : List Dv) (t : List Value → Sem Value) (Q : QV) : Prop :=
  ∀ h₀ s xs, Gd Γ.K h₀ → Rel h₀ Γ.env.locals loc own s.heap → VRs s.heap xs ds → wpAny (model Γ.prog Γ.w) Γ.A (t xs) (Out h₀ Γ.env.locals s Q) Γ.E s

theorem Out.pers {h₀ : Heap} {L : Addr} {h h' : Shared} {Q : QV} {v : Value} {s' : Shared} (k : Stays h h') (x : Out h₀ L h' Q v s') : Out h₀ L h Q v s' := by
  obtain ⟨d, loc, own, a, b, c, e⟩ := x
  exact ⟨d, loc, own, k.trans a, b, c, e⟩

section
variable {Γ : Fm} {loc : Loc} {own : Own} {Q : QV}


theorem Ev.use {e : PySem.Expr} (x : Ev Γ loc own e Q) {h₀ : Heap} {s : Shared} {R : Value → Shared → Prop} (g : Gd Γ.K h₀) (rel : Rel h₀ Γ.env.locals loc own s.heap)
    (k : ∀ d loc own s' v, Stays s s' → Rel h₀ Γ.env.locals loc own s'.heap → VR s'.heap v d → Q d loc own → R v s') : wpAny (model Γ.prog Γ.w) Γ.A (eval e Γ.env) R Γ.E s :=
  wpAny_mono (x h₀ s g rel) (fun v s' ⟨d, loc, own, p, r, vr, q⟩ => k d loc own s' v p r vr q) fun _ _ z => z
theorem Op2.go {a b : Dv} {t : Value → Value → Sem Value} (x : Op2 Γ loc own a b t Q) {h₀ : Heap} {h s : Shared} {v u : Value} (g : Gd Γ.K h₀) (rel : Rel h₀ Γ.env.locals loc own s.heap) (va : VR s.heap v a) (ub : VR s.heap u b) (p : Stays h s) :
    wpAny (model Γ.prog Γ.w) Γ.A (t v u) (Out h₀ Γ.env.locals h Q) Γ.E s := wpAny_mono (x h₀ s v u g rel va ub) (fun _ _ z => z.pers p) fun _ _ z => z
theorem out_ext {h₀ : Heap} {L : Addr} {h s' : Shared} {v : Value} {d : Dv} (rel : Rel h₀ L loc own h.heap) (e : Ext h.heap s'.heap) (vr : VR s'.heap v d) (q : Q d loc own) (ho : s'.os = h.os := by rfl) (hg : s'.gens = h.gens := by rfl) : Out h₀ L h Q v s' :=
  ⟨d, loc, own, (Ext.pers e).st ho hg, rel.ext e, vr, q⟩

theorem ev_bin {l r : PySem.Expr} {op : Operator} {pos : Pos} (x : Ev Γ loc own l fun a loc own => Ev Γ loc own r fun b loc own => Op2 Γ loc own a b (binaryOp op) Q) : Ev Γ loc own (.BinOp l op r pos) Q := by
  intro h₀ s g rel
  exact wpAny_BinOp (x.use g rel fun a _ _ s1 va p1 r1 v1 q1 => q1.use g r1 fun b _ _ s2 vb p2 r2 v2 q2 => q2.go g r2 (v1.mono p2.p) v2 (p1.trans p2))
theorem ev_int {i : Int} {k : Nat} {pos : Pos} (q : Q (.int i) loc own) : Ev Γ loc own (.Constant (.int i) k pos) Q := by
  intro h₀ s g rel
  exact wpAny_Constant_int (out_ext rel Ext.refl (.int _ _) q)
theorem ev_str {x : Str} {k : Nat} {pos : Pos} (q : Q (.str x) loc own) : Ev Γ loc own (.Constant (.str x) k pos) Q := by
  intro h₀ s g rel
  exact Calls.Constant_str (out_ext rel Ext.refl (.str _ _) q)
theorem ev_none {k : Nat} {pos : Pos} (q : Q .none loc own) : Ev Γ loc own (.Constant .none k pos) Q := by
  intro h₀ s g rel
  exact fun _ _ _ => out_ext rel Ext.refl .none q
inductive Has (x : Str) (d : Dv) : Loc → Prop
  | here {r : Loc} : Has x d ((x, d) :: r)
  | there {p : Str × Dv} {r : Loc} : Has x d r → Has x d (p :: r)
theorem Has.mem {x : Str} {d : Dv} {loc : Loc} (h : Has x d loc) : (x, d) ∈ loc := by
  induction h with
  | here => exact .head _
  | there _ ih => exact .tail _ ih
theorem ev_name {x : Str} {pos : Pos} {d : Dv} (hl : Γ.env.kindOf x = some .local) (hd : (x == ("__debug__" : Str)) = false) (hx : Has x d loc) (q : Q d loc own) : Ev Γ loc own (.Name x pos) Q := by
  intro h₀ s g rel
  obtain ⟨m, n, k⟩ := rel.lc.ns
  obtain ⟨v, e, vr⟩ := k x d hx.mem
  exact wpAny_Name (wpAny_loadName_local Γ.hk hl n e (out_ext rel Ext.refl vr q)) hd
theorem ev_global {x : Str} {pos : Pos} {v : Value} (hl : Γ.env.kindOf x = some .globalImplicit) (hd : (x == ("__debug__" : Str)) = false)
    (e : nsIn Γ.K mainGlobals x = some (some v)) (q : Q (.raw v) loc own) : Ev Γ loc own (.Name x pos) Q := by
  intro h₀ s g rel
  obtain ⟨mg, G⟩ := g.glb
  exact Calls.Name_function_global Γ.hk hl (Calls.loadGlobal_global (Γ.hg ▸ G.keeps rel.ow.keep) (PySem.W.mg_of g.kin G e) (out_ext rel Ext.refl (.raw v) q)) hd
theorem ev_builtin {x : Str} {pos : Pos} {v : Value} (hl : Γ.env.kindOf x = some .globalImplicit) (hd : (x == ("__debug__" : Str)) = false)
    (e : nsIn Γ.K mainGlobals x = some none) (hn : x ≠ "__name__") (hv : bootBuiltins x = some v) (q : Q (.raw v) loc own) : Ev Γ loc own (.Name x pos) Q := by
  intro h₀ s g rel
  obtain ⟨mg, G⟩ := g.glb
  obtain ⟨mb, B, BB⟩ := g.blt
  exact Calls.Name_function_global Γ.hk hl (Calls.loadGlobal_builtin (Γ.hg ▸ G.keeps rel.ow.keep) (mg_none_of g.kin G e) (Γ.hb ▸ B.keeps rel.ow.keep) ((BB x hn).trans hv) (out_ext rel Ext.refl (.raw v) q)) hd

inductive Fl where
  | next | brk | cont
  | ret (d : Dv)
inductive FR (h : Heap) : Flow → Fl → Prop
  | next : FR h .next .next
  | brk : FR h .brk .brk
  | cont : FR h .cont .cont
  | ret {v : Value} {d : Dv} : VR h v d → FR h (.ret v) (.ret d)
noncomputable abbrev QF := Fl → Loc → Own → Prop
inductive OutF (h₀ : Heap) (L : Addr) (h : Shared) (Q : QF) (f : Flow) (s' : Shared) : Prop
  | mk (a : Fl) (loc : Loc) (own : Own) : Stays h s' → Rel h₀ L loc own s'.heap → FR s'.heap f a → Q a loc own → OutF h₀ L h Q f s'
noncomputable def Ex (Γ : Fm) (loc : Loc) (own : Own) (st : Stmt) (Q : QF) : Prop :=
  ∀ h₀ s, Gd Γ.K h₀ → Rel h₀ Γ.env.locals loc own s.heap → wpAny (model Γ.prog Γ.w) Γ.A (exec st Γ.env) (OutF h₀ Γ.env.locals s Q) Γ.E s
noncomputable def Exs (Γ : Fm) (loc : Loc) (own : Own) (sts : List Stmt) (Q : QF) : Prop :=
  ∀ h₀ s, Gd Γ.K h₀ → Rel h₀ Γ.env.locals loc own s.heap → wpAny (model Γ.prog Γ.w) Γ.A (execs sts Γ.env) (OutF h₀ Γ.env.locals s Q) Γ.E s
theorem OutF.pers {h₀ : Heap} {L : Addr} {h h' : Shared} {Q : QF} {v : Flow} {s' : Shared} (k : Stays h h') (x : OutF h₀ L h' Q v s') : OutF h₀ L h Q v s' := by
  obtain ⟨d, loc, own, a, b, c, e⟩ := x
  exact ⟨d, loc, own, k.trans a, b, c, e⟩
variable {QQ : QF}
theorem Exs.go {st : List Stmt} (x : Exs Γ loc own st QQ) {h₀ : Heap} {h s : Shared} (g : Gd Γ.K h₀) (rel : Rel h₀ Γ.env.locals loc own s.heap) (p : Stays h s) :
    wpAny (model Γ.prog Γ.w) Γ.A (execs st Γ.env) (OutF h₀ Γ.env.locals h QQ) Γ.E s := wpAny_mono (x h₀ s g rel) (fun _ _ z => z.pers p) fun _ _ z => z
theorem exs_nil (q : QQ .next loc own) : Exs Γ loc own [] QQ := fun h₀ s g rel => wpAny_execs_nil ⟨_, _, _, Pers.refl.st, rel, .next, q⟩
theorem exs_cons {st : Stmt} {r : List Stmt} (x : Ex Γ loc own st fun f loc own => match f with | .next => Exs Γ loc own r QQ | f => QQ f loc own) : Exs Γ loc own (st :: r) QQ := by
  intro h₀ s g rel
  refine wpAny_execs_cons (wpAny_mono (x h₀ s g rel) (fun f s' ⟨a, loc, own, p, r, fr, q⟩ => ?_) fun _ _ z => z)
  cases fr with
  | next => exact Exs.go q g r p
  | brk => exact ⟨_, _, _, p, r, .brk, q⟩
  | cont => exact ⟨_, _, _, p, r, .cont, q⟩
  | ret v => exact ⟨_, _, _, p, r, .ret v, q⟩
theorem ex_return {e : PySem.Expr} {pos : Pos} (x : Ev Γ loc own e fun d loc own => QQ (.ret d) loc own) : Ex Γ loc own (.Return (some e) pos) QQ := fun h₀ s g rel =>
  wpAny_Return_some (x.use g rel fun d loc own s' v p r vr q => ⟨_, _, _, p, r, .ret vr, q⟩)

inductive SetL (x : Str) (d : Dv) : Loc → Loc → Prop
  | here {e : Dv} {r : Loc} : SetL x d ((x, e) :: r) ((x, d) :: r)
  | there {p : Str × Dv} {r r' : Loc} : p.1 ≠ x → SetL x d r r' → SetL x d (p :: r) (p :: r')
  | new : SetL x d [] [(x, d)]
theorem SetL.of_mem {x : Str} {d : Dv} {loc loc' : Loc} (u : SetL x d loc loc') (nd : (loc.map (·.1)).Nodup) : ∀ p ∈ loc', p = (x, d) ∨ (p ∈ loc ∧ p.1 ≠ x) := by
  induction u with
  | here =>
    intro p hp
    rcases List.mem_cons.mp hp with rfl | hp
    · exact .inl rfl
    · refine .inr ⟨.tail _ hp, fun e => ?_⟩
      rw [List.map_cons, List.nodup_cons] at nd
      have := List.mem_map_of_mem (f := fun q : Str × Dv => q.1) hp
      rw [e] at this
      exact nd.1 this
  | there n u' ih =>
    intro p hp
    rw [List.map_cons, List.nodup_cons] at nd
    rcases List.mem_cons.mp hp with rfl | hp
    · exact .inr ⟨.head _, n⟩
    · rcases ih nd.2 p hp with e | ⟨q, e⟩
      · exact .inl e
      · exact .inr ⟨.tail _ q, e⟩
  | new => intro p hp; rcases List.mem_cons.mp hp with rfl | hp; exact .inl rfl; cases hp
theorem SetL.nd {x : Str} {d : Dv} {loc loc' : Loc} (u : SetL x d loc loc') (nd : (loc.map (·.1)).Nodup) : (loc'.map (·.1)).Nodup := by
  induction u with
  | here => exact nd
  | there n u' ih =>
    rw [List.map_cons, List.nodup_cons] at nd ⊢
    refine ⟨fun q => ?_, ih nd.2⟩
    obtain ⟨p, hp, e⟩ := List.mem_map.mp q
    rcases u'.of_mem nd.2 p hp with rfl | ⟨q', e'⟩
    · exact n e.symm
    · exact nd.1 (e ▸ List.mem_map_of_mem (f := fun q : Str × Dv => q.1) q')
  | new => simp
theorem Rel.set {h₀ : Heap} {L : Addr} {h h' : Heap} {loc loc' : Loc} {own : Own} {x : Str} {d : Dv} {v : Value} {m : Str → Option Value} (rel : Rel h₀ L loc own h) (u : SetL x d loc loc')
    (hm : ∀ x d, (x, d) ∈ loc → ∃ v, m x = some v ∧ VR h v d) (n : h'.Ns L (fun y => if y = x then some v else m y)) (s : Heap.SameBut L h h') (vr : VR h v d) : Rel h₀ L loc' own h' := by
  have c : Chg L h h' := ⟨fun b hb => s.2 b hb, let ⟨_, ⟨o, es, n, a, b, _⟩, _⟩ := rel.lc.ns; ⟨o, a, fun vs n e => by rw [e] at b; cases b⟩⟩
  refine ⟨⟨fun b ob e => (s.2 b fun z => ?_).trans (rel.ow.keep b ob e), fun p hp => (rel.ow.at_ p hp).mono c.pers (s.2 _ (rel.lc.off p hp)), rel.ow.off, rel.ow.nd⟩,
    ⟨⟨_, n, fun y e hy => ?_⟩, rel.lc.fresh, rel.lc.off, u.nd rel.lc.nd⟩⟩
  · subst z; rw [rel.lc.fresh] at e; cases e
  · rcases u.of_mem rel.lc.nd _ hy with q | ⟨q, ne⟩
    · cases q; exact ⟨v, if_pos rfl, vr.mono c.pers⟩
    · obtain ⟨v', e', vr'⟩ := hm _ _ q
      exact ⟨v', by rw [if_neg ne]; exact e', vr'.mono c.pers⟩
end
end Mine

end
section
open PySem PySem.W
open PyProof.Rows hiding wpAt wpAt_bind
set_option linter.unusedSectionVars false
set_option maxRecDepth 100000
set_option maxHeartbeats 1000000
set_option linter.unusedVariables false
namespace Mine
variable [aI : Membership Nat Unit]
section
variable {Γ : Fm} {loc : Loc} {own : Own} {Q : QV} {QQ : QF}

inductive OutU (h₀ : Heap) (L : Addr) (h : Shared) (Q : Loc → Own → Prop) (s' : Shared) : Prop
  | mk (loc : Loc) (own : Own) : Stays h s' → Rel h₀ L loc own s'.heap → Q loc own → OutU h₀ L h Q s'
theorem OutU.pers {h₀ : Heap} {L : Addr} {h h' : Shared} {Q : Loc → Own → Prop} {s' : Shared} (k : Stays h h') (x : OutU h₀ L h' Q s') : OutU h₀ L h Q s' := by
  obtain ⟨loc, own, a, b, c⟩ := x
  exact ⟨loc, own, k.trans a, b, c⟩
noncomputable def As (Γ : Fm) (loc : Loc) (own : Own) (tg : PySem.Expr) (d : Dv) (Q : Loc → Own → Prop) : Prop :=
  ∀ h₀ s v, Gd Γ.K h₀ → Rel h₀ Γ.env.locals loc own s.heap → VR s.heap v d → wpAny (model Γ.prog Γ.w) Γ.A (assign tg Γ.env v) (fun _ => OutU h₀ Γ.env.locals s Q) Γ.E s
theorem store_ {x : Str} {d : Dv} {v : Value} {loc' : Loc} {h₀ : Heap} {s : Shared} {R : Unit → Shared → Prop} (rel : Rel h₀ Γ.env.locals loc own s.heap) (hl : Γ.env.kindOf x = some .local) (u : SetL x d loc loc') (vr : VR s.heap v d)
    (k : ∀ s', Stays s s' → Rel h₀ Γ.env.locals loc' own s'.heap → R () s') : wpAny (model Γ.prog Γ.w) Γ.A (storeName Γ.env x v) R Γ.E s := by
  obtain ⟨m, n, e⟩ := rel.lc.ns
  refine wpAny_storeName_local hl n (fun h' n' s' => k _ ?_ (rel.set u e n' s' vr)) (by rw [Γ.hk]; rfl)
  exact (Chg.mk (a := Γ.env.locals) (fun b hb => s'.2 b hb) (let ⟨o, es, n, a, b, _⟩ := n; ⟨o, a, fun vs n e => by rw [e] at b; cases b⟩)).pers.st
theorem as_name {x : Str} {pos : Pos} {d : Dv} {loc' : Loc} {Q : Loc → Own → Prop} (hl : Γ.env.kindOf x = some .local) (u : SetL x d loc loc') (q : Q loc' own) : As Γ loc own (.Name x pos) d Q := by
  intro h₀ s v g rel vr
  exact wpAny_assign_Name (store_ rel hl u vr fun s' p r => ⟨_, _, p, r, q⟩)
theorem ex_assign {x : Str} {pos' pos : Pos} {e : PySem.Expr} (hl : Γ.env.kindOf x = some .local) (hs : swapsWith e (some (.Name x pos')) pos.line Γ.env = pure false)
    (y : Ev Γ loc own e fun d loc own => ∃ loc', SetL x d loc loc' ∧ QQ .next loc' own) : Ex Γ loc own (.Assign [.Name x pos'] e pos) QQ := by
  intro h₀ s g rel
  refine wpAny_Assign_Name (y.use g rel fun d loc own s' v p r vr ⟨loc', u, q⟩ => store_ r hl u vr fun s'' p' r' => ⟨_, _, _, p.trans p', r', .next, q⟩) hs

noncomputable def Tst (Γ : Fm) (loc : Loc) (own : Own) (e : PySem.Expr) (Q : Bool → Loc → Own → Prop) : Prop :=
  ∀ h₀ s, Gd Γ.K h₀ → Rel h₀ Γ.env.locals loc own s.heap → wpAny (model Γ.prog Γ.w) Γ.A (isTrue e Γ.env (eval e Γ.env)) (fun b => OutU h₀ Γ.env.locals s (Q b)) Γ.E s
theorem Tst.use {e : PySem.Expr} {Q : Bool → Loc → Own → Prop} (x : Tst Γ loc own e Q) {h₀ : Heap} {s : Shared} {R : Bool → Shared → Prop} (g : Gd Γ.K h₀) (rel : Rel h₀ Γ.env.locals loc own s.heap)
    (k : ∀ b loc own s', Stays s s' → Rel h₀ Γ.env.locals loc own s'.heap → Q b loc own → R b s') : wpAny (model Γ.prog Γ.w) Γ.A (isTrue e Γ.env (eval e Γ.env)) R Γ.E s :=
  wpAny_mono (x h₀ s g rel) (fun b s' ⟨loc, own, p, r, q⟩ => k b loc own s' p r q) fun _ _ z => z
theorem ex_if {t : PySem.Expr} {a b : List Stmt} {pos : Pos} (x : Tst Γ loc own t fun c loc own => if c then Exs Γ loc own a QQ else Exs Γ loc own b QQ) : Ex Γ loc own (.If t a b pos) QQ := by
  intro h₀ s g rel
  refine wpAny_If (x.use g rel fun c loc own s' p r q => ?_)
  cases c
  · simp only [Bool.false_eq_true, if_false] at q ⊢; exact q.go g r p
  · simp only [if_true] at q ⊢; exact q.go g r p
noncomputable def Truth (Γ : Fm) (loc : Loc) (own : Own) (d : Dv) (Q : Bool → Loc → Own → Prop) : Prop :=
  ∀ h₀ s v, Gd Γ.K h₀ → Rel h₀ Γ.env.locals loc own s.heap → VR s.heap v d → wpAny (model Γ.prog Γ.w) Γ.A (truthy v) (fun b => OutU h₀ Γ.env.locals s (Q b)) Γ.E s
theorem Truth.go {d : Dv} {Q : Bool → Loc → Own → Prop} (x : Truth Γ loc own d Q) {h₀ : Heap} {h s : Shared} {v : Value} (g : Gd Γ.K h₀) (rel : Rel h₀ Γ.env.locals loc own s.heap) (vr : VR s.heap v d) (p : Stays h s) :
    wpAny (model Γ.prog Γ.w) Γ.A (truthy v) (fun b => OutU h₀ Γ.env.locals h (Q b)) Γ.E s := wpAny_mono (x h₀ s v g rel vr) (fun _ _ z => z.pers p) fun _ _ z => z
theorem truth_bool {b : Bool} {Q : Bool → Loc → Own → Prop} (q : Q b loc own) : Truth Γ loc own (.bool b) Q := by
  intro h₀ s v g rel vr
  cases vr
  exact fun _ _ _ => ⟨_, _, Pers.refl.st, rel, q⟩
theorem tst_plain {e : PySem.Expr} {Q : Bool → Loc → Own → Prop} (x : Ev Γ loc own e fun d loc own => Truth Γ loc own d Q)
    (he : isTrue e Γ.env (eval e Γ.env) = (do let v ← eval e Γ.env; standAt e.pos; holding [v] (truthy v)) := by rfl) : Tst Γ loc own e Q := by
  intro h₀ s g rel
  rw [he]
  exact wpAny_bind (x.use g rel fun d loc own s' v p r vr q => wpAny_bind (wpAny_standAt (wpAny_holding (q.go g r vr p))))
theorem tst_not {e : PySem.Expr} {pos : Pos} {Q : Bool → Loc → Own → Prop} (x : Tst Γ loc own e fun b loc own => Q (!b) loc own) : Tst Γ loc own (.UnaryOp .Not e pos) Q := by
  intro h₀ s g rel
  rw [arm_isTrue_UnaryOp]
  exact wpAny_bind (x.use g rel fun b loc own s' p r q => wpAny_pure ⟨_, _, p, r, q⟩)
theorem tst_cmp {l r : PySem.Expr} {op : CmpOp} {pos : Pos} {Q : Bool → Loc → Own → Prop} (hm : behindInMarks op r = false)
    (x : Ev Γ loc own l fun a loc own => Ev Γ loc own r fun b loc own => Op2 Γ loc own a b (compareOp op) fun d loc own => Truth Γ loc own d Q) : Tst Γ loc own (.Compare l [op] [r] pos) Q := by
  intro h₀ s g rel
  exact wpAny_isTrue_Compare1 (x.use g rel fun a _ _ s1 va p1 r1 v1 q1 => q1.use g r1 fun b _ _ s2 vb p2 r2 v2 q2 =>
    wpAny_mono (q2 h₀ s2 va vb g r2 (v1.mono p2.p) v2) (fun v s3 ⟨d, loc, own, p, r, vr, q⟩ => q.go g r vr ((p1.trans p2).trans p)) fun _ _ z => z) hm
theorem ev_cmp {l r : PySem.Expr} {op : CmpOp} {pos : Pos} (hm : behindInMarks op r = false)
    (x : Ev Γ loc own l fun a loc own => Ev Γ loc own r fun b loc own => Op2 Γ loc own a b (compareOp op) Q) : Ev Γ loc own (.Compare l [op] [r] pos) Q := by
  intro h₀ s g rel
  exact wpAny_Compare1 (x.use g rel fun a _ _ s1 va p1 r1 v1 q1 => q1.use g r1 fun b _ _ s2 vb p2 r2 v2 q2 => q2.go g r2 (v1.mono p2.p) v2 (p1.trans p2)) hm
noncomputable def All (Γ : Fm) (loc : Loc) (own : Own) (op : BoolOp) (es : List PySem.Expr) (Q : Bool → Loc → Own → Prop) : Prop :=
  ∀ h₀ s, Gd Γ.K h₀ → Rel h₀ Γ.env.locals loc own s.heap → wpAny (model Γ.prog Γ.w) Γ.A (allTrue op es Γ.env) (fun b => OutU h₀ Γ.env.locals s (Q b)) Γ.E s
theorem all_and_nil {Q : Bool → Loc → Own → Prop} (q : Q true loc own) : All Γ loc own .And [] Q := fun h₀ s g rel => wpAny_allTrue_And_nil ⟨_, _, Pers.refl.st, rel, q⟩
theorem all_and_cons {e : PySem.Expr} {es : List PySem.Expr} {Q : Bool → Loc → Own → Prop} (x : Tst Γ loc own e fun b loc own => if b then All Γ loc own .And es Q else Q false loc own) : All Γ loc own .And (e :: es) Q := by
  intro h₀ s g rel
  refine wpAny_allTrue_And_cons (x.use g rel fun b loc own s' p r q => ?_)
  cases b
  · simp only [Bool.false_eq_true, if_false] at q ⊢; exact ⟨_, _, p, r, q⟩
  · simp only [if_true] at q ⊢; exact wpAny_mono (q h₀ s' g r) (fun _ _ z => z.pers p) fun _ _ z => z
theorem tst_bool {op : BoolOp} {es : List PySem.Expr} {pos : Pos} {Q : Bool → Loc → Own → Prop} (x : All Γ loc own op es Q) : Tst Γ loc own (.BoolOp op es pos) Q := by
  intro h₀ s g rel
  exact wpAny_isTrue_BoolOp (x h₀ s g rel)

noncomputable abbrev QL := List Dv → Loc → Own → Prop
inductive OutL (h₀ : Heap) (L : Addr) (h : Shared) (Q : QL) (vs : List Value) (s' : Shared) : Prop
  | mk (ds : List Dv) (loc : Loc) (own : Own) : Stays h s' → Rel h₀ L loc own s'.heap → VRs s'.heap vs ds → Q ds loc own → OutL h₀ L h Q vs s'
noncomputable def EvL (Γ : Fm) (loc : Loc) (own : Own) (pos : Pos) (es : List PySem.Expr) (Q : QL) : Prop :=
  ∀ h₀ s, Gd Γ.K h₀ → Rel h₀ Γ.env.locals loc own s.heap → wpAny (model Γ.prog Γ.w) Γ.A (spliced (backTo pos (starEach es Γ.env))) (OutL h₀ Γ.env.locals s Q) Γ.E s
theorem EvL.use {pos : Pos} {es : List PySem.Expr} {Q : QL} (x : EvL Γ loc own pos es Q) {h₀ : Heap} {s : Shared} {R : List Value → Shared → Prop} (g : Gd Γ.K h₀) (rel : Rel h₀ Γ.env.locals loc own s.heap)
    (k : ∀ ds loc own s' vs, Stays s s' → Rel h₀ Γ.env.locals loc own s'.heap → VRs s'.heap vs ds → Q ds loc own → R vs s') : wpAny (model Γ.prog Γ.w) Γ.A (spliced (backTo pos (starEach es Γ.env))) R Γ.E s :=
  wpAny_mono (x h₀ s g rel) (fun v s' ⟨d, loc, own, p, r, vr, q⟩ => k d loc own s' v p r vr q) fun _ _ z => z
theorem evl_nil {pos : Pos} {Q : QL} (q : Q [] loc own) : EvL Γ loc own pos [] Q := fun h₀ s g rel => wpAny_items_nil ⟨_, _, _, Pers.refl.st, rel, .nil, q⟩
theorem evl_cons {pos : Pos} {e : PySem.Expr} {es : List PySem.Expr} {Q : QL} (x : Ev Γ loc own e fun d loc own => EvL Γ loc own pos es fun ds loc own => Q (d :: ds) loc own)
    (he : starEach (e :: es) Γ.env = (false, eval e Γ.env) :: starEach es Γ.env := by rfl) : EvL Γ loc own pos (e :: es) Q := by
  intro h₀ s g rel
  exact wpAny_items_cons (x.use g rel fun d _ _ s1 v p1 r1 v1 q1 => q1.use g r1 fun ds _ _ s2 vs p2 r2 v2 q2 => ⟨_, _, _, p1.trans p2, r2, .cons (v1.mono p2.p) v2, q2⟩) he
theorem ev_tuple {es : List PySem.Expr} {k : Nat} {pos : Pos} (x : EvL Γ loc own pos es fun ds loc own => ds.length ≤ 1000 ∧ Q (.tup ds) loc own) : Ev Γ loc own (.Tuple es k pos) Q := by
  intro h₀ s g rel
  refine wpAny_Tuple (x.use g rel fun ds loc own s' vs p r vr ⟨hl, q⟩ => ⟨?_, ?_⟩)
  · rw [vr.length]; unfold sizeLine; omega
  · have e : Ext s'.heap (s'.heap.push (tupObj vs 0)) := Ext.push _
    exact ⟨_, _, _, p.trans (Ext.pers e).st, r.ext e, .tup (r.fresh g (get_size_none _)) (Heap.get?_push_size _ rfl) (vr.mono (Ext.pers e)), q⟩
theorem ev_list {es : List PySem.Expr} {pos : Pos} (x : EvL Γ loc own pos es fun ds loc own => ds.length ≤ 1000 ∧ ∀ a, Q (.raw (.ref a)) loc ((a, .list ds) :: own)) : Ev Γ loc own (.List es pos) Q := by
  intro h₀ s g rel
  refine wpAny_List (x.use g rel fun ds loc own s' vs p r vr ⟨hl, q⟩ => ⟨?_, ?_⟩)
  · rw [vr.length]; unfold sizeLine; omega
  · have e : Ext s'.heap (s'.heap.push (lstObj vs 0)) := Ext.push _
    exact ⟨_, _, _, p.trans (Ext.pers e).st, r.more (o := .list ds) e (get_size_none _) ⟨vs, 0, Heap.get?_push_size _ rfl, vr.mono (Ext.pers e)⟩, .raw _, q _⟩
theorem ex_expr {e : PySem.Expr} {pos : Pos} (hi : interactive Γ.env = false) (hs : swapsWith e none pos.line Γ.env = pure false) (x : Ev Γ loc own e fun d loc own => QQ .next loc own) : Ex Γ loc own (.Expr e pos) QQ := by
  intro h₀ s g rel
  rw [exec_Expr Γ.env e pos hi hs]
  refine wpAny_bind (wpAny_standAt (wpAny_bind (x.use g rel fun d loc own s' v p r vr q => ?_)))
  exact wpAny_dropValue ⟨_, _, _, p, r, .next, q⟩
end
end Mine

end
section
open PySem PySem.W
open PyProof.Rows hiding wpAt wpAt_bind
set_option linter.unusedSectionVars false
set_option maxRecDepth 100000
set_option maxHeartbeats 1000000
set_option linter.unusedVariables false
namespace Mine
variable [aI : Membership Nat Unit]

inductive CallOut (h₀ : Heap) (s : Shared) (Q : Dv → Own → Prop) (r : Result) (s' : Shared) : Prop
  | mk (v : Value) (d : Dv) (own' : Own) : r = .ok (.ret v) → Stays s s' → OwnOk h₀ own' s'.heap → VR s'.heap v d → Q d own' → CallOut h₀ s Q r s'
noncomputable def CallT (prog : Program) (w : World) (K : Frag) (A : Around) (own : Own) (f : Value) (ds : List Dv) (Q : Dv → Own → Prop) : Prop :=
  ∀ h₀ s vs, Gd K h₀ → OwnOk h₀ own s.heap → VRs s.heap vs ds → codeAny (model prog w) A (.call f ⟨vs, []⟩)
    (CallOut h₀ s Q) s

theorem OwnOk.hide {h₀ h : Heap} {own : Own} (x : OwnOk h₀ own h) : OwnOk (hideAll h (own.map (·.1))) own h ∧ Ext h₀ (hideAll h (own.map (·.1))) := by
  refine ⟨⟨fun b o e => of_hideAll _ e, x.at_, fun p hp => hideAll_none _ (List.mem_map_of_mem hp), x.nd⟩, fun b o e => hideAll_get _ (x.keep b o e) fun q => ?_⟩
  obtain ⟨p, hp, rfl⟩ := List.mem_map.mp q
  rw [x.off p hp] at e; cases e

theorem CallT.use {Γ : Fm} {loc : Loc} {own : Own} {f : Value} {ds : List Dv} {Q : Dv → Own → Prop} (c : CallT Γ.prog Γ.w Γ.K Γ.A own f ds Q) {h₀ : Heap} {s : Shared} {vs : List Value} {R : Value → Shared → Prop}
    (g : Gd Γ.K h₀) (rel : Rel h₀ Γ.env.locals loc own s.heap) (vr : VRs s.heap vs ds)
    (k : ∀ d own' s' v, Stays s s' → Rel h₀ Γ.env.locals loc own' s'.heap → VR s'.heap v d → Q d own' → R v s') : wpAny (model Γ.prog Γ.w) Γ.A (call f vs) R Γ.E s := by
  obtain ⟨ok, ex⟩ := rel.ow.hide
  refine wpAny_call (codeAny_mono (c _ s vs (g.ext ex) ok vr) fun r s' ⟨v, d, own', e, p, o', vr', q⟩ => ?_)
  subst e
  refine k d own' s' v p ⟨⟨fun b o e => o'.keep b o (ex b o e), o'.at_, fun p hp => ex.none (o'.off p hp), o'.nd⟩, ?_⟩ vr' q
  obtain ⟨m, ⟨oL, es, ep, hL, r⟩, n⟩ := rel.lc.ns
  have nL : Γ.env.locals ∉ own.map (·.1) := fun q => by
    obtain ⟨p, hp, e⟩ := List.mem_map.mp q
    exact rel.lc.off p hp e
  have hLg := hideAll_get (own.map (·.1)) hL nL
  refine ⟨⟨m, ⟨oL, es, ep, o'.keep _ _ hLg, r⟩, fun x d hx => ?_⟩, rel.lc.fresh, fun p hp e => ?_, rel.lc.nd⟩
  · obtain ⟨v, e, vr⟩ := n x d hx; exact ⟨v, e, vr.mono p.p⟩
  · have := o'.off p hp; rw [e, hLg] at this; cases this

noncomputable def retOf : Fl → Dv
  | .ret d => d
  | _ => .none

noncomputable abbrev fnFm (prog : Program) (w : World) (K : Frag) (A : Around) (fd : FuncData) (f L : Addr) (D U : Nat) (hh : A.handled = none) (hD : A.depth ≤ D) (hU : A.units ≤ U) (hk : fd.scope.kind = .function)
    (hg : fd.globals = mainGlobals) (hb : fd.builtins = builtinsNs) : Fm :=
  { prog, w, K, A := A.deeper (callEnv fd L f), env := callEnv fd L f, E := fun _ _ => False, D := D + 1, U := U + 3, hh := hh, hD := Nat.succ_le_succ hD, hU := Nat.add_le_add_right hU 3, hk := hk, hg := hg, hb := hb }

noncomputable def Params (K : Frag) (fd : FuncData) (ds : List Dv) (loc : Loc) : Prop :=
  ∀ (s : Shared) vs, K.In s.heap → VRs s.heap vs ds → ∃ binds, BindsTo s fd ⟨vs, []⟩ binds ∧ (∀ x ∈ binds, fd.scope.names.lookup x.1 = some .local) ∧ ∀ x d, (x, d) ∈ loc → ∃ v, binds.reverse.lookup x = some v ∧ VR s.heap v d

theorem callT_def {prog : Program} {w : World} {K : Frag} {A : Around} {own : Own} {f : Addr} {ds : List Dv} {Q : Dv → Own → Prop} {fd : FuncData} {body : List Stmt} {loc : Loc} {oc : Value} {od : Option Addr} {osl : Array (Option Value)} {D U : Nat}
    (hlim : ∀ h, K.In h → h.NoLimit) (hK : K.lookup f = some ⟨oc, od, .func fd, osl⟩) (hcd : codeIn K fd.code fd.qualname = true) (hbody : fd.body = .stmts body) (hroom : D < recursionLimit)
    (hcell : ∀ x ∈ fd.scope.names, x.2 ≠ .cell) (hp : Params K fd ds loc) (hnd : (loc.map (·.1)).Nodup)
    (hh : A.handled = none) (hD : A.depth ≤ D) (hU : A.units ≤ U) (hk : fd.scope.kind = .function) (hg : fd.globals = mainGlobals) (hb : fd.builtins = builtinsNs) (hco : fd.scope.isCoroutine = false) (hgen : fd.scope.isGenerator = false)
    (x : ∀ L, Exs (fnFm prog w K A fd f L D U hh hD hU hk hg hb) loc own body fun fl loc own => Q (retOf fl) own) : CallT prog w K A own (.ref f) ds Q := by
  intro h₀ s vs g ok vr
  have X : K.In s.heap := g.kin.keeps ok.keep
  obtain ⟨binds, bt, bl, bv⟩ := hp s vs X vr
  refine codeAny_call_def (Nat.lt_of_le_of_lt hD hroom) (X _ _ hK) rfl (hlim _ X) (codeRec_of X hcd) hbody bt hcell bl (fun h₁ ns ex => ?_) hco hgen hk
  have fr : h₀.get? s.heap.objs.size = none := ok.keep.none (get_size_none _)
  have rel : Rel h₀ s.heap.objs.size loc own h₁ := by
    refine ⟨ok.ext ex, ⟨⟨_, ns, fun y d hy => ?_⟩, fr, fun p hp e => ?_, hnd⟩⟩
    · obtain ⟨v, e, r⟩ := bv y d hy; exact ⟨v, e, r.mono (Ext.pers ex)⟩
    · obtain ⟨ob, q, _⟩ := (ok.at_ p hp).some
      rw [e, get_size_none] at q; cases q
  refine wpAny_mono (x s.heap.objs.size h₀ { s with heap := h₁, toks := s.toks + binds.length } g rel) (fun fl s' ⟨a, loc', own', p, r, fr, q⟩ => ?_) fun _ _ z => z.elim
  have p' : Stays s s' := Stays.trans (b := { s with heap := h₁, toks := s.toks + binds.length }) (Ext.pers ex).st p
  cases fr with
  | next => exact ⟨_, _, own', rfl, p', r.ow, .none, q⟩
  | brk => exact ⟨_, _, own', rfl, p', r.ow, .none, q⟩
  | cont => exact ⟨_, _, own', rfl, p', r.ow, .none, q⟩
  | ret v => exact ⟨_, _, own', rfl, p', r.ow, v, q⟩

section
variable {Γ : Fm} {loc : Loc} {own : Own} {Q : QV} {QQ : QF}

end
end Mine

end
section
open PySem PySem.W
open PyProof.Rows hiding wpAt wpAt_bind
set_option linter.unusedSectionVars false
set_option maxRecDepth 100000
set_option maxHeartbeats 1000000
set_option linter.unusedVariables false
namespace Mine
variable [aI : Membership Nat Unit]
section
variable {Γ : Fm} {loc : Loc} {own : Own} {Q : QV} {QQ : QF}

theorem OpN.go {ds : List Dv} {t : List Value → Sem Value} (x : OpN Γ loc own ds t Q) {h₀ : Heap} {h s : Shared} {vs : List Value} (g : Gd Γ.K h₀) (rel : Rel h₀ Γ.env.locals loc own s.heap) (vr : VRs s.heap vs ds) (p : Stays h s) :
    wpAny (model Γ.prog Γ.w) Γ.A (t vs) (Out h₀ Γ.env.locals h Q) Γ.E s := wpAny_mono (x h₀ s vs g rel vr) (fun _ _ z => z.pers p) fun _ _ z => z
theorem opN_callT {f : Value} {ds : List Dv} (c : CallT Γ.prog Γ.w Γ.K Γ.A own f ds fun d own => Q d loc own) : OpN Γ loc own ds (fun vs => call f vs) Q :=
  fun h₀ s vs g rel vr => c.use g rel vr fun d own' s' v p r v' q => ⟨_, _, _, p, r, v', q⟩

noncomputable def plainArgs : List PySem.Expr → Bool
  | [] => true
  | .Starred .. :: _ => false
  | _ :: r => plainArgs r
theorem plain_any {env : Env} {pos : Pos} : ∀ {es : List PySem.Expr}, plainArgs es = true → (backTo pos (starEach es env)).any (·.1) = false
  | [], _ => rfl
  | e :: r, h => by
    cases e <;> first
      | (exact plain_any (es := r) h)
      | (cases h)
theorem plain_head {env : Env} {e : PySem.Expr} {r : List PySem.Expr} (h : plainArgs (e :: r) = true) : starEach (e :: r) env = (false, eval e env) :: starEach r env := by
  cases e <;> first | rfl | cases h
theorem plain_tail {e : PySem.Expr} {r : List PySem.Expr} (h : plainArgs (e :: r) = true) : plainArgs r = true := by
  cases e <;> first | exact h | cases h

theorem evalArgs_none' {M : Model} {A : Around} {E : Value → Shared → Prop} {s : Shared} {f : Value} {Q : Args → Shared → Prop} (h : wpAny M A (spliced []) (fun vs s' => Q ⟨vs, []⟩ s') E s) : wpAny M A (evalArgs f true [] []) Q E s := by
  unfold evalArgs
  show wpAny M A (spliced [] >>= _) Q E s
  refine wpAny_bind (wpAny_mono h (fun vs s' h' => wpAny_bind (wpAny_pure ?_)) fun _ _ x => x)
  exact wpAny_holding (wpAny_bind (wpAny_pure (wpAny_bind (wpAny_pure (wpAny_pure h')))))
noncomputable def Callee (K : Frag) (f : Value) : Prop := keepIn K f = true ∨ (∃ id, f = .builtin id) ∨ (∃ T, f = .type T)
theorem callWith_go {f : Value} {first : List Value} {fd : List Dv} {pos : Pos} {es : List PySem.Expr} {h₀ : Heap} {h s : Shared} (hf : Callee Γ.K f) (hp : plainArgs es = true) (g : Gd Γ.K h₀) (rel : Rel h₀ Γ.env.locals loc own s.heap) (vf : VRs s.heap first fd) (p : Stays h s)
    (x : EvL Γ loc own pos es fun ds loc own => OpN Γ loc own (fd ++ ds) (fun vs => call f vs) Q) : wpAny (model Γ.prog Γ.w) Γ.A (callWith pos f first (backTo pos (starEach es Γ.env)) []) (Out h₀ Γ.env.locals h Q) Γ.E s := by
  cases es with
  | nil =>
    have z : wpAny (model Γ.prog Γ.w) Γ.A (spliced []) (fun vs s₁ => Γ.K.In s₁.heap ∧ wpAny (model Γ.prog Γ.w) Γ.A (call f (first ++ vs)) (Out h₀ Γ.env.locals h Q) Γ.E s₁) Γ.E s :=
      x.use g rel fun ds loc own s' vs p' r' v' q => ⟨g.kin.keeps r'.ow.keep, q.go g r' ((vf.mono p'.p).append v') (p.trans p')⟩
    rcases hf with hf | ⟨id, rfl⟩ | ⟨T, rfl⟩
    · exact callWith_of rfl (keeps_K hf) (evalArgs_none' z)
    · exact Calls.callWith_builtin rfl (evalArgs_none' (wpAny_mono z (fun _ _ q => q.2) fun _ _ q => q))
    · exact PyProof.Rows.callWith_type rfl (evalArgs_none' (wpAny_mono z (fun _ _ q => q.2) fun _ _ q => q))
  | cons e r =>
    have z : wpAny (model Γ.prog Γ.w) Γ.A (spliced (backTo pos (starEach (e :: r) Γ.env))) (fun vs s₁ => Γ.K.In s₁.heap ∧ wpAny (model Γ.prog Γ.w) Γ.A (call f (first ++ vs)) (Out h₀ Γ.env.locals h Q) Γ.E s₁) Γ.E s :=
      x.use g rel fun ds loc own s' vs p' r' v' q => ⟨g.kin.keeps r'.ow.keep, q.go g r' ((vf.mono p'.p).append v') (p.trans p')⟩
    have hh := plain_head (env := Γ.env) hp
    have ht := plain_any (env := Γ.env) (pos := pos) (plain_tail hp)
    rcases hf with hf | ⟨id, rfl⟩ | ⟨T, rfl⟩
    · exact callWith_K g.kin hf z hh ht
    · have z' := wpAny_mono z (fun _ _ q => q.2) fun _ _ q => q
      exact PyProof.Rows.callWith_method1 z' hh ht
    · have z' := wpAny_mono z (fun _ _ q => q.2) fun _ _ q => q
      rw [hh] at z' ⊢
      refine PyProof.Rows.callWith_type ?_ (Calls.evalArgs_plain z')
      show (false || (backTo pos (starEach r Γ.env)).any (·.1)) = false
      rw [ht]; rfl

theorem ev_call {id : Str} {p pos : Pos} {es : List PySem.Expr} {f : Value} (hf : Callee Γ.K f) (hp : plainArgs es = true)
    (x : Ev Γ loc own (.Name id p) fun d loc own => d = .raw f ∧ EvL Γ loc own pos es fun ds loc own => OpN Γ loc own ds (fun vs => call f vs) Q) : Ev Γ loc own (.Call (.Name id p) es [] pos) Q := by
  intro h₀ s g rel
  rw [arm_eval_Call_Name']
  refine wpAny_bind (x.use g rel fun d loc own s1 v p1 r1 v1 ⟨hd, q⟩ => ?_)
  subst hd
  cases v1
  exact callWith_go (fd := []) hf hp g r1 .nil p1 q

noncomputable def Meth (Γ : Fm) (loc : Loc) (own : Own) (d : Dv) (name : Str) (pos : Pos) (es : List PySem.Expr) (Q : QV) : Prop :=
  ∀ h₀ s v (pl : Sem Bool), Gd Γ.K h₀ → Rel h₀ Γ.env.locals loc own s.heap → VR s.heap v d →
    wpAny (model Γ.prog Γ.w) Γ.A (getMethod v name pl) (fun fx s₂ => wpAny (model Γ.prog Γ.w) Γ.A (callWith pos fx.1 fx.2 (backTo pos (starEach es Γ.env)) []) (Out h₀ Γ.env.locals s Q) Γ.E s₂) Γ.E s
theorem ev_meth {o : PySem.Expr} {name : Str} {apos pos : Pos} {es : List PySem.Expr} {pl : Sem Bool} (x : Ev Γ loc own o fun d loc own => Meth Γ loc own d name pos es Q)
    (he : eval (.Call (.Attribute o name apos) es [] pos) Γ.env = (do
      let ov ← eval o Γ.env
      standAt apos.atName
      let (f, first) ← holding [ov] (getMethod ov name pl)
      callWith pos f first (backTo pos (starEach es Γ.env)) []) := by rfl) : Ev Γ loc own (.Call (.Attribute o name apos) es [] pos) Q := by
  intro h₀ s g rel
  refine PyProof.Rows.MethodCall_ (x.use g rel fun d loc own s1 v p1 r1 v1 q => ?_) he
  exact wpAny_mono (q h₀ s1 v pl g r1 v1) (fun fx s₂ z => wpAny_mono z (fun _ _ z => z.pers p1) fun _ _ z => z) fun _ _ z => z

inductive HasO (a : Addr) (o : AObj) : Own → Prop
  | here {r : Own} : HasO a o ((a, o) :: r)
  | there {p : Addr × AObj} {r : Own} : HasO a o r → HasO a o (p :: r)
theorem HasO.mem {a : Addr} {o : AObj} {own : Own} (h : HasO a o own) : (a, o) ∈ own := by
  induction h with
  | here => exact .head _
  | there _ ih => exact .tail _ ih

theorem meth_list {a : Addr} {ds : List Dv} {name : Str} {pos : Pos} {es : List PySem.Expr} {i : String} (ha : HasO a (.list ds) own) (hl : typeLookup (.type "list") name = pure (some (.builtin i))) (ht : typeOf (.builtin i) = pure (.type "method_descriptor")) (hp : plainArgs es = true)
    (x : EvL Γ loc own pos es fun args loc own => OpN Γ loc own (.raw (.ref a) :: args) (fun vs => call (.builtin i) vs) Q) : Meth Γ loc own (.raw (.ref a)) name pos es Q := by
  intro h₀ s v pl g rel vr
  cases vr
  obtain ⟨vs, n, ho, r⟩ := rel.ow.at_ _ ha.mem
  have hT : s.TypeIs (.ref a) "list" := ⟨_, ho, rfl⟩
  unfold getMethod
  refine wpAny_bind (wpAny_specialOf hT list_getattribute ?_)
  show wpAny _ _ (if (Manifest.canonical "list.__getattribute__" != "object.__getattribute__") = true then _ else _) _ _ s
  rw [canon_list_getattribute, if_neg Bool.false_ne_true]
  refine wpAny_bind (wpAny_specialOf hT list_getattr_none ?_)
  refine wpAny_bind (wpAny_specialOf hT hl ?_)
  refine wpAny_bind (wpAny_of_eq ht ?_)
  refine wpAny_bind (wpAny_load ho ?_)
  refine wpAny_bind (wpAny_rule (wpAny_pure ?_))
  exact callWith_go (first := [.ref a]) (fd := [.raw (.ref a)]) (.inr (.inl ⟨i, rfl⟩)) hp g rel (.cons (.raw _) .nil) Pers.refl.st x
end
end Mine

end
section
open PySem PySem.W
open PyProof.Rows hiding wpAt wpAt_bind
set_option linter.unusedSectionVars false
set_option maxRecDepth 100000
set_option maxHeartbeats 1000000
set_option linter.unusedVariables false
namespace Mine
variable [aI : Membership Nat Unit]

theorem Ents.strKeys {h : Heap} {es : List DictEntry} {l : List (Str × Dv)} (x : Ents h es l) : StrKeys es.toArray := by
  intro e he
  have he' : e ∈ es := by simpa using he
  clear he
  induction x with
  | nil => cases he'
  | cons a b ih =>
    rcases List.mem_cons.mp he' with rfl | he
    · exact ⟨_, _, rfl⟩
    · exact ih he
theorem Ents.find {h : Heap} {es : List DictEntry} {l : List (Str × Dv)} (x : Ents h es l) (n : Str) :
    match l.lookup n with
    | none => nsFind es.toArray n = none
    | some d => ∃ v, nsFind es.toArray n = some v ∧ VR h v d := by
  unfold nsFind findBy
  simp only [List.find?_toArray]
  induction x with
  | nil => rfl
  | @cons hs y t v d es l a b ih =>
    rw [List.lookup_cons, List.find?_cons]
    by_cases q : n = y
    · subst q
      simp only [beq_self_eq_true]
      have : (Value.str n t).isStr n = true := by simp [Value.isStr]
      simp only [this]
      exact ⟨v, rfl, a⟩
    · have e : (n == y) = false := by simpa using q
      have e' : (Value.str y t).isStr n = false := by simp [Value.isStr]; exact fun z => q z.symm
      simp only [e, e']
      exact ih
theorem idict_ns {h : Heap} {d : Addr} {l : List (Str × Dv)} (x : OR h d (.idict l)) : ∃ m, h.Ns d m ∧ (∀ n, l.lookup n = none → m n = none) ∧ ∀ n e, l.lookup n = some e → ∃ v, m n = some v ∧ VR h v e := by
  obtain ⟨es, k, p, q⟩ := x
  refine ⟨fun n => nsFind es.toArray n, ⟨_, _, _, p, rfl, q.strKeys, fun _ => rfl⟩, fun n e => ?_, fun n d e => ?_⟩
  · have := q.find n; rw [e] at this; exact this
  · have := q.find n; rw [e] at this; exact this

section
variable {Γ : Fm} {loc : Loc} {own : Own} {Q : QV} {QQ : QF}

theorem getMethod_inst {a C d : Addr} {ga : String} {fv : Value} {tf : String} {name : Str} {s : Shared} {ox : Obj} {l : List (Str × Dv)} {pl : Sem Bool} {R : Value × List Value → Shared → Prop} {M : Model} {A : Around} {E : Value → Shared → Prop} {K : Frag}
    (X : K.In s.heap) (hx : s.heap.get? a = some ox) (hc : ox.cls = .ref C) (hdi : ox.dict = some d) (hd : OR s.heap d (.idict l)) (hn : l.lookup name = none)
    (h1 : findIn K (.ref C) "__getattribute__" = some (some (.builtin ga))) (h2 : (Manifest.canonical ga != "object.__getattribute__") = false) (h3 : findIn K (.ref C) "__getattr__" = some none)
    (h4 : findIn K (.ref C) name = some (some fv)) (h5 : typeIn K fv = some (.type tf)) (h6 : (Value.type tf != .type "function" && Value.type tf != .type "method_descriptor" && Value.type tf != .type "wrapper_descriptor") = false)
    (k : R (fv, [.ref a]) s) : wpAny M A (getMethod (.ref a) name pl) R E s := by
  obtain ⟨m, ns, no, _⟩ := idict_ns hd
  have T : Looks M s.heap (typeOf (.ref a)) (.ref C) := hc ▸ (Looks.ld hx).andThen .now
  unfold getMethod
  refine wpAny_bind (wpAny_bind (T.here ((looks_findIn X h1).here ?_)))
  show wpAny _ _ (if (Manifest.canonical ga != "object.__getattribute__") = true then _ else _) _ _ s
  rw [h2, if_neg Bool.false_ne_true]
  refine wpAny_bind (wpAny_bind (T.here ((looks_findIn X h3).here ?_)))
  refine wpAny_bind (wpAny_bind (T.here ((looks_findIn X h4).here ?_)))
  refine wpAny_bind ((looks_typeIn X h5).here ?_)
  rw [h6]
  simp only [Bool.false_eq_true, if_false]
  refine wpAny_bind (wpAny_loadPart hx ?_)
  rw [hdi]
  refine wpAny_bind (wpAny_nsGet ns ?_)
  rw [no name hn]
  exact wpAny_bind (wpAny_rule (wpAny_pure k))

structure AccK (K : Frag) (C : Addr) : Prop where
  ga : findIn K (.ref C) "__getattribute__" = some (some (.builtin "list.__getattribute__"))
  gt : findIn K (.ref C) "__getattr__" = some none
  sub : mroIn K C (.type "list") = some true
  nos : noSeq K C = true
  gi : findIn K (.ref C) "__getitem__" = some (some (.builtin "list.__getitem__"))
  si : findIn K (.ref C) "__setitem__" = some (some (.builtin "list.__setitem__"))
  it : findIn K (.ref C) "__iter__" = some (some (.builtin "list.__iter__"))

theorem meth_fn {a C d f : Addr} {ds : List Dv} {l : List (Str × Dv)} {name : Str} {pos : Pos} {es : List PySem.Expr} (H : AccK Γ.K C) (ha : HasO a (.acc C d ds) own) (hd : HasO d (.idict l) own) (hn : l.lookup name = none)
    (hf : findIn Γ.K (.ref C) name = some (some (.ref f))) (ht : typeIn Γ.K (.ref f) = some (.type "function")) (hk : keepIn Γ.K (.ref f) = true) (hp : plainArgs es = true)
    (x : EvL Γ loc own pos es fun args loc own => OpN Γ loc own (.raw (.ref a) :: args) (fun vs => call (.ref f) vs) Q) : Meth Γ loc own (.raw (.ref a)) name pos es Q := by
  intro h₀ s v pl g rel vr
  cases vr
  obtain ⟨vs, n, ho, r⟩ := rel.ow.at_ _ ha.mem
  refine getMethod_inst (g.kin.keeps rel.ow.keep) ho rfl rfl (rel.ow.at_ _ hd.mem) hn H.ga canon_list_getattribute H.gt hf ht rfl ?_
  exact callWith_go (first := [.ref a]) (fd := [.raw (.ref a)]) (.inl hk) hp g rel (.cons (.raw _) .nil) Pers.refl.st x
theorem meth_bi {a C d : Addr} {ds : List Dv} {l : List (Str × Dv)} {name : Str} {i : String} {pos : Pos} {es : List PySem.Expr} (H : AccK Γ.K C) (ha : HasO a (.acc C d ds) own) (hd : HasO d (.idict l) own) (hn : l.lookup name = none)
    (hf : findIn Γ.K (.ref C) name = some (some (.builtin i))) (ht : typeIn Γ.K (.builtin i) = some (.type "method_descriptor")) (hp : plainArgs es = true)
    (x : EvL Γ loc own pos es fun args loc own => OpN Γ loc own (.raw (.ref a) :: args) (fun vs => call (.builtin i) vs) Q) : Meth Γ loc own (.raw (.ref a)) name pos es Q := by
  intro h₀ s v pl g rel vr
  cases vr
  obtain ⟨vs, n, ho, r⟩ := rel.ow.at_ _ ha.mem
  refine getMethod_inst (g.kin.keeps rel.ow.keep) ho rfl rfl (rel.ow.at_ _ hd.mem) hn H.ga canon_list_getattribute H.gt hf ht rfl ?_
  exact callWith_go (first := [.ref a]) (fd := [.raw (.ref a)]) (.inr (.inl ⟨i, rfl⟩)) hp g rel (.cons (.raw _) .nil) Pers.refl.st x
end
end Mine

end
section
open PySem PySem.W
open PyProof.Rows hiding wpAt wpAt_bind
set_option linter.unusedSectionVars false
set_option maxRecDepth 100000
set_option maxHeartbeats 1000000
set_option linter.unusedVariables false
namespace Mine
variable [aI : Membership Nat Unit]

inductive SeqO (K : Frag) : AObj → (List Dv → AObj) → List Dv → Prop
  | list {ds : List Dv} : SeqO K (.list ds) .list ds
  | acc {C d : Addr} {ds : List Dv} : AccK K C → SeqO K (.acc C d ds) (.acc C d) ds
theorem SeqO.at {K : Frag} {o : AObj} {mk : List Dv → AObj} {ds : List Dv} {h : Heap} {a : Addr} (x : SeqO K o mk ds) (r : OR h a o) :
    ∃ ob vs n, h.get? a = some ob ∧ ob.data = .seq vs.toArray n ∧ VRs h vs ds ∧ (∀ M, K.In h → Looks M h (isInstance (.ref a) (.type "list")) true) ∧
      (∀ (h' : Heap) ws k es, h'.get? a = some ⟨ob.cls, ob.dict, .seq ws k, ob.slots⟩ → ws = (es : List Value).toArray → ∀ ds', VRs h' es ds' → OR h' a (mk ds')) ∧ ∀ vs n, ob ≠ tupObj vs n := by
  cases x with
  | list =>
    obtain ⟨vs, n, p, q⟩ := r
    refine ⟨_, vs, n, p, rfl, q, fun M X => ?_, fun h' ws k es e z ds' v => ⟨es, k, by rw [e, z], v⟩, by intro _ _ z; simp at z⟩
    exact ((Looks.ld p).andThen .now).andThen (Looks.of_pure (by show isSubtype (.type "list") (.type "list") = _; rw [isSubtype_type]; kernel_rfl))
  | acc hm =>
    obtain ⟨vs, n, p, q⟩ := r
    refine ⟨_, vs, n, p, rfl, q, fun M X => ?_, fun h' ws k es e z ds' v => ⟨es, k, by rw [e, z], v⟩, by intro _ _ z; simp at z⟩
    exact ((Looks.ld p).andThen .now).andThen (looks_mroIn X hm.sub)

theorem call_bi {prog : Program} {w : World} {A : Around} {E : Value → Shared → Prop} {s : Shared} {i n owner : String} {b : Builtin} {self : Value} {rest : List Value} {Q : Value → Shared → Prop}
    (hk : builtinKind i = some .method ∨ builtinKind i = some .slot) (hs : splitId i = some (owner, n)) (hp : plainId i = true) (hb : entryFor table i = some b) (ha : argsOk i ⟨self :: rest, []⟩)
    (hi : Looks (model prog w) s.heap (isInstance self (.type owner)) true)
    (hc : wpAny (model prog w) A.in1 (b ⟨self :: rest, []⟩) (fun fin s' => ∃ v, fin = .done (.ret v) ∧ Q v s') E s) : wpAny (model prog w) A (call (.builtin i) (self :: rest)) Q E s := by
  refine wpAny_call (codeAny_call_builtin hp hb ?_)
  have hfin := wpAny_mono hc (Q' := fun fin s' => match fin with
      | .done f => (match (Except.ok f : Result) with | .ok (.ret v) => Q v s' | .ok _ => False | .error e => E e s')
      | .again c' => c'.quiet = true ∧ codeAny (model prog w) A c' (fun r s' => match r with | .ok (.ret v) => Q v s' | .ok _ => False | .error e => E e s') s')
    (fun fin s' h' => by obtain ⟨v, rfl, hv⟩ := h'; exact hv) fun _ _ h' => h'
  rcases hk with hk | hk
  · simp only [checkBuiltinCall, hk, hs]
    refine wpAny_bind (hi.here ?_)
    simp only [Bool.not_true, Bool.false_eq_true, if_false]
    cases hsig : Manifest.signature? i with
    | none => exact wpAny_pure hfin
    | some sig =>
      simp only [argsOk, hsig] at ha
      have h2 : Bind.checkArgs i sig ⟨self :: rest, []⟩ = pure () := ha
      show wpAny _ A.in1 (Bind.checkArgs i sig ⟨self :: rest, []⟩) _ _ s
      rw [h2]; exact wpAny_pure hfin
  · exact check_slot hk hs hi ha hfin

section
variable {Γ : Fm} {loc : Loc} {own own' : Own} {Q : QV} {QQ : QF}

theorem seq_upd {K : Frag} {o : AObj} {mk : List Dv → AObj} {ds ds' : List Dv} {h₀ : Heap} {L a : Addr} {h : Heap} {ob : Obj} {vs ws : List Value} {n : Nat} {f : Array Value → Array Value} (rel : Rel h₀ L loc own h) (u : Upd a o (mk ds') own own') (x : SeqO K o mk ds)
    (ho : h.get? a = some ob) (hd : ob.data = .seq vs.toArray n) (hne : ∀ vs n, ob ≠ tupObj vs n) (hf : f vs.toArray = ws.toArray) (hv : VRs h ws ds')
    (hmk : ∀ (h' : Heap) ws k es, h'.get? a = some ⟨ob.cls, ob.dict, .seq ws k, ob.slots⟩ → ws = (es : List Value).toArray → ∀ ds', VRs h' es ds' → OR h' a (mk ds')) :
    Pers h (h.update a (Obj.mapSeq f)) ∧ Rel h₀ L loc own' (h.update a (Obj.mapSeq f)) := by
  have c : Chg a h (h.update a (Obj.mapSeq f)) := ⟨fun b hb => Heap.get?_update_other _ _ (Ne.symm hb), ob, ho, hne⟩
  refine ⟨c.pers, rel.upd u c ?_⟩
  obtain ⟨oc, od, odt, osl⟩ := ob
  cases hd
  refine hmk _ (f vs.toArray) (if (f vs.toArray).size == vs.toArray.size then n else n + 1) ws ?_ hf ds' (hv.mono c.pers)
  rw [Heap.get?_update_self _ ho (by rfl)]
  rfl

theorem app_kind : builtinKind "list.append" = some .method := by decide +kernel
theorem app_split : splitId "list.append" = some ("list", "append") := by decide +kernel
theorem app_plain : plainId "list.append" = true := by decide +kernel
theorem app_entry : entryFor table "list.append" = some Builtin.«list.append» := entryFor_of_tree (by kernel_rfl)
theorem app_args (a b : Value) : argsOk "list.append" ⟨[a, b], []⟩ := by unfold argsOk; kernel_rfl
theorem op_append {a : Addr} {o : AObj} {mk : List Dv → AObj} {ds : List Dv} {e : Dv} (u : Upd a o (mk (ds ++ [e])) own own') (x : SeqO Γ.K o mk ds) (hl : ds.length ≤ 100000) (q : Q .none loc own') : OpN Γ loc own [.raw (.ref a), e] (fun vs => call (.builtin "list.append") vs) Q := by
  intro h₀ s vs g rel vr
  cases vr with
  | cons v1 v2 =>
    cases v1
    cases v2 with
    | cons v2 v3 =>
      cases v3
      rename_i v
      obtain ⟨ob, vs, n, ho, hd, hv, hi, hmk, hne⟩ := x.at (rel.ow.at_ _ u.mem)
      have X : Γ.K.In s.heap := g.kin.keeps rel.ow.keep
      refine call_bi (.inl app_kind) app_split app_plain app_entry (app_args _ _) (hi _ X) ?_
      show wpAny _ _ (do updateSeq a (·.push v); ret .none) _ _ _
      have hsz : vs.length ≤ 100000 := by rw [hv.length]; exact hl
      obtain ⟨p, r⟩ := seq_upd (ws := vs ++ [v]) (f := (·.push v)) rel u x ho hd hne (by simp) (hv.append (.cons v2 .nil)) hmk
      exact wpAny_bind (wpAny_updateSeq ho hd (wpAny_pure ⟨_, rfl, ⟨_, _, _, p.st, r, .none, q⟩⟩) (by unfold sizeLine; simp; omega) (by unfold sizeLine; simp; omega))
end
end Mine

end
section
open PySem PySem.W
open PyProof.Rows hiding wpAt wpAt_bind
open PySem.SeqAt
set_option linter.unusedSectionVars false
set_option maxRecDepth 100000
set_option maxHeartbeats 1000000
set_option linter.unusedVariables false
namespace Mine
variable [aI : Membership Nat Unit]

structure Cmp {α : Type} [DecidableEq α] (enc : α → Dv) (n : Nat) : Prop where
  inj : ∀ {h : Heap} {v : Value} {x y : α}, VR h v (enc x) → VR h v (enc y) → x = y
  eq : ∀ {A : Around} {s : Shared} {v u : Value} {x y : α}, A.units + n < cLine → VR s.heap v (enc x) → VR s.heap u (enc y) → EqAt A s v u (decide (x = y))
theorem str_beq_dec (x y : Str) : (x == y) = decide (x = y) := by
  by_cases h : x = y
  · subst h; simp
  · simp [h]
theorem cmpStr : Cmp Dv.str 0 where
  inj := fun a b => by cases a; cases b; rfl
  eq := fun {A s v u x y} hu a b => by
    cases a; cases b
    rename_i t1 t2
    rw [← str_beq_dec]
    exact EqAt.str_str (A := A) (s := s) x t1 y t2

theorem Cmp.rows_inj {α : Type} [DecidableEq α] {enc : α → Dv} {n : Nat} (c : Cmp enc n) {h : Heap} : ∀ {vs : List Value} {xs ys : List α}, VRs h vs (xs.map enc) → VRs h vs (ys.map enc) → xs = ys
  | [], [], [], _, _ => rfl
  | [], _ :: _, _, a, _ => by cases a
  | [], [], _ :: _, _, b => by cases b
  | _ :: _, [], _, a, _ => by cases a
  | _ :: _, _ :: _, [], _, b => by cases b
  | v :: vs, x :: xs, y :: ys, a, b => by
    cases a with
    | cons a1 a2 =>
      cases b with
      | cons b1 b2 => rw [c.inj a1 b1, c.rows_inj a2 b2]
theorem Cmp.rows_eq {α : Type} [DecidableEq α] {enc : α → Dv} {n : Nat} (c : Cmp enc n) {A : Around} {s : Shared} {vs ws : List Value} {xs ys : List α} (hu : A.units + (n + 1) < cLine) (a : VRs s.heap vs (xs.map enc)) (b : VRs s.heap ws (ys.map enc)) :
    ∃ e : Nat → Bool, (∀ j (h1 : j < vs.toArray.size) (h2 : j < ws.toArray.size), EqAt A.in1 s vs.toArray[j] ws.toArray[j] (e j)) ∧
      ((List.range (min vs.toArray.size ws.toArray.size)).all e && vs.toArray.size == ws.toArray.size) = decide (xs = ys) := by
  have l1 : vs.length = xs.length := by rw [a.length, List.length_map]
  have l2 : ws.length = ys.length := by rw [b.length, List.length_map]
  refine ⟨fun j => decide (xs[j]? = ys[j]?), fun j h1 h2 => ?_, ?_⟩
  · have h1' : j < vs.length := by simpa using h1
    have h2' : j < ws.length := by simpa using h2
    obtain ⟨d, hd, vd⟩ := a.get (k := j) (v := vs[j]) (by simp)
    obtain ⟨e, he, ve⟩ := b.get (k := j) (v := ws[j]) (by simp)
    rw [List.getElem?_map, List.getElem?_eq_getElem (by omega : j < xs.length)] at hd
    rw [List.getElem?_map, List.getElem?_eq_getElem (by omega : j < ys.length)] at he
    cases hd; cases he
    have := c.eq (A := A.in1) (s := s) (by simp only [Around.in1_units]; omega) vd ve
    simp only [List.getElem?_eq_getElem (by omega : j < xs.length), List.getElem?_eq_getElem (by omega : j < ys.length), Option.some.injEq, List.getElem_toArray]
    exact this
  · simp only [List.size_toArray, l1, l2]
    by_cases h : xs = ys
    · subst h; simp
    · rw [decide_eq_false h]
      by_cases hl : xs.length = ys.length
      · rw [Bool.and_eq_false_iff]
        left
        rw [List.all_eq_false]
        have : ∃ j, j < xs.length ∧ xs[j]? ≠ ys[j]? := by
          by_cases hx : ∃ j, j < xs.length ∧ xs[j]? ≠ ys[j]?
          · exact hx
          · exfalso
            apply h
            apply List.ext_getElem? 
            intro j
            by_cases hj : j < xs.length
            · by_cases hq : xs[j]? = ys[j]?
              · exact hq
              · exact absurd ⟨j, hj, hq⟩ hx
            · rw [List.getElem?_eq_none (by omega), List.getElem?_eq_none (by omega)]
        obtain ⟨j, hj, hq⟩ := this
        exact ⟨j, by simp; omega, by simpa using hq⟩
      · simp [hl]
noncomputable def encP {α β : Type} (e : α → Dv) (f : β → Dv) (p : α × β) : Dv := .tup [e p.1, f p.2]
theorem tup_inv {h : Heap} {v : Value} {ds : List Dv} (x : VR h v (.tup ds)) : ∃ a vs n, v = .ref a ∧ h.get? a = some (tupObj vs n) ∧ VRs h vs ds := by
  cases x with | tup _ e r => exact ⟨_, _, _, rfl, e, r⟩
theorem cmpP {α β : Type} [DecidableEq α] [DecidableEq β] {e : α → Dv} {f : β → Dv} {n m : Nat} (c : Cmp e n) (d : Cmp f m) : Cmp (encP e f) (max n m + 1) where
  inj := fun {h v x y} a b => by
    obtain ⟨l, vs, k, rfl, o, r⟩ := tup_inv a
    obtain ⟨l', vs', k', e', o', r'⟩ := tup_inv b
    cases e'
    rw [o] at o'
    have := Option.some.inj o'
    simp only [tupObj, Obj.mk.injEq, Data.seq.injEq, true_and, and_true] at this
    have hv : vs = vs' := by simpa using congrArg Array.toList this.1
    subst hv
    cases r with
    | cons r1 r2 => cases r2 with
      | cons r2 r3 => cases r' with
        | cons q1 q2 => cases q2 with
          | cons q2 q3 => exact Prod.ext (c.inj r1 q1) (d.inj r2 q2)
  eq := fun {A s v u x y} hu a b => by
    obtain ⟨l, vs, k, rfl, o, r⟩ := tup_inv a
    obtain ⟨l', vs', k', rfl, o', r'⟩ := tup_inv b
    by_cases hl : l = l'
    · subst hl
      rw [o] at o'
      have := Option.some.inj o'
      simp only [tupObj, Obj.mk.injEq, Data.seq.injEq, true_and, and_true] at this
      have hv : vs = vs' := by simpa using congrArg Array.toList this.1
      subst hv
      have : x = y := by
        cases r with
        | cons r1 r2 => cases r2 with
          | cons r2 r3 => cases r' with
            | cons q1 q2 => cases q2 with
              | cons q2 q3 => exact Prod.ext (c.inj r1 q1) (d.inj r2 q2)
      rw [decide_eq_true this]
      exact EqAt.same _
    · cases r with
      | cons r1 r2 => cases r2 with
        | cons r2 r3 => cases r3; cases r' with
          | cons q1 q2 => cases q2 with
            | cons q2 q3 =>
              cases q3
              rename_i v1 v2 u1 u2
              have hb : decide (x = y) = ((List.range (min #[v1, v2].size #[u1, u2].size)).all (fun j => if j = 0 then decide (x.1 = y.1) else decide (x.2 = y.2)) && #[v1, v2].size == #[u1, u2].size) := by
                have : x = y ↔ x.1 = y.1 ∧ x.2 = y.2 := Prod.ext_iff
                simp [this, List.range, List.range.loop]
              rw [hb]
              refine EqAt.of_refs hl (RcAt.tuples ⟨_, o, rfl, _, rfl⟩ ⟨_, o', rfl, _, rfl⟩ (by omega) fun j h1 h2 => ?_)
              have hj : j = 0 ∨ j = 1 := by simp at h1; omega
              rcases hj with rfl | rfl
              · exact c.eq (by simp only [Around.in1_units]; omega) r1 q1
              · exact d.eq (by simp only [Around.in1_units]; omega) r2 q2
noncomputable abbrev encSS : Str × Str → Dv := encP Dv.str Dv.str
section
variable {Γ : Fm} {loc : Loc} {own : Own} {Q : QV} {QQ : QF}
theorem op_ne_pair {α β : Type} [DecidableEq α] [DecidableEq β] {e : α → Dv} {f : β → Dv} {n m : Nat} (c : Cmp e n) (d : Cmp f m) {x y : α × β} (hu : Γ.U + (max n m + 1) < cLine) (q : Q (.bool (!decide (x = y))) loc own) : Op2 Γ loc own (encP e f x) (encP e f y) (compareOp .NotEq) Q := by
  intro h₀ s v u g rel a b
  have hU := Γ.hU
  obtain ⟨l, vs, k, rfl, o, r⟩ := tup_inv a
  obtain ⟨l', vs', k', rfl, o', r'⟩ := tup_inv b
  cases r with
  | cons r1 r2 => cases r2 with
    | cons r2 r3 => cases r3; cases r' with
      | cons q1 q2 => cases q2 with
        | cons q2 q3 =>
          cases q3
          rename_i v1 v2 u1 u2
          have hb : (!decide (x = y)) = !((List.range (min #[v1, v2].size #[u1, u2].size)).all (fun j => if j = 0 then decide (x.1 = y.1) else decide (x.2 = y.2)) && #[v1, v2].size == #[u1, u2].size) := by
            have : x = y ↔ x.1 = y.1 ∧ x.2 = y.2 := Prod.ext_iff
            simp [this, List.range, List.range.loop]
          have z := RcNeAt.tuples (A := Γ.A) (s := s) ⟨_, o, rfl, _, rfl⟩ ⟨_, o', rfl, _, rfl⟩ (by omega) (e := fun j => if j = 0 then decide (x.1 = y.1) else decide (x.2 = y.2)) fun j h1 h2 => by
            have hj : j = 0 ∨ j = 1 := by simp at h1; omega
            rcases hj with rfl | rfl
            · exact c.eq (by simp only [Around.in1_units]; omega) r1 q1
            · exact d.eq (by simp only [Around.in1_units]; omega) r2 q2
          exact z _ _ _ _ (hb ▸ ⟨_, _, _, Pers.refl.st, rel, .bool _, q⟩)
theorem op_ne_list {α : Type} [DecidableEq α] {e : α → Dv} {n : Nat} (c : Cmp e n) {xs ys : List α} {a b : Addr} (ha : HasO a (.list (xs.map e)) own) (hb : HasO b (.list (ys.map e)) own) (hu : Γ.U + (n + 1) < cLine) (q : Q (.bool (!decide (xs = ys))) loc own) :
    Op2 Γ loc own (.raw (.ref a)) (.raw (.ref b)) (compareOp .NotEq) Q := by
  intro h₀ s v u g rel x y
  cases x; cases y
  have hU := Γ.hU
  obtain ⟨vs, k, o, r⟩ := rel.ow.at_ _ ha.mem
  obtain ⟨vs', k', o', r'⟩ := rel.ow.at_ _ hb.mem
  obtain ⟨ef, he, hq⟩ := c.rows_eq (A := Γ.A) (s := s) (by omega) r r'
  have fin : Out h₀ Γ.env.locals s Q (.bool (!decide (xs = ys))) s := ⟨_, _, _, Pers.refl.st, rel, .bool _, q⟩
  rw [← hq] at fin
  by_cases hs : vs.toArray.size = vs'.toArray.size
  · have z := RcNeAt.lists (A := Γ.A) (s := s) ⟨_, o, rfl, _, rfl⟩ ⟨_, o', rfl, _, rfl⟩ hs (by omega) he
    refine z _ _ _ _ ?_
    rw [← hs, Nat.min_self] at fin
    simpa using fin
  · have z := RcNeAt.lists_lengths (A := Γ.A) (s := s) (l := a) (b := b) ⟨_, o, rfl, _, rfl⟩ ⟨_, o', rfl, _, rfl⟩ (by simpa using hs) (by omega)
    refine z _ _ _ _ ?_
    have : (vs.toArray.size == vs'.toArray.size) = false := by simpa using hs
    rw [this, Bool.and_false] at fin
    exact fin
end
end Mine

end
section
open PySem PySem.W
open PyProof.Rows hiding wpAt wpAt_bind
set_option linter.unusedSectionVars false
set_option maxRecDepth 100000
set_option maxHeartbeats 1000000
set_option linter.unusedVariables false
set_option linter.unusedSimpArgs false
namespace Mine
variable [aI : Membership Nat Unit]
section
variable {Γ : Fm} {loc : Loc} {own own' : Own} {Q : QV} {QQ : QF}
theorem out_same {h₀ : Heap} {L : Addr} {s s' : Shared} {v : Value} {d : Dv} (rel : Rel h₀ L loc own s.heap) (e : s'.heap = s.heap) (vr : VR s.heap v d) (q : Q d loc own) (ho : s'.os = s.os := by rfl) (hg : s'.gens = s.gens := by rfl) : Out h₀ L s Q v s' :=
  ⟨d, loc, own, Pers.st (e ▸ Pers.refl) ho hg, e ▸ rel, e ▸ vr, q⟩

theorem op_add {a b : Int} (q : Q (.int (a + b)) loc own) : Op2 Γ loc own (.int a) (.int b) (binaryOp .Add) Q := by
  intro h₀ s v u g rel x y; cases x; cases y
  exact add_int (out_same rel rfl (.int _ _) q)
theorem op_sub {a b : Int} (q : Q (.int (a - b)) loc own) : Op2 Γ loc own (.int a) (.int b) (binaryOp .Sub) Q := by
  intro h₀ s v u g rel x y; cases x; cases y
  exact sub_int (out_same rel rfl (.int _ _) q)
theorem op_mod {a b : Int} (hb : 0 < b) (q : Q (.int (a % b)) loc own) : Op2 Γ loc own (.int a) (.int b) (binaryOp .Mod) Q := by
  intro h₀ s v u g rel x y; cases x; cases y
  refine mod_int' (by omega) ?_
  rw [Int.fmod_eq_emod_of_nonneg _ (by omega)]
  exact out_same rel rfl (.int _ _) q
theorem op_div {a b : Int} (hb : 0 < b) (hp : b < 1000) (q : Q (.int (a / b)) loc own) : Op2 Γ loc own (.int a) (.int b) (binaryOp .FloorDiv) Q := by
  intro h₀ s v u g rel x y; cases x; cases y
  refine floordiv_int (by omega) ?_ (.inl ?_)
  · rw [Int.fdiv_eq_ediv_of_nonneg _ (by omega)]
    exact out_same rel rfl (.int _ _) q
  · unfold Builtin.divisionGoesByPylong
    have : b.natAbs.log2 < 10 := by
      rw [Nat.log2_lt (by omega)]
      omega
    have h1 : (if (b == 0) = true then 0 else b.natAbs.log2 / 30 + 1) ≤ 1 := by
      split
      · omega
      · omega
    simp only [Bool.and_eq_false_iff]
    left
    exact decide_eq_false (by omega)
theorem op_eq {a b : Int} (q : Q (.bool (decide (a = b))) loc own) : Op2 Γ loc own (.int a) (.int b) (compareOp .Eq) Q := by
  intro h₀ s v u g rel x y; cases x; cases y
  exact eq_int (out_same rel rfl (.bool _) (by rw [show (a == b) = decide (a = b) from rfl]; exact q))
theorem op_ne {a b : Int} (q : Q (.bool (!decide (a = b))) loc own) : Op2 Γ loc own (.int a) (.int b) (compareOp .NotEq) Q := by
  intro h₀ s v u g rel x y; cases x; cases y
  exact ne_int (out_same rel rfl (.bool _) (by rw [show (a != b) = !decide (a = b) from rfl]; exact q))
theorem op_gt {a b : Int} (q : Q (.bool (decide (b < a))) loc own) : Op2 Γ loc own (.int a) (.int b) (compareOp .Gt) Q := by
  intro h₀ s v u g rel x y; cases x; cases y
  exact gt_int (out_same rel rfl (.bool _) q)
theorem op_cat {a b : Str} (hl : a.length + b.length ≤ 1000000) (q : Q (.str (a ++ b)) loc own) : Op2 Γ loc own (.str a) (.str b) (binaryOp .Add) Q := by
  intro h₀ s v u g rel x y; cases x; cases y
  exact add_str (fun t' k => out_same rel rfl (.str _ _) q) (by unfold sizeLine; omega)
theorem op_len_str {a : Str} (hl : a.length ≤ 1000000) (q : Q (.int a.length) loc own) : OpN Γ loc own [.str a] (fun vs => call (.builtin "len") vs) Q := by
  intro h₀ s vs g rel vr
  cases vr with | cons a b => cases b; cases a; exact len_str (by omega) (out_same rel rfl (.int _ _) q)

theorem list_at {a : Addr} {ds : List Dv} {h₀ : Heap} {L : Addr} {h : Heap} (ha : HasO a (.list ds) own) (rel : Rel h₀ L loc own h) : ∃ vs : List Value, h.IsList a vs.toArray ∧ VRs h vs ds ∧ vs.length = ds.length := by
  obtain ⟨vs, k, o, r⟩ := rel.ow.at_ _ ha.mem
  exact ⟨vs, ⟨_, o, rfl, _, rfl⟩, r, r.length⟩
theorem op_len_list {a : Addr} {ds : List Dv} (ha : HasO a (.list ds) own) (hl : ds.length ≤ 1000000) (q : Q (.int ds.length) loc own) : OpN Γ loc own [.raw (.ref a)] (fun vs => call (.builtin "len") vs) Q := by
  intro h₀ s vs g rel vr
  cases vr with
  | cons x y =>
    cases y; cases x
    obtain ⟨vs, il, r, e⟩ := list_at ha rel
    refine Calls.call_len_list il (by rw [List.size_toArray]; omega) ?_
    rw [List.size_toArray, e]
    exact out_same rel rfl (.int _ _) q
theorem truth_list {a : Addr} {ds : List Dv} {Q : Bool → Loc → Own → Prop} (ha : HasO a (.list ds) own) (hl : ds.length ≤ 1000000) (q : Q (!ds.isEmpty) loc own) : Truth Γ loc own (.raw (.ref a)) Q := by
  intro h₀ s v g rel vr
  cases vr
  obtain ⟨vs, il, r, e⟩ := list_at ha rel
  refine wpAny_truthy_list il (by rw [List.size_toArray]; omega) ?_
  have : (!vs.toArray.isEmpty) = !ds.isEmpty := by
    cases vs <;> cases ds <;> first | rfl | (simp at e)
  rw [this]
  exact ⟨_, _, Pers.st .refl, rel, q⟩
noncomputable def Sub (Γ : Fm) (loc : Loc) (own : Own) (value slice : PySem.Expr) (a b : Dv) (Q : QV) : Prop := Op2 Γ loc own a b (subscriptTail value slice) Q
theorem ev_sub {value slice : PySem.Expr} {pos : Pos} (x : Ev Γ loc own value fun a loc own => Ev Γ loc own slice fun b loc own => Sub Γ loc own value slice a b Q) : Ev Γ loc own (.Subscript value slice pos) Q := by
  intro h₀ s g rel
  exact Subscript_ (x.use g rel fun a _ _ s1 va p1 r1 v1 q1 => q1.use g r1 fun b _ _ s2 vb p2 r2 v2 q2 => q2.go g r2 (v1.mono p2.p) v2 (p1.trans p2))
noncomputable def notSlice : PySem.Expr → Bool
  | .Slice .. => false
  | _ => true
theorem subscripted_plain {slice : PySem.Expr} {o i : Value} (h : notSlice slice = true) : subscripted slice false o i = operate [o, i] (getItem o i) := by
  cases slice <;> first | rfl | cases h
theorem sub_list {value slice : PySem.Expr} {a : Addr} {ds : List Dv} {k : Int} {d : Dv} (ha : HasO a (.list ds) own) (hs : notSlice slice = true) (h0 : 0 ≤ k) (hk : ds[k.toNat]? = some d) (hl : ds.length ≤ 1000000) (q : Q d loc own) :
    Sub Γ loc own value slice (.raw (.ref a)) (.int k) Q := by
  intro h₀ s v u g rel x y
  cases x; cases y
  obtain ⟨vs, il, r, e⟩ := list_at ha rel
  obtain ⟨v, hv, vr⟩ := r.get' hk
  have hlt : k.toNat < ds.length := by
    obtain ⟨z, _⟩ := List.getElem?_eq_some_iff.mp hk; exact z
  exact tail_any il.typeIs slot_list_getitem.lookup (wpAny_getItem_list il h0 (by omega) (by simpa using hv) (out_same rel rfl vr q)) (subscripted_plain hs)
theorem sub_tuple {value slice : PySem.Expr} {ds : List Dv} {k : Int} {d : Dv} (hs : notSlice slice = true) (h0 : 0 ≤ k) (hk : ds[k.toNat]? = some d) (hl : ds.length ≤ 1000000) (q : Q d loc own) :
    Sub Γ loc own value slice (.tup ds) (.int k) Q := by
  intro h₀ s v u g rel x y
  obtain ⟨l, vs, n, rfl, o, r⟩ := tup_inv x
  cases y
  obtain ⟨v, hv, vr⟩ := r.get' hk
  have hlt : k.toNat < ds.length := by
    obtain ⟨z, _⟩ := List.getElem?_eq_some_iff.mp hk; exact z
  have it : IsTup s.heap l vs.toArray := ⟨_, o, rfl, _, rfl⟩
  have hv' : vs.toArray[k.toNat]? = some v := by simpa using hv
  exact tail_any it.typeIs slot_tuple_getitem.lookup (PyProof.Rows.getItem_tuple it (by omega) (by omega) (seqIndex_of h0 (by rw [List.size_toArray, r.length]; omega)) hv' (out_same rel rfl vr q)) (subscripted_plain hs)

noncomputable def EvO (Γ : Fm) (loc : Loc) (own : Own) (e : Option PySem.Expr) (Q : QV) : Prop := match e with
  | none => Q .none loc own
  | some e => Ev Γ loc own e Q
theorem EvO.use {e : Option PySem.Expr} (x : EvO Γ loc own e Q) {h₀ : Heap} {s : Shared} {R : Value → Shared → Prop} (g : Gd Γ.K h₀) (rel : Rel h₀ Γ.env.locals loc own s.heap)
    (k : ∀ d loc own s' v, Stays s s' → Rel h₀ Γ.env.locals loc own s'.heap → VR s'.heap v d → Q d loc own → R v s') : wpAny (model Γ.prog Γ.w) Γ.A (evalPart e Γ.env) R Γ.E s := by
  cases e with
  | none => exact wpAny_pure (k _ _ _ _ _ Pers.refl.st rel .none x)
  | some e => exact Ev.use x g rel k
theorem ev_slice {lo hi st : Option PySem.Expr} {p : Pos} (x : EvO Γ loc own lo fun l loc own => EvO Γ loc own hi fun u loc own => EvO Γ loc own st fun t loc own => ∀ a, Q (.raw (.ref a)) loc ((a, .slc l u t) :: own)) : Ev Γ loc own (.Slice lo hi st p) Q := by
  intro h₀ s g rel
  refine wpAny_Slice (x.use g rel fun a _ _ s1 va p1 r1 v1 q1 => q1.use g r1 fun b _ _ s2 vb p2 r2 v2 q2 => q2.use g r2 fun c loc own s3 vc p3 r3 v3 q3 => ?_)
  have e : Ext s3.heap (s3.heap.push { cls := .type "slice", data := .fields #[va, vb, vc] }) := Ext.push _
  have pe := Ext.pers e
  exact ⟨_, _, _, ((p1.trans p2).trans p3).trans pe.st, r3.more (o := .slc a b c) e (get_size_none _) ⟨va, vb, vc, Heap.get?_push_size _ rfl, v1.mono ((p2.trans p3).p.trans pe), v2.mono (p3.p.trans pe), v3.mono pe⟩, .raw _, q3 _⟩
inductive PartD : Dv → Option Int → Prop
  | none : PartD .none none
  | int (i : Int) : PartD (.int i) (some i)
theorem PartD.is {h : Heap} {v : Value} {d : Dv} {k : Option Int} (x : PartD d k) (r : VR h v d) : IsPart v k := by
  cases x <;> cases r <;> constructor
noncomputable def pickL {α : Type} (ds : List α) (lo hi st : Option Int) : List α :=
  (sliceRange (sliceBounds lo hi st ds.length).1 (sliceBounds lo hi st ds.length).2.1 (sliceBounds lo hi st ds.length).2.2).filterMap (ds[·]?)
theorem VRs.pick {h : Heap} {vs : List Value} {ds : List Dv} (x : VRs h vs ds) : ∀ l : List Nat, VRs h (l.filterMap (vs[·]?)) (l.filterMap (ds[·]?))
  | [] => .nil
  | k :: l => by
    rw [List.filterMap_cons, List.filterMap_cons]
    cases q : vs[k]? with
    | none =>
      have : ds[k]? = none := by rw [List.getElem?_eq_none_iff] at q ⊢; rw [← x.length]; exact q
      rw [this]
      exact x.pick l
    | some v =>
      obtain ⟨d, hd, r⟩ := x.get q
      rw [hd]
      exact .cons r (x.pick l)
theorem pick_slice {h : Heap} {vs : List Value} {ds : List Dv} (x : VRs h vs ds) (lo hi st : Option Int) : ∃ ws : List Value, slicePick vs.toArray lo hi st = ws.toArray ∧ VRs h ws (pickL ds lo hi st) := by
  refine ⟨pickL vs lo hi st, ?_, ?_⟩
  · unfold slicePick pickL
    simp
  · unfold pickL
    rw [x.length]
    exact x.pick _
theorem pickL_plain {α : Type} (ds : List α) (lo hi : Option Int) :
    pickL ds lo hi none = (ds.drop (lo.elim 0 (clipAt ds.length))).take (hi.elim ds.length (clipAt ds.length) - lo.elim 0 (clipAt ds.length)) := by
  unfold pickL
  rw [sliceBounds_plain]
  simp only [sliceRange_one]
  have := pick_run ds.toArray (lo.elim 0 (clipAt ds.length)) (hi.elim ds.length (clipAt ds.length) - lo.elim 0 (clipAt ds.length))
  simpa using this
theorem pickL_upto {α : Type} (ds : List α) (n : Nat) : pickL ds none (some (n : Int)) none = ds.take n := by
  rw [pickL_plain]
  simp only [Option.elim, clipAt_nat, List.drop_zero, Nat.sub_zero]
  rcases Nat.le_total n ds.length with h | h
  · rw [Nat.min_eq_left h]
  · rw [Nat.min_eq_right h, List.take_of_length_le (Nat.le_refl _), List.take_of_length_le h]
theorem pickL_from {α : Type} (ds : List α) (n : Nat) : pickL ds (some (n : Int)) none none = ds.drop n := by
  rw [pickL_plain]
  simp only [Option.elim, clipAt_nat]
  rcases Nat.le_total n ds.length with h | h
  · rw [Nat.min_eq_left h, List.take_of_length_le (by simp)]
  · rw [Nat.min_eq_right h, List.drop_of_length_le (Nat.le_refl _), List.drop_of_length_le h]; simp
theorem fm_congr {α β : Type} {f g : α → Option β} : ∀ {l : List α}, (∀ x ∈ l, f x = g x) → l.filterMap f = l.filterMap g
  | [], _ => rfl
  | a :: l, h => by rw [List.filterMap_cons, List.filterMap_cons, h a (.head _), fm_congr fun x hx => h x (.tail _ hx)]
theorem subscripted_any (slice : PySem.Expr) (o i : Value) : ∃ ops, subscripted slice false o i = operate ops (getItem o i) := by
  cases slice with
  | Slice l u s p => cases s <;> exact ⟨_, rfl⟩
  | _ => exact ⟨_, rfl⟩
theorem sub_list_slice {value slice : PySem.Expr} {a sl : Addr} {ds : List Dv} {l u t : Dv} {lo hi st : Option Int} (ha : HasO a (.list ds) own) (hs : HasO sl (.slc l u t) own) (pl : PartD l lo) (pu : PartD u hi) (pt : PartD t st) (h0 : st ≠ some 0) (hl : ds.length ≤ 1000000)
    (q : ∀ b, Q (.raw (.ref b)) loc ((b, .list (pickL ds lo hi st)) :: own)) : Sub Γ loc own value slice (.raw (.ref a)) (.raw (.ref sl)) Q := by
  intro h₀ s v w g rel x y
  cases x; cases y
  obtain ⟨vs, il, r, e⟩ := list_at ha rel
  obtain ⟨vl, vu, vt, os, r1, r2, r3⟩ := rel.ow.at_ _ hs.mem
  obtain ⟨ws, hw, rw'⟩ := pick_slice r lo hi st
  obtain ⟨ops, ho⟩ := subscripted_any slice (.ref a) (.ref sl)
  refine tail_any il.typeIs slot_list_getitem.lookup (wpAny_getItem_list_slice il ⟨_, os, rfl, rfl⟩ (pl.is r1) (pu.is r2) (pt.is r3) h0 ?_ (by rw [List.size_toArray]; unfold sizeLine; omega)) ho
  rw [hw]
  have ex : Ext s.heap (s.heap.push (lstObj ws 0)) := Ext.push _
  exact ⟨_, _, _, (Ext.pers ex).st, rel.more (o := .list (pickL ds lo hi st)) ex (get_size_none _) ⟨ws, 0, Heap.get?_push_size _ rfl, rw'.mono (Ext.pers ex)⟩, .raw _, q _⟩
end
end Mine

end
section
open PySem PySem.W
open PyProof.Rows hiding wpAt wpAt_bind
set_option linter.unusedSectionVars false
set_option maxRecDepth 100000
set_option maxHeartbeats 1000000
set_option linter.unusedVariables false
set_option linter.unusedSimpArgs false
namespace Mine

structure Hd where
  i : Membership Nat Unit
noncomputable def Moves (I J : Hd) (h h' : Heap) : Prop := ∀ a vs n, ¬ @Hid I.i a → h.get? a = some (tupObj vs n) → ¬ @Hid J.i a ∧ h'.get? a = some (tupObj vs n)
mutual
theorem VR.move {I J : Hd} {h h' : Heap} (k : Moves I J h h') : ∀ {v : Value} {d : Dv}, @VR I.i h v d → @VR J.i h' v d
  | _, _, @VR.none .(I.i) .(h) => @VR.none J.i h'
  | _, _, @VR.bool .(I.i) .(h) b => @VR.bool J.i h' b
  | _, _, @VR.int .(I.i) .(h) i t => @VR.int J.i h' i t
  | _, _, @VR.str .(I.i) .(h) x t => @VR.str J.i h' x t
  | _, _, @VR.tup .(I.i) .(h) _ _ _ _ n e r => @VR.tup J.i h' _ _ _ _ (k _ _ _ n e).1 (k _ _ _ n e).2 (VRs.move k r)
  | _, _, @VR.raw .(I.i) .(h) v => @VR.raw J.i h' v
theorem VRs.move {I J : Hd} {h h' : Heap} (k : Moves I J h h') : ∀ {v : List Value} {d : List Dv}, @VRs I.i h v d → @VRs J.i h' v d
  | _, _, @VRs.nil .(I.i) .(h) => @VRs.nil J.i h'
  | _, _, @VRs.cons .(I.i) .(h) _ _ _ _ a b => @VRs.cons J.i h' _ _ _ _ (VR.move k a) (VRs.move k b)
end
theorem Ents.move {I J : Hd} {h h' : Heap} (k : Moves I J h h') {es : List DictEntry} {l : List (Str × Dv)} (x : @Ents I.i h es l) : @Ents J.i h' es l := by
  induction x with
  | nil => exact @Ents.nil J.i _
  | cons a _ ih => exact @Ents.cons J.i _ _ _ _ _ _ _ _ (VR.move k a) ih
theorem OR.move {I J : Hd} {h : Heap} {a : Addr} {o : AObj} (k : Moves I J h h) (x : @OR I.i h a o) : @OR J.i h a o := by
  cases o with
  | list ds => obtain ⟨vs, n, p, q⟩ := x; exact ⟨vs, n, p, VRs.move k q⟩
  | acc C d ds => obtain ⟨vs, n, p, q⟩ := x; exact ⟨vs, n, p, VRs.move k q⟩
  | inst C d => exact x
  | idict l => obtain ⟨vs, n, p, q⟩ := x; exact ⟨vs, n, p, Ents.move k q⟩
  | cell d =>
    cases d with
    | none => exact x
    | some d => obtain ⟨v, p, q⟩ := x; exact ⟨v, p, VR.move k q⟩
  | tab => exact x
  | slc l u s => obtain ⟨a1, a2, a3, p, q1, q2, q3⟩ := x; exact ⟨a1, a2, a3, p, VR.move k q1, VR.move k q2, VR.move k q3⟩
  | fix o ds => obtain ⟨p, q, vs, n, e, r⟩ := x; exact ⟨p, q, vs, n, e, VRs.move k r⟩
  | any P => exact x
theorem Rel.move {I J : Hd} {h₀ h : Heap} {L : Addr} {loc : Loc} {own : Own} (k : Moves I J h h) (r : @Rel I.i h₀ L loc own h) : @Rel J.i h₀ L loc own h := by
  obtain ⟨⟨r1, r2, r3, r4⟩, ⟨m, n, z⟩, l2, l3, l4⟩ := r
  exact @Rel.mk J.i _ _ _ _ _ (@OwnOk.mk J.i _ _ _ r1 (fun p hp => OR.move k (r2 p hp)) r3 r4) (@LocOk.mk J.i _ _ _ _ _ ⟨m, n, fun x d hx => let ⟨v, a, b⟩ := z x d hx; ⟨v, a, VR.move k b⟩⟩ l2 l3 l4)
structure More (I J : Hd) (F : List Addr) (h : Heap) : Prop where
  sub : ∀ a, @Hid I.i a → @Hid J.i a
  new : ∀ a, @Hid J.i a → @Hid I.i a ∨ (a ∈ F ∧ ∀ vs n, h.get? a ≠ some (tupObj vs n))
theorem More.refl {I : Hd} {F : List Addr} {h : Heap} : More I I F h := ⟨fun _ z => z, fun _ z => .inl z⟩
theorem More.down {I J : Hd} {F : List Addr} {h h' : Heap} (m : More I J F h) : Moves J I h' h' := fun a vs n hn e => ⟨fun z => hn (m.sub a z), e⟩
theorem More.up {I J : Hd} {F : List Addr} {h : Heap} (m : More I J F h) : Moves I J h h := fun a vs n hn e => ⟨fun z => by
  rcases m.new a z with z | ⟨_, z⟩
  · exact hn z
  · exact z _ _ e, e⟩
theorem More.pers {I J : Hd} {F : List Addr} {a b c : Heap} (m : More I J F a) (x : @Pers I.i a b) (y : @Pers J.i b c) : @Pers I.i a c := fun d vs n hn e => y d vs n (m.up d vs n hn e).1 (x d vs n hn e)
theorem More.trans {I J : Hd} {F : List Addr} {a b c : Shared} (m : More I J F a.heap) (x : @Stays I.i a b) (y : @Stays J.i b c) : @Stays I.i a c := by
  obtain ⟨x1, x2, x3⟩ := x
  obtain ⟨y1, y2, y3⟩ := y
  exact @Stays.mk I.i _ _ (m.pers x1 y1) (y2.trans x2) fun h => y3 (x3 h)
theorem More.pre {I J : Hd} {F : List Addr} {a b : Heap} (m : More I J F b) (x : @Pers I.i a b) : More I J F a := ⟨m.sub, fun d z => by
  rcases m.new d z with z | ⟨hf, z⟩
  · exact .inl z
  · by_cases q : @Hid I.i d
    · exact .inl q
    · exact .inr ⟨hf, fun vs n e => z vs n (x d vs n q e)⟩⟩

structure Apart (F : List Addr) (h₀ : Heap) (L : Addr) (own : Own) : Prop where
  base : ∀ a ∈ F, h₀.get? a = none
  fr : ∀ a ∈ F, a ≠ L
  own : ∀ a ∈ F, ∀ p ∈ own, p.1 ≠ a
theorem Gd.turn {I J : Hd} {K : Frag} {h₀ h h' : Heap} {L : Addr} {F : List Addr} {loc : Loc} {own : Own} (g : @Gd I.i K h₀) (m : More I J F h) (ex : Ext h₀ (hideAll h' (L :: own.map (·.1)))) (ap : Apart F h₀ L own) (th : ∀ a ∈ F, ∃ o, h'.get? a = some o) :
    @Gd J.i K (hideAll h' (L :: own.map (·.1))) := by
  obtain ⟨g1, g2, g3, g4, g5⟩ := @Gd.ext I.i _ _ _ g ex
  refine @Gd.mk J.i _ _ g1 g2 g3 g4 fun a z => ?_
  rcases m.new a z with z | ⟨hf, _⟩
  · exact g5 a z
  · obtain ⟨o, ho⟩ := th a hf
    refine ⟨o, hideAll_get _ ho fun q => ?_⟩
    rcases List.mem_cons.mp q with z | q
    · exact ap.fr a hf z
    · obtain ⟨p, hpp, z⟩ := List.mem_map.mp q
      exact ap.own a hf p hpp z
theorem More.alloc {I J : Hd} {K : Frag} {h₀ h h' : Heap} {F : List Addr} (m : More I J F h) (g : @Gd I.i K h₀) (ex : Ext h₀ h') (th : ∀ a ∈ F, ∃ o, h'.get? a = some o) : ∀ a, @Hid J.i a → ∃ o, h'.get? a = some o := fun a z => by
  obtain ⟨g1, g2, g3, g4, g5⟩ := g
  rcases m.new a z with z | ⟨hf, _⟩
  · obtain ⟨o, e⟩ := g5 a z; exact ⟨o, ex _ _ e⟩
  · exact th a hf
variable [aI : Membership Nat Unit]
theorem Rel.rebase {h₀ h : Heap} {L : Addr} {loc : Loc} {own : Own} (r : Rel h₀ L loc own h) :
    Rel (hideAll h (L :: own.map (·.1))) L loc own h ∧ Ext h₀ (hideAll h (L :: own.map (·.1))) := by
  refine ⟨⟨⟨fun b o e => of_hideAll _ e, r.ow.at_, fun p hp => hideAll_none _ (.tail _ (List.mem_map_of_mem hp)), r.ow.nd⟩, ⟨r.lc.ns, hideAll_none _ (.head _), r.lc.off, r.lc.nd⟩⟩,
    fun b o e => hideAll_get _ (r.ow.keep b o e) fun q => ?_⟩
  rcases List.mem_cons.mp q with rfl | q
  · rw [r.lc.fresh] at e; cases e
  · obtain ⟨p, hp, rfl⟩ := List.mem_map.mp q
    rw [r.ow.off p hp] at e; cases e
theorem Rel.unbase {h₀ h₁ h : Heap} {L : Addr} {loc : Loc} {own : Own} (r : Rel h₁ L loc own h) (e : Ext h₀ h₁) : Rel h₀ L loc own h :=
  ⟨⟨fun b o q => r.ow.keep b o (e b o q), r.ow.at_, fun p hp => e.none (r.ow.off p hp), r.ow.nd⟩, ⟨r.lc.ns, e.none r.lc.fresh, r.lc.off, r.lc.nd⟩⟩
noncomputable def ExtOff (F : List Addr) (h h' : Heap) : Prop := ∀ b o, b ∉ F → h.get? b = some o → h'.get? b = some o
theorem ExtOff.trans {F : List Addr} {a b c : Heap} (x : ExtOff F a b) (y : ExtOff F b c) : ExtOff F a c := fun d o n e => y d o n (x d o n e)
theorem Rel.others {h₀ h h' : Heap} {L : Addr} {F : List Addr} {loc : Loc} {own : Own} (r : Rel h₀ L loc own h) (e : ExtOff F h h') (ap : Apart F h₀ L own) (hp : Pers h h') : Rel h₀ L loc own h' := by
  refine ⟨⟨fun b o q => e b o (fun z => by rw [ap.base b z] at q; cases q) (r.ow.keep b o q), fun p hq => ?_, r.ow.off, r.ow.nd⟩, ⟨?_, r.lc.fresh, r.lc.off, r.lc.nd⟩⟩
  · obtain ⟨ob, q, _⟩ := (r.ow.at_ p hq).some
    exact (r.ow.at_ p hq).mono hp ((e _ _ (fun z => ap.own _ z p hq rfl) q).trans q.symm)
  · obtain ⟨m, ⟨o, es, ep, q, z⟩, k⟩ := r.lc.ns
    exact ⟨m, ⟨o, es, ep, e _ _ (fun z => ap.fr _ z rfl) q, z⟩, fun x d hx => by obtain ⟨v, a, b⟩ := k x d hx; exact ⟨v, a, b.mono hp⟩⟩

structure Src (prog : Program) (w : World) (A : Around) (tg : PySem.Expr) (it : Value) (F : List Addr) (ds : List Dv) (H : Own → Prop) (P : Nat → Heap → Prop) (M : Nat → Value → Heap → Prop) : Prop where
  mono : ∀ {own : Own} {p : Addr × AObj}, H own → H (p :: own)
  keep : ∀ {k : Nat} {h h' : Heap}, P k h → (∀ a ∈ F, h'.get? a = h.get? a) → P k h'
  there : ∀ {k : Nat} {h : Heap}, P k h → ∀ a ∈ F, ∃ o, h.get? a = some o
  next : ∀ {k : Nat} {d : Dv} {h₀ : Heap} {L : Addr} {loc : Loc} {own : Own} {s : Shared} {E : Value → Shared → Prop} {R : Option Value → Shared → Prop}, ds[k]? = some d → P k s.heap → Rel h₀ L loc own s.heap → Apart F h₀ L own → H own → (∀ a, Hid a → ∃ o, s.heap.get? a = some o) →
    (∀ v s', VR s'.heap v d → M (k + 1) v s'.heap → ExtOff F s.heap s'.heap → Stays s s' → R (some v) s') → wpAny (model prog w) A (pyNext it) R E s
  stop : ∀ {h₀ : Heap} {L : Addr} {loc : Loc} {own : Own} {s : Shared} {E : Value → Shared → Prop} {R : Option Value → Shared → Prop}, P ds.length s.heap → Rel h₀ L loc own s.heap → Apart F h₀ L own → H own →
    (∀ s', ExtOff F s.heap s'.heap → Stays s s' → R none s') → wpAny (model prog w) A (pyNext it) R E s
  go : ∀ {k : Nat} {d : Dv} {v : Value} {s : Shared} {E : Value → Shared → Prop} {R : Unit → Shared → Prop}, VR s.heap v d → M k v s.heap →
    (∀ s', P k s'.heap → ExtOff F s.heap s'.heap → Stays s s' → R () s') → wpAny (model prog w) A (letOwnedTupleGo tg it v) R E s

section
variable {Γ : Fm} {loc : Loc} {own own' : Own} {Q : QV} {QQ : QF}

theorem for_src {I₀ : Hd} {tg : PySem.Expr} {body orelse : List Stmt} {it : Value} {F : List Addr} {ds : List Dv} {H : Own → Prop} {P : Nat → Heap → Prop} {M : Nat → Value → Heap → Prop} (S : Src Γ.prog Γ.w Γ.A tg it F ds H P M) (hE : Γ.E = fun _ _ => False)
    {I : Nat → Loc → Own → Prop} {h₀ : Heap} {h s : Shared} (m : More I₀ ⟨inferInstance⟩ F h.heap) (g : @Gd I₀.i Γ.K h₀) (rel : Rel h₀ Γ.env.locals loc own s.heap) (ap : Apart F h₀ Γ.env.locals own) (pe : @Stays I₀.i h s) (p0 : P 0 s.heap)
    (i0 : I 0 loc own) (ih : ∀ k loc own, I k loc own → H own)
    (step : ∀ k d loc own, ds[k]? = some d → I k loc own → As Γ loc own tg d fun loc own => Exs Γ loc own body fun fl loc own => match fl with
        | .next | .cont => I (k + 1) loc own
        | .brk => QQ .next loc own
        | .ret d => QQ (.ret d) loc own)
    (fin : ∀ loc own, I ds.length loc own → @Exs I₀.i Γ loc own orelse QQ) :
    codeAny (model Γ.prog Γ.w) Γ.A (.forLoop tg it body orelse Γ.env) (fun r s' => match r with | .ok f => @OutF I₀.i h₀ Γ.env.locals h QQ f s' | .error e => cameBackBy (model Γ.prog Γ.w) Γ.A Γ.env Γ.E e s') s := by
  refine codeAny_loop' rfl (fun n s' => ∃ k loc own, n + k = ds.length ∧ I k loc own ∧ P k s'.heap ∧ Rel h₀ Γ.env.locals loc own s'.heap ∧ Apart F h₀ Γ.env.locals own ∧ @Stays I₀.i h s') (fun n s1 hI => ?_) ds.length ⟨0, loc, own, rfl, i0, p0, rel, ap, pe⟩
  clear i0 p0 rel ap pe
  obtain ⟨k, loc, own, hn, hi, hp, rel, ap, pe⟩ := hI
  show wpAny _ _ ((forTurn tg it body orelse Γ.env).onRaise (fun x => do noteFrame x Γ.env; theTreesLotGoes x)) _ _ s1
  refine wpAny_noted ?_
  simp only [forTurn]
  refine wpAny_bind (wpAny_standAt (wpAny_bind (wpAny_onRaise ?_)))
  by_cases hk : k < ds.length
  · have hd : ds[k]? = some ds[k] := List.getElem?_eq_getElem hk
    refine S.next hd hp rel ap (ih _ _ _ hi) (m.alloc g rel.ow.keep (S.there hp)) fun v s2 vr hp2 eo pp => ?_
    refine wpAny_bind (S.go vr hp2 fun s3 hp3 eo3 pp3 => ?_)
    have pp13 := pp.trans pp3
    have rel3 := rel.others (eo.trans eo3) ap pp13.p
    obtain ⟨relb, exb⟩ := rel3.rebase
    have gb : Gd Γ.K _ := Gd.turn (loc := loc) g m exb ap (S.there hp3)
    refine wpAny_bind (wpAny_mono (step k _ loc own hd hi _ s3 v gb relb (vr.mono pp3.p)) (fun _ s4 ⟨loc4, own4, p4, r4, q4⟩ => ?_) fun e s' z => by rw [hE] at z; exact z.elim)
    refine wpAny_bind (wpAny_mono (q4 _ s4 gb r4) (fun f s5 ⟨a, loc5, own5, p5, r5, fr, q5⟩ => ?_) fun e s' z => by rw [hE] at z; exact z.elim)
    have r5' := r5.unbase exb
    have p5' : @Stays I₀.i h s5 := m.trans pe ((pp13.trans p4).trans p5)
    have same : ∀ a ∈ F, s5.heap.get? a = s3.heap.get? a := fun a ha => by
      obtain ⟨o, ho⟩ := S.there hp3 a ha
      rw [ho]
      refine r5.ow.keep a o (hideAll_get _ ho fun q => ?_)
      rcases List.mem_cons.mp q with z | q
      · exact ap.fr a ha z
      · obtain ⟨p, hpp, z⟩ := List.mem_map.mp q
        exact ap.own a ha p hpp z
    have ap5 : Apart F h₀ Γ.env.locals own5 := ⟨ap.base, ap.fr, fun a ha p hpp z => by
      obtain ⟨o, ho⟩ := S.there hp3 a ha
      have := r5.ow.off p hpp
      rw [z, hideAll_get _ ho fun q => ?_] at this
      · cases this
      rcases List.mem_cons.mp q with z | q
      · exact ap.fr a ha z
      · obtain ⟨p, hpp, z⟩ := List.mem_map.mp q
        exact ap.own a ha p hpp z⟩
    cases fr with
    | next => exact wpAny_pure (.inl ⟨rfl, n - 1, by omega, k + 1, loc5, own5, by omega, q5, S.keep hp3 same, r5', ap5, p5'⟩)
    | cont => exact wpAny_pure (.inl ⟨rfl, n - 1, by omega, k + 1, loc5, own5, by omega, q5, S.keep hp3 same, r5', ap5, p5'⟩)
    | brk => exact wpAny_pure (@OutF.mk I₀.i _ _ _ _ _ _ _ _ _ p5' (Rel.move m.down r5') (@FR.next I₀.i _) q5)
    | ret v => exact wpAny_pure (@OutF.mk I₀.i _ _ _ _ _ _ _ _ _ p5' (Rel.move m.down r5') (@FR.ret I₀.i _ _ _ (VR.move m.down v)) q5)
  · have : k = ds.length := by omega
    subst this
    refine S.stop hp rel ap (ih _ _ _ hi) fun s2 eo pp => wpAny_pure (.inr ⟨rfl, codeAny_block ?_⟩)
    have rel2 := rel.others eo ap pp.p
    refine wpAny_mono (@Exs.go I₀.i _ _ _ _ _ (fin _ _ hi) _ _ _ g (Rel.move m.down rel2) (m.trans pe pp)) (fun _ _ z => z) fun e s' z => by rw [hE] at z; exact z.elim

theorem go_plain {prog : Program} {w : World} {A : Around} {it : Addr} {o : Obj} {T : String} {tg : PySem.Expr} {v : Value} {s : Shared} {E : Value → Shared → Prop} {R : Unit → Shared → Prop} (ho : s.heap.get? it = some o) (hc : o.cls = .type T)
    (hT : (["enumerate", "zip", "dict_itemiterator", "dict_reverseitemiterator", "odict_iterator", "itertools.zip_longest", "itertools.pairwise"].contains T) = false) (z : R () s) : wpAny (model prog w) A (letOwnedTupleGo tg (.ref it) v) R E s := by
  have main : ∀ a, wpAny (model prog w) A (do
      let o ← load it
      match o.cls, o.data with
      | .type n, .fields vs =>
        if ["enumerate", "zip", "dict_itemiterator", "dict_reverseitemiterator", "odict_iterator", "itertools.zip_longest", "itertools.pairwise"].contains n && vs[0]? == some (rawInt a) then
          rule "for.unpacks-the-owned-tuple"
          updateField it 0 .none
      | _, _ => pure ()) R E s := fun a => by
    refine wpAny_bind (wpAny_load ho ?_)
    rw [hc]
    cases o.data <;> first
      | exact wpAny_pure z
      | (simp only [hT, Bool.false_and, Bool.false_eq_true, if_false]; exact wpAny_pure z)
  cases tg <;> cases v <;> first
    | exact wpAny_pure z
    | exact main _
theorem apart_new {h₀ h : Heap} {L : Addr} (r : Rel h₀ L loc own h) : Apart [h.objs.size] h₀ L own := by
  have n := get_size_none h
  refine ⟨fun a ha => ?_, fun a ha z => ?_, fun a ha p hp z => ?_⟩ <;> (rcases List.mem_cons.mp ha with rfl | ha; rotate_left; cases ha)
  · exact r.ow.keep.none n
  · obtain ⟨m, ⟨o, _, _, q, _⟩, _⟩ := r.lc.ns
    rw [← z, n] at q; cases q
  · obtain ⟨o, q, _⟩ := (r.ow.at_ p hp).some
    rw [z, n] at q; cases q
theorem src_list (hh : Γ.A.handled = none) {tg : PySem.Expr} {it l : Addr} {ds : List Dv} (hl : l ≠ it) : Src Γ.prog Γ.w Γ.A tg (.ref it) [it] ds (fun own => HasO l (.list ds) own) (fun k h => h.IsListIter it l k) (fun k _ h => h.IsListIter it l k) where
  mono := fun h => .there h
  keep := fun {k h h'} ⟨o, a, b⟩ q => ⟨o, (q it (.head _)).trans a, b⟩
  there := fun {k h} ⟨o, a, b⟩ c hc => by rcases List.mem_cons.mp hc with rfl | hc; exact ⟨o, a⟩; cases hc
  next := fun {k d h₀ L loc own s E R} hd hp rel ap ho _ kk => by
    obtain ⟨vs, il, r, e⟩ := list_at ho rel
    obtain ⟨v, hv, vr⟩ := r.get' hd
    obtain ⟨o, ho', hc', hd'⟩ := id hp
    refine wpAny_pyNext_list_item hp il (by simpa using hv) fun h' hi hs => ?_
    have pp : Pers s.heap h' := fun a vs n _ q => (hs.2 a fun z => by subst z; rw [ho'] at q; cases q; simp at hc').trans q
    exact kk v _ (vr.mono pp) hi (fun b o n e => (hs.2 b fun z => n (z ▸ .head _)).trans e) pp.st
  stop := fun {h₀ L loc own s E R} hp rel ap ho kk => by
    obtain ⟨vs, il, r, e⟩ := list_at ho rel
    obtain ⟨o, ho', hc', hd'⟩ := id hp
    refine wpAny_pyNext_list_end hh hp il (by simp [e]) fun h' hs => ?_
    have pp : Pers s.heap h' := fun a vs n _ q => hs a _ (fun z => by subst z; rw [ho'] at q; cases q; simp at hc') q
    exact kk _ (fun b o n e => hs b o (fun z => n (z ▸ .head _)) e) pp.st
  go := fun {k d v s E R} vr hp kk => by
    obtain ⟨o, ho, hc, hd⟩ := id hp
    exact go_plain ho hc (by decide) (kk s hp (fun _ _ _ e => e) (Pers.st .refl))
end
end Mine

end
section
open PySem PySem.W
open PyProof.Rows hiding wpAt wpAt_bind
set_option linter.unusedSectionVars false
set_option maxRecDepth 100000
set_option maxHeartbeats 1000000
set_option linter.unusedVariables false
set_option linter.unusedSimpArgs false
namespace Mine
variable [aI : Membership Nat Unit]

theorem Rel.inner {h₀ h : Heap} {L C : Addr} {loc : Loc} {own : Own} {F : List Addr} {m : Str → Option Value} (r : Rel h₀ L loc own h) (ap : Apart F h₀ L own) (hC : h.Ns C m) (c0 : h₀.get? C = none) (cL : C ≠ L) (co : ∀ p ∈ own, p.1 ≠ C) (cF : C ∉ F) :
    Rel (hideAll h (C :: (F ++ own.map (·.1)))) C [] own h ∧ Apart F (hideAll h (C :: (F ++ own.map (·.1)))) C own ∧ Ext h₀ (hideAll h (C :: (F ++ own.map (·.1)))) ∧
      ∀ o, h.get? L = some o → (hideAll h (C :: (F ++ own.map (·.1)))).get? L = some o := by
  refine ⟨⟨⟨fun b o e => of_hideAll _ e, r.ow.at_, fun p hp => hideAll_none _ (.tail _ (List.mem_append_right _ (List.mem_map_of_mem hp))), r.ow.nd⟩, ⟨⟨m, hC, fun _ _ h => (nomatch h)⟩, hideAll_none _ (.head _), co, by simp⟩⟩,
    ⟨fun a ha => hideAll_none _ (.tail _ (List.mem_append_left _ ha)), fun a ha z => cF (z ▸ ha), ap.own⟩, fun b o e => hideAll_get _ (r.ow.keep b o e) fun q => ?_, fun o e => hideAll_get _ e fun q => ?_⟩
  · rcases List.mem_cons.mp q with rfl | q
    · rw [c0] at e; cases e
    · rcases List.mem_append.mp q with q | q
      · rw [ap.base _ q] at e; cases e
      · obtain ⟨p, hp, rfl⟩ := List.mem_map.mp q
        rw [r.ow.off p hp] at e; cases e
  · rcases List.mem_cons.mp q with z | q
    · exact cL z.symm
    · rcases List.mem_append.mp q with q | q
      · exact ap.fr _ q rfl
      · obtain ⟨p, hp, z⟩ := List.mem_map.mp q
        exact r.lc.off p hp z
theorem Rel.outer {h₀ hc h h' : Heap} {L C : Addr} {loc locc : Loc} {own own' : Own} (r : Rel h₀ L loc own h) (i : Rel hc C locc own' h') (e : Ext h₀ hc) (k : ∀ o, h.get? L = some o → hc.get? L = some o) (p : Pers h h') : Rel h₀ L loc own' h' := by
  obtain ⟨m, ⟨oL, es, ep, hL, rr⟩, n⟩ := r.lc.ns
  refine ⟨⟨fun b o q => i.ow.keep b o (e b o q), i.ow.at_, fun p hp => e.none (i.ow.off p hp), i.ow.nd⟩, ⟨⟨m, ⟨oL, es, ep, i.ow.keep _ _ (k _ hL), rr⟩, fun x d hx => ?_⟩, r.lc.fresh, fun p hp z => ?_, r.lc.nd⟩⟩
  · obtain ⟨v, a, b⟩ := n x d hx; exact ⟨v, a, b.mono p⟩
  · have := i.ow.off p hp
    rw [z, k _ hL] at this; cases this
theorem Rel.forget {h₀ h : Heap} {L : Addr} {loc : Loc} {own : Own} (r : Rel h₀ L loc own h) : Rel h₀ L [] own h :=
  ⟨r.ow, ⟨let ⟨m, n, _⟩ := r.lc.ns; ⟨m, n, fun _ _ h => (nomatch h)⟩, r.lc.fresh, r.lc.off, by simp⟩⟩

noncomputable def SelfIter (prog : Program) (w : World) (A : Around) (it : Value) (P : Heap → Prop) : Prop :=
  ∀ {s : Shared} {E : Value → Shared → Prop} {R : Value → Shared → Prop}, P s.heap → R it s → wpAny (model prog w) A (pyIter it) R E s

section
variable {Γ : Fm} {loc : Loc} {own own' : Own} {Q : QV} {QQ : QF}

inductive ItOut (Γ : Fm) (h₀ : Heap) (s : Shared) (tg : PySem.Expr) (Q : List Dv → (Own → Prop) → Loc → Own → Prop) (it : Value) (s₂ : Shared) : Prop
  | mk (J : Hd) (F : List Addr) (ds : List Dv) (H : Own → Prop) (P : Nat → Heap → Prop) (M : Nat → Value → Heap → Prop) (loc : Loc) (own : Own) : More ⟨inferInstance⟩ J F s.heap → Stays s s₂ → @Rel J.i h₀ Γ.env.locals loc own s₂.heap → Apart F h₀ Γ.env.locals own → @Src J.i Γ.prog Γ.w Γ.A tg it F ds H P M → P 0 s₂.heap → SelfIter Γ.prog Γ.w Γ.A it (P 0) → H own → Q ds H loc own → ItOut Γ h₀ s tg Q it s₂
noncomputable def It (Γ : Fm) (loc : Loc) (own : Own) (tg e : PySem.Expr) (Q : List Dv → (Own → Prop) → Loc → Own → Prop) : Prop :=
  ∀ h₀ s, Gd Γ.K h₀ → Rel h₀ Γ.env.locals loc own s.heap → wpAny (model Γ.prog Γ.w) Γ.A (eval e Γ.env) (fun x s₁ => wpAny (model Γ.prog Γ.w) Γ.A (pyIter x) (ItOut Γ h₀ s tg Q) Γ.E s₁) Γ.E s

theorem it_list {tg e : PySem.Expr} {Q : List Dv → (Own → Prop) → Loc → Own → Prop} (x : Ev Γ loc own e fun d loc own => ∃ l ds, d = .raw (.ref l) ∧ HasO l (.list ds) own ∧ Q ds (fun own => HasO l (.list ds) own) loc own) : It Γ loc own tg e Q := by
  intro h₀ s g rel
  refine x.use g rel fun d loc own s1 v p1 r1 v1 ⟨l, ds, hd, hl, q⟩ => ?_
  subst hd
  cases v1
  obtain ⟨vs, il, r, e⟩ := list_at hl r1
  refine wpAny_pyIter_list il ?_
  have ex : Ext s1.heap (s1.heap.push { cls := .type "list_iterator", data := .fields #[.ref l, .int 0 0] }) := Ext.push _
  have hne : l ≠ s1.heap.objs.size := by obtain ⟨o, ho, _⟩ := il; exact Nat.ne_of_lt (Heap.lt_size ho)
  exact ⟨⟨inferInstance⟩, _, ds, _, _, _, loc, own, .refl, p1.trans (Ext.pers ex).st, r1.ext ex, apart_new r1, src_list Γ.hh hne, ⟨_, Heap.get?_push_size _ rfl, rfl, rfl⟩, fun hp rr => wpAny_pyIter_listiter hp rr, hl, q⟩

theorem ex_forI {tg iter : PySem.Expr} {body orelse : List Stmt} {pos : Pos} (hE : Γ.E = fun _ _ => False) (hs : ∀ x, foldedSetIterable iter Γ.env x = pure x)
    (x : It Γ loc own tg iter fun ds H loc own => ∃ I : Nat → Loc → Own → Prop, I 0 loc own ∧ (∀ k loc own, I k loc own → H own) ∧
      (∀ k d loc own, ds[k]? = some d → I k loc own → ∀ [Membership Nat Unit], As Γ loc own tg d fun loc own => Exs Γ loc own body fun fl loc own => match fl with
        | .next | .cont => I (k + 1) loc own
        | .brk => QQ .next loc own
        | .ret d => QQ (.ret d) loc own) ∧
      (∀ loc own, I ds.length loc own → Exs Γ loc own orelse QQ)) : Ex Γ loc own (.For tg iter body orelse pos) QQ := by
  intro h₀ s g rel
  refine wpAny_For (wpAny_mono (x h₀ s g rel) (fun v s1 y => wpAny_mono y (fun it s2 ⟨J, F, ds, H, P, M, loc, own, mo, pe, r, ap, S, p0, _, _, I, i0, ih, step, fin⟩ => ?_) fun _ _ z => z) fun _ _ z => z) hs
  exact @for_src J.i _ _ _ _ ⟨inferInstance⟩ _ _ _ _ _ _ _ _ _ S hE _ _ _ _ mo g r ap pe p0 i0 ih (fun k d loc own a b => @step k d loc own a b J.i) fin

noncomputable abbrev compFm (Γ : Fm) (scope : Scope) (cl : List (Str × Addr)) (C : Addr) (hk : scope.kind = .function) : Fm :=
  { prog := Γ.prog, w := Γ.w, K := Γ.K, A := Γ.A, env := compEnvC scope cl C Γ.env, E := fun _ _ => False, D := Γ.D, U := Γ.U, hh := Γ.hh, hD := Γ.hD, hU := Γ.hU, hk := hk, hg := Γ.hg, hb := Γ.hb }

noncomputable def Elt (Γ : Fm) (loc : Loc) (own : Own) (ifs : List PySem.Expr) (elt : PySem.Expr) (Q : Option Dv → Loc → Own → Prop) : Prop := match ifs with
  | [] => Ev Γ loc own elt fun d loc own => Q (some d) loc own
  | [c] => Tst Γ loc own c fun b loc own => if b then Ev Γ loc own elt fun d loc own => Q (some d) loc own else Q none loc own
  | _ => False

theorem comp_src {I₀ : Hd} {Γ : Fm} {elt tg iter : PySem.Expr} {ifs : List PySem.Expr} {scope : Scope} {pos : Pos} {it : Value} {acc : Addr} {F : List Addr} {ds : List Dv} {H : Own → Prop} {P : Nat → Heap → Prop} {M : Nat → Value → Heap → Prop} (S : Src Γ.prog Γ.w Γ.A tg it F ds H P M) (hE : Γ.E = fun _ _ => False)
    {J : Nat → Own → List Dv → Prop} {R : Result → Shared → Prop} {h₀ : Heap} {h : Shared} {own : Own} {s : Shared} {h1 : Shared} (m : More I₀ ⟨inferInstance⟩ F h.heap) (g : @Gd I₀.i Γ.K h₀) (rel : Rel h₀ Γ.env.locals [] ((acc, .list []) :: own) s.heap) (ap : Apart F h₀ Γ.env.locals ((acc, .list []) :: own)) (pe : @Stays I₀.i h s) (pe1 : Stays h1 s) (p0 : P 0 s.heap)
    (i0 : J 0 own []) (ih : ∀ k own res, J k own res → H ((acc, .list res) :: own)) (il : ∀ k own res, J k own res → res.length ≤ 100000)
    (step : ∀ k d own res, ds[k]? = some d → J k own res → As Γ [] ((acc, .list res) :: own) tg d fun loc own' => Elt Γ loc own' ifs elt fun o loc own' => ∃ own2, ((acc, .list res) :: own2).Sublist own' ∧ match o with
      | some v => J (k + 1) own2 (res ++ [v])
      | none => J (k + 1) own2 res)
    (fin : ∀ own res s', J ds.length own res → Rel h₀ Γ.env.locals [] ((acc, .list res) :: own) s'.heap → @Stays I₀.i h s' → Stays h1 s' → R (.ok .next) s') :
    codeAny (model Γ.prog Γ.w) Γ.A (.compLoop (.ListComp elt [⟨tg, iter, ifs, 0⟩] scope pos) 0 it (.ref acc) Γ.env) R s := by
  refine codeAny_loop rfl (fun n s' => ∃ k own res, n + k = ds.length ∧ J k own res ∧ P k s'.heap ∧ Rel h₀ Γ.env.locals [] ((acc, .list res) :: own) s'.heap ∧ Apart F h₀ Γ.env.locals ((acc, .list res) :: own) ∧ @Stays I₀.i h s' ∧ Stays h1 s') (fun n s1 hI => ?_) ds.length ⟨0, own, [], rfl, i0, p0, rel, ap, pe, pe1⟩
  clear i0 p0 rel ap pe pe1
  obtain ⟨k, own, res, hn, hi, hp, rel, ap, pe, pe1⟩ := hI
  show wpAny _ Γ.A ((compTurn (.ListComp elt [⟨tg, iter, ifs, 0⟩] scope pos) 0 it (.ref acc) Γ.env).onRaise (fun x => do noteFrame x Γ.env; theTreesLotGoes x)) _ _ s1
  refine wpAny_noted ?_
  rw [compTurn_list]
  refine wpAny_bind (wpAny_standAt (wpAny_bind ?_))
  by_cases hk : k < ds.length
  · have hd : ds[k]? = some ds[k] := List.getElem?_eq_getElem hk
    refine S.next hd hp rel ap (ih _ _ _ hi) (m.alloc g rel.ow.keep (S.there hp)) fun v s2 vr hp2 eo pp => ?_
    refine wpAny_bind (S.go vr hp2 fun s3 hp3 eo3 pp3 => ?_)
    have rel3 := rel.others (eo.trans eo3) ap (pp.trans pp3).p
    obtain ⟨relb, exb⟩ := rel3.rebase
    have gb : Gd Γ.K _ := Gd.turn (loc := []) g m exb ap (S.there hp3)
    have same : ∀ (loc5 : Loc) (own5 : Own) (h5 : Heap), Rel (hideAll s3.heap (Γ.env.locals :: ((acc, AObj.list res) :: own).map (·.1))) Γ.env.locals loc5 own5 h5 → (∀ a ∈ F, h5.get? a = s3.heap.get? a) ∧ Apart F h₀ Γ.env.locals own5 := fun loc5 own5 h5 r5 => by
      have hid : ∀ a ∈ F, ∀ o, s3.heap.get? a = some o → (hideAll s3.heap (Γ.env.locals :: ((acc, AObj.list res) :: own).map (·.1))).get? a = some o := fun a ha o ho => hideAll_get _ ho fun q => by
        rcases List.mem_cons.mp q with z | q
        · exact ap.fr a ha z
        · obtain ⟨p, hpp, z⟩ := List.mem_map.mp q
          exact ap.own a ha p hpp z
      refine ⟨fun a ha => ?_, ap.base, ap.fr, fun a ha p hpp z => ?_⟩
      · obtain ⟨o, ho⟩ := S.there hp3 a ha
        rw [ho]
        exact r5.ow.keep a o (hid a ha o ho)
      · obtain ⟨o, ho⟩ := S.there hp3 a ha
        have := r5.ow.off p hpp
        rw [z, hid a ha o ho] at this
        cases this
    refine wpAny_bind (wpAny_mono (step k _ own res hd hi _ s3 v gb relb (vr.mono pp3.p)) (fun _ s4 ⟨loc4, own4, p4, r4, q4⟩ => ?_) fun e s' z => by rw [hE] at z; exact z.elim)
    have p14 := (pp.trans pp3).trans p4
    have skip : ∀ (loc5 : Loc) (own5 own2 : Own) (s5 : Shared), Stays s1 s5 → Rel _ Γ.env.locals loc5 own5 s5.heap → ((acc, AObj.list res) :: own2).Sublist own5 → J (k + 1) own2 res → (Code.compLoop (.ListComp elt [⟨tg, iter, ifs, 0⟩] scope pos) 0 it (.ref acc) Γ.env = Code.compLoop (.ListComp elt [⟨tg, iter, ifs, 0⟩] scope pos) 0 it (.ref acc) Γ.env ∧
        ∃ m, m < n ∧ ∃ k own res, m + k = ds.length ∧ J k own res ∧ P k s5.heap ∧ Rel h₀ Γ.env.locals [] ((acc, .list res) :: own) s5.heap ∧ Apart F h₀ Γ.env.locals ((acc, .list res) :: own) ∧ @Stays I₀.i h s5 ∧ Stays h1 s5) := fun loc5 own5 own2 s5 p5 r5 sb j5 => by
      have r5s := r5.sub sb
      obtain ⟨sm, ap5⟩ := same _ _ _ r5s
      exact ⟨rfl, n - 1, by omega, k + 1, own2, res, by omega, j5, S.keep hp3 sm, (r5s.unbase exb).forget, ap5, m.trans pe p5, pe1.trans p5⟩
    have push : ∀ (loc5 : Loc) (own5 own2 : Own) (s5 : Shared) (x : Value) (d : Dv), Stays s1 s5 → Rel _ Γ.env.locals loc5 own5 s5.heap → VR s5.heap x d → ((acc, AObj.list res) :: own2).Sublist own5 → J (k + 1) own2 (res ++ [d]) →
        wpAny (model Γ.prog Γ.w) Γ.A (call (.builtin "list.append") [.ref acc, x]) (fun _ s6 => Code.compLoop (.ListComp elt [⟨tg, iter, ifs, 0⟩] scope pos) 0 it (.ref acc) Γ.env = Code.compLoop (.ListComp elt [⟨tg, iter, ifs, 0⟩] scope pos) 0 it (.ref acc) Γ.env ∧
        ∃ m, m < n ∧ ∃ k own res, m + k = ds.length ∧ J k own res ∧ P k s6.heap ∧ Rel h₀ Γ.env.locals [] ((acc, .list res) :: own) s6.heap ∧ Apart F h₀ Γ.env.locals ((acc, .list res) :: own) ∧ @Stays I₀.i h s6 ∧ Stays h1 s6) Γ.E s5 := fun loc5 own5 own2 s5 x d p5 r5 vx sb j5 => by
      have r5s := r5.sub sb
      have ap1 : Op2 Γ loc5 ((acc, .list res) :: own2) (.raw (.ref acc)) d (fun a b => call (.builtin "list.append") [a, b]) fun _ loc own' => loc = loc5 ∧ own' = (acc, .list (res ++ [d])) :: own2 := fun h₁ s₁ a b g₁ r₁ va vb =>
        op_append (Γ := Γ) (Q := fun _ loc own' => loc = loc5 ∧ own' = (acc, .list (res ++ [d])) :: own2) .here .list (il _ _ _ hi) ⟨rfl, rfl⟩ h₁ s₁ [a, b] g₁ r₁ (.cons va (.cons vb .nil))
      refine wpAny_mono (ap1 _ s5 (.ref acc) x gb r5s (.raw _) vx) (fun _ s6 ⟨d6, loc6, own6, p6, r6, v6, q6⟩ => ?_) fun _ _ z => z
      obtain ⟨rfl, rfl⟩ := q6
      obtain ⟨sm, ap6⟩ := same _ _ _ r6
      exact ⟨rfl, n - 1, by omega, k + 1, own2, _, by omega, j5, S.keep hp3 sm, (r6.unbase exb).forget, ap6, m.trans pe (p5.trans p6), pe1.trans (p5.trans p6)⟩
    unfold Elt at q4
    rcases ifs with _ | ⟨c, _ | ⟨c', r⟩⟩
    · refine wpAny_bind (wpAny_tests_nil ?_)
      refine wpAny_bind (wpAny_bind ?_)
      refine wpAny_mono (q4 _ s4 gb r4) (fun x s5 ⟨d5, loc5, own5, p5, r5, v5, own2, sb, j5⟩ => wpAny_bind (wpAny_mono (push loc5 own5 own2 s5 x d5 (p14.trans p5) r5 v5 sb j5) (fun _ _ z => wpAny_pure (wpAny_pure z)) fun e s' z => by rw [hE] at z; exact z.elim)) fun e s' z => by rw [hE] at z; exact z.elim
    · refine wpAny_bind (wpAny_tests_one ?_)
      refine wpAny_mono (q4 _ s4 gb r4) (fun b s5 ⟨loc5, own5, p5, r5, q5⟩ => ?_) fun e s' z => by rw [hE] at z; exact z.elim
      cases b with
      | false =>
        simp only [Bool.false_eq_true, if_false] at q5 ⊢
        obtain ⟨own2, sb, j5⟩ := q5
        exact wpAny_pure (skip loc5 own5 own2 s5 (p14.trans p5) r5 sb j5)
      | true =>
        simp only [if_true] at q5 ⊢
        refine wpAny_bind (wpAny_bind ?_)
        refine wpAny_mono (q5 _ s5 gb r5) (fun x s6 ⟨d6, loc6, own6, p6, r6, v6, own2, sb, j6⟩ => wpAny_bind (wpAny_mono (push loc6 own6 own2 s6 x d6 ((p14.trans p5).trans p6) r6 v6 sb j6) (fun _ _ z => wpAny_pure (wpAny_pure z)) fun e s' z => by rw [hE] at z; exact z.elim)) fun e s' z => by rw [hE] at z; exact z.elim
    · exact q4.elim
  · have : k = ds.length := by omega
    subst this
    refine S.stop hp rel ap (ih _ _ _ hi) fun s2 eo pp => wpAny_pure ?_
    exact fin own res s2 hi (rel.others eo ap pp.p) (m.trans pe pp) (pe1.trans pp)
end
end Mine

end
section
open PySem PySem.W
open PyProof.Rows hiding wpAt wpAt_bind
set_option linter.unusedSectionVars false
set_option maxRecDepth 100000
set_option maxHeartbeats 1000000
set_option linter.unusedVariables false
set_option linter.unusedSimpArgs false
namespace Mine
variable [aI : Membership Nat Unit]
section
variable {Γ : Fm} {loc : Loc} {own own' : Own} {Q : QV} {QQ : QF}

theorem Apart.more {F : List Addr} {h₀ : Heap} {L a : Addr} {o : AObj} (ap : Apart F h₀ L own) (n : a ∉ F) : Apart F h₀ L ((a, o) :: own) :=
  ⟨ap.base, ap.fr, fun b hb p hp z => by
    rcases List.mem_cons.mp hp with rfl | hp
    · have z : a = b := z
      exact n (z ▸ hb)
    · exact ap.own b hb p hp z⟩

structure CompOk (Γ : Fm) (scope : Scope) (cl : List (Str × Addr)) (iter : PySem.Expr) : Prop where
  clos : closureFor scope Γ.env = pure cl
  kind : scope.kind = .function
  names : ∀ x ∈ scope.names, x.2 = .local → scope.names.lookup x.1 = some .local
  cells : ∀ x ∈ scope.names, x.2 ≠ .cell
  iter : ∀ x, foldedSetIterable iter Γ.env x = pure x

noncomputable def Comp (Γ : Fm) (scope : Scope) (cl : List (Str × Addr)) (hk : scope.kind = .function) (tg elt : PySem.Expr) (ifs : List PySem.Expr) (ds : List Dv) (H : Own → Prop) (own : Own) (Q : List Dv → Own → Prop) : Prop :=
  ∃ J : Nat → Own → List Dv → Prop, J 0 own [] ∧ (∀ k own res, J k own res → H own) ∧ (∀ k own res, J k own res → res.length ≤ 100000) ∧
    (∀ C acc k d own res, ds[k]? = some d → J k own res → ∀ [Membership Nat Unit], As (compFm Γ scope cl C hk) [] ((acc, .list res) :: own) tg d fun loc own' => Elt (compFm Γ scope cl C hk) loc own' ifs elt fun o loc own' => ∃ own2, ((acc, .list res) :: own2).Sublist own' ∧ match o with
      | some v => J (k + 1) own2 (res ++ [v])
      | none => J (k + 1) own2 res) ∧
    (∀ own res, J ds.length own res → Q res own)

theorem comp_core {elt tg iter : PySem.Expr} {ifs : List PySem.Expr} {scope : Scope} {cl : List (Str × Addr)} {pos pos' : Pos} {use : Option (Value → Sem Unit)} {R : Value → Shared → Prop} {h₀ : Heap} {s : Shared} (hE : Γ.E = fun _ _ => False) (ok : CompOk Γ scope cl iter)
    {QC : List Dv → Loc → Own → Prop} (g : Gd Γ.K h₀) (rel : Rel h₀ Γ.env.locals loc own s.heap)
    (x : It Γ loc own tg iter fun ds H loc own => Comp Γ scope cl ok.kind tg elt ifs ds H own fun res own => QC res loc own)
    (k : ∀ acc C res loc own s' m, Stays s s' → Rel h₀ Γ.env.locals loc ((acc, .list res) :: own) s'.heap → s'.heap.Ns C m → h₀.get? C = none → C ≠ Γ.env.locals → C ≠ acc → (∀ p ∈ own, p.1 ≠ C) → QC res loc own →
      compPost (model Γ.prog Γ.w) Γ.A Γ.E use R (.ref acc) C (.ok .next) s') :
    wpAny (model Γ.prog Γ.w) Γ.A (comprehension (.ListComp elt [⟨tg, iter, ifs, 0⟩] scope pos) scope Γ.env pos' (newList []) false (eval iter Γ.env) use) R Γ.E s := by
  refine wpAny_comprehension_free (g := ⟨tg, iter, ifs, 0⟩) (gs := []) rfl ok.iter ok.clos ok.kind ok.names ?_
  refine wpAny_mono (x h₀ s g rel) (fun v s1 y => wpAny_mono y (fun it s2 ⟨⟨JJ⟩, F, ds, H, P, M, loc, own, mo, pe, r, ap, S, p0, si, hH0, J, j0, jh, jl, step, fin⟩ => ?_) fun _ _ z => z) fun _ _ z => z
  refine wpAny_newList ?_ (by simp)
  have ex : Ext s2.heap (s2.heap.push (lstObj [] 0)) := Ext.push _
  have accF : s2.heap.objs.size ∉ F := fun q => by obtain ⟨o, ho⟩ := S.there p0 _ q; rw [get_size_none] at ho; cases ho
  have r3 : Rel h₀ Γ.env.locals loc ((s2.heap.objs.size, .list []) :: own) (s2.heap.push (lstObj [] 0)) := r.more (o := .list []) ex (get_size_none _) ⟨[], 0, Heap.get?_push_size _ rfl, .nil⟩
  have ap3 : Apart F h₀ Γ.env.locals ((s2.heap.objs.size, .list []) :: own) := ap.more accF
  generalize hs3 : (s2.heap.push (lstObj [] 0)) = h3 at r3 ex
  have p3 : P 0 h3 := S.keep p0 fun a ha => by obtain ⟨o, ho⟩ := S.there p0 a ha; rw [ho]; exact ex _ _ ho
  refine wpAny_newFunctionEnv ok.cells (fun _ h => (nomatch h)) (fun h4 ns4 sb4 => ?_) ok.kind
  have exC : Ext h3 h4 := fun b o e => by
    have hb : b ≠ h3.objs.size := Nat.ne_of_lt (Heap.lt_size e)
    rw [sb4.2 b hb]
    exact Heap.get?_push_of_some _ e
  have nC : h3.get? h3.objs.size = none := get_size_none _
  have r4 := r3.ext exC
  have c0 : h₀.get? h3.objs.size = none := r3.ow.keep.none nC
  have cL : h3.objs.size ≠ Γ.env.locals := fun z => by obtain ⟨m, ⟨o, _, _, q, _⟩, _⟩ := r3.lc.ns; rw [← z, nC] at q; cases q
  have co : ∀ p ∈ ((s2.heap.objs.size, AObj.list []) :: own), p.1 ≠ h3.objs.size := fun p hp z => by obtain ⟨o, q, _⟩ := (r3.ow.at_ p hp).some; rw [z, nC] at q; cases q
  have cF : h3.objs.size ∉ F := fun q => by obtain ⟨o, ho⟩ := S.there p3 _ q; rw [nC] at ho; cases ho
  obtain ⟨ri, api, exi, kL⟩ := r4.inner ap3 ns4 c0 cL co cF
  have gi := @Gd.ext aI _ _ _ g exi
  have p4 : P 0 h4 := S.keep p3 fun a ha => by obtain ⟨o, ho⟩ := S.there p3 a ha; rw [ho]; exact exC _ _ ho
  have pe4 : Pers s2.heap h4 := (Ext.pers ex).trans (Ext.pers exC)
  have main := fun (s' : Shared) (hs' : s'.heap = h4) (st : @Stays aI s s') => comp_src (I₀ := ⟨aI⟩) (Γ := compFm Γ scope cl h3.objs.size ok.kind) (elt := elt) (tg := tg) (iter := iter) (ifs := ifs) (scope := scope) (pos := pos) (R := compPost (model Γ.prog Γ.w) Γ.A Γ.E use R (.ref s2.heap.objs.size) h3.objs.size)
    (h := s) (h1 := s') (s := s') S rfl mo gi (by rw [hs']; exact ri) api st Stays.refl (by rw [hs']; exact p4) j0 (fun k own res j => S.mono (jh k own res j)) jl (fun k d own res hd hj => step _ _ k d own res hd hj)
    (fun own5 res5 s5 j5 r5 q5 p5 => by
      have ro := r4.outer r5 exi kL (hs' ▸ p5.p)
      obtain ⟨m5, n5, _⟩ := r5.lc.ns
      exact k _ _ _ _ _ s5 m5 q5 (Rel.move mo.down ro) n5 c0 cL (fun z => r5.lc.off _ (.head _) z.symm) (fun p hp z => r5.lc.off p (.tail _ hp) z) (fin _ _ j5))
  subst hs3
  exact codeAny_compStart_list (main _ rfl (mo.trans pe pe4.st)) (si p4 (main _ rfl (mo.trans pe pe4.st)))
theorem ev_comp {elt tg iter : PySem.Expr} {ifs : List PySem.Expr} {scope : Scope} {pos : Pos} (cl : List (Str × Addr)) (hE : Γ.E = fun _ _ => False) (ok : CompOk Γ scope cl iter)
    (x : It Γ loc own tg iter fun ds H loc own => Comp Γ scope cl ok.kind tg elt ifs ds H own fun res own => ∀ a, Q (.raw (.ref a)) loc ((a, .list res) :: own)) : Ev Γ loc own (.ListComp elt [⟨tg, iter, ifs, 0⟩] scope pos) Q := by
  intro h₀ s g rel
  rw [eval_ListComp]
  refine comp_core hE ok (QC := fun res loc own => ∀ a, Q (.raw (.ref a)) loc ((a, .list res) :: own)) g rel x fun acc C res loc own s' m p r n c0 cL ca co q => ?_
  refine ⟨m, n, fun h' sb => ?_⟩
  have nt : ∃ o, s'.heap.get? C = some o ∧ ∀ vs n, o ≠ tupObj vs n := let ⟨o, es, ep, a, b, _⟩ := n; ⟨o, a, fun vs n e => by rw [e] at b; cases b⟩
  have pp : Pers s'.heap h' := (Chg.mk (a := C) (fun b hb => sb.2 b hb) nt).pers
  refine ⟨_, _, _, p.trans pp.st, r.others (F := [C]) (fun b o nb e => (sb.2 b fun z => nb (z ▸ .head _)).trans e) ⟨fun a ha => ?_, fun a ha => ?_, fun a ha p hp => ?_⟩ pp, .raw _, q acc⟩
  all_goals (rcases List.mem_cons.mp ha with rfl | ha; rotate_left; cases ha)
  · exact c0
  · exact cL
  · rcases List.mem_cons.mp hp with rfl | hp
    · exact fun z => ca z.symm
    · exact co p hp

end
end Mine

end
section
open PySem PySem.W
open PyProof.Rows hiding wpAt wpAt_bind
open PySem.Builtin PySem.Builtin.ObjectAttr
set_option linter.unusedSectionVars false
set_option maxRecDepth 100000
set_option maxHeartbeats 1000000
set_option linter.unusedVariables false
set_option linter.unusedSimpArgs false
namespace Mine
variable [aI : Membership Nat Unit]

theorem ents_put {h : Heap} {name : Str} {e : Dv} {v : Value} {t : Tok} {hs : Int} {l l' : List (Str × Dv)} {es : List DictEntry} {f : Option DictEntry → DictEntry} (f1 : ∀ e, f (some e) = { e with val := v }) (f2 : f none = ⟨hs, .str name t, v⟩) (u : SetL name e l l') (x : Ents h es l) :
    ∃ es' b, nsPutIn name.cps.size name.cps.toList f es = (es', b) ∧ es'.length ≤ es.length + 1 ∧ ∀ h', Pers h h' → VR h' v e → Ents h' es' l' := by
  induction u generalizing es with
  | here =>
    cases x with
    | cons a b =>
      rename_i hs' t' v' es'
      refine ⟨⟨hs', .str name t', v⟩ :: es', false, ?_, ?_, fun h' p vr => .cons vr (b.mono p)⟩
      · rw [nsPutIn]
        have : (Value.str name t').isStrByCps name.cps.size name.cps.toList = true := by rw [Value.isStrByCps_eq]; simp [Value.isStr]
        rw [if_pos this, f1]
      · simp
  | there n u' ih =>
    cases x with
    | cons a b =>
      rename_i hs' y t' v' d' es'
      obtain ⟨es2, b2, q, ql, r⟩ := ih b
      refine ⟨⟨hs', .str y t', v'⟩ :: es2, b2, ?_, ?_, fun h' p vr => .cons (a.mono p) (r h' p vr)⟩
      · rw [nsPutIn]
        rw [if_neg ?_, q]
        rw [Value.isStrByCps_eq]; simp [Value.isStr]; exact n
      · simp; omega
  | new =>
    cases x
    exact ⟨_, true, rfl, by simp, fun h' p vr => by rw [f2]; exact .cons vr .nil⟩
theorem put_obj {h : Heap} {name : Str} {e : Dv} {v : Value} {t : Tok} {hs : Int} {l l' : List (Str × Dv)} {es : List DictEntry} {n : Nat} (u : SetL name e l l') (x : Ents h es l) :
    ∃ es' n', Obj.putName name hs (.str name t) v { cls := .type "dict", data := .dict es.toArray n } = { cls := .type "dict", data := .dict es'.toArray n' } ∧ es'.length ≤ es.length + 1 ∧ ∀ h', Pers h h' → VR h' v e → Ents h' es' l' := by
  unfold Obj.putName
  dsimp only
  split
  all_goals
    rename_i es1 q1
    obtain ⟨es', b, q, ql, r⟩ := ents_put (f := fun x => match x with | some e => ({ e with val := v } : DictEntry) | none => ⟨hs, .str name t, v⟩) (v := v) (t := t) (hs := hs) (fun _ => rfl) rfl u x
    have q2 := (show _ = _ from q1).symm.trans q
    cases q2
    exact ⟨es1, _, rfl, ql, r⟩
theorem Ents.length {h : Heap} {es : List DictEntry} {l : List (Str × Dv)} (x : Ents h es l) : es.length = l.length := by
  induction x with
  | nil => rfl
  | cons _ _ ih => simp [ih]
theorem Ents.noRef {h : Heap} {es : List DictEntry} {l : List (Str × Dv)} (x : Ents h es l) : es.any (·.refKey) = false := by
  induction x with
  | nil => rfl
  | cons _ _ ih => rw [List.any_cons, ih]; rfl

structure StoreK (K : Frag) (C : Addr) (cd : ClassData) : Prop where
  cls : clsIn K C = some cd
  dict : cd.hasDict = true
  mro : cd.mro = [.ref C, .type "list", .type "object"] ∨ cd.mro = [.ref C, .type "object"]
  sa : findIn K (.ref C) "__setattr__" = some (some (.builtin "object.__setattr__"))

theorem refuse_list (self : Value) (l : List Value) : refuseLoop self "__setattr__" (.type "list" :: l) = refuseLoop self "__setattr__" l := by
  have : classOwn (.type "list") "__setattr__" = pure none := by show pure (builtinOwn "list" "__setattr__") = _; rw [builtinOwn_eq_fast]; kernel_rfl
  unfold refuseLoop
  rw [List.forIn_cons]
  simp only [this]
  rfl

section
variable {prog : Program} {w : World} {A : Around} {E : Value → Shared → Prop} {K : Frag} {C d a : Addr} {cd : ClassData}
theorem setattr_ {s : Shared} {ox : Obj} {name : Str} {v : Value} {e : Dv} {l l' : List (Str × Dv)} {R : Unit → Shared → Prop} (H : StoreK K C cd) (X : K.In s.heap) (hx : s.heap.get? a = some ox) (hc : ox.cls = .ref C) (hnc : ∀ c, ox.data ≠ .cls c) (hdi : ox.dict = some d) (ad : a ≠ d)
    (hd : OR s.heap d (.idict l)) (ht : findIn K (.ref C) name = some none) (u : SetL name e l l') (hl : l.length ≤ 1000) (vr : VR s.heap v e)
    (k : ∀ s', Chg d s.heap s'.heap → OR s'.heap d (.idict l') → s'.os = s.os → s'.gens = s.gens → R () s') : wpAny (model prog w) A (setAttr (.ref a) name v) R E s := by
  obtain ⟨hh, gg, dd, tt, oo⟩ := s
  dsimp only at X hx hd vr k
  have SF := PySem.F.store_object
  have T : Looks (model prog w) hh (typeOf (.ref a)) (.ref C) := hc ▸ (Looks.ld hx).andThen .now
  have hm : Looks (model prog w) hh (mroOf (.ref C)) cd.mro := (looks_clsIn X H.cls).andThen .now
  have sub : Looks (model prog w) hh (isInstance (.ref a) (.type "object")) true := T.andThen (looks_mroIn X (by unfold mroIn; rw [H.cls, Option.bind_some]; rcases H.mro with q | q <;> rw [q] <;> rfl))
  unfold setAttr callSpecial?
  refine wpAny_bind (wpAny_mkText ?_)
  refine wpAny_bind (wpAny_bind (wpAny_bind (T.at ((looks_findIn X H.sa).at ?_))))
  refine wpAny_holding (wpAny_bind (wpAny_of_eq (SF.slot.bind _) ?_))
  refine wpAny_bind (wpAny_call (codeAny_call_builtin SF.slot.plain SF.entry (check_slot (s := ⟨hh, gg, dd, tt + 1, oo⟩) (i := "object.__setattr__") (owner := "object") (n := "__setattr__") SF.kind SF.split sub (SF.args (.ref a) (.str name tt) v) ?_)))
  show wpAny _ _ («object.__setattr__» ⟨[.ref a, .str name tt, v], []⟩) _ _ _
  rw [osa_eq, refuse_eq]
  refine wpAny_bind (wpAny_bind (T.at (wpAny_bind (hm.at ?_))))
  have hr : refuseLoop (.ref a) "__setattr__" cd.mro = pure () := by
    rcases H.mro with q | q <;> rw [q, refuseLoop_ref]
    · rw [refuse_list]; exact SF.passes _
    · exact SF.passes _
  rw [hr]
  refine wpAny_pure (wpAny_bind (T.at (wpAny_bind ((looks_findIn X ht).at (wpAny_bind (wpAny_pure ?_))))))
  show wpAny _ _ (storeInOwnDict (.ref a) (.ref C) (.str name tt) name v false) _ _ _
  obtain ⟨oc, odi, oda, osl⟩ := ox
  dsimp only at hc hdi
  subst hc hdi
  obtain ⟨es, n, D, en⟩ := hd
  obtain ⟨es', n', hput, hlen, hent⟩ := put_obj (v := v) (t := tt + 1) (hs := PyData.keyHash w.params name) (n := n) u en
  refine wpAny_bind (wpAny_pure (wpAny_bind (wpAny_bind (wpAny_loadPart hx (wpAny_bind ((looks_clsIn X H.cls).at ?_))))))
  rw [H.dict]
  refine wpAny_pure (a := some d) (wpAny_bind (wpAny_pure (wpAny_bind ?_)))
  unfold nsSet
  refine wpAny_bind (wpAny_bind (wpAny_askSetting (wpAny_pure (wpAny_bind (wpAny_mkText (wpAny_bind (wpAny_loadPart D ?_)))))))
  dsimp only
  have c : (!es.toArray.any (·.key.isStr name) && es.toArray.any (·.refKey)) = false := by
    rw [← Array.any_toList (p := fun e : DictEntry => e.refKey)]
    have := en.noRef
    simp only [this, Bool.and_false]
  rw [aRefKeyMayBeTheName_at, c]
  refine wpAny_updatePart D ?_
  have chg : Chg d hh (hh.update d (Obj.putName name (PyData.keyHash w.params name) (.str name (tt + 1)) v)) := ⟨fun b hb => Heap.get?_update_other _ _ (Ne.symm hb), _, D, by intro _ _ z; simp at z⟩
  have D' : (hh.update d (Obj.putName name (PyData.keyHash w.params name) (.str name (tt + 1)) v)).get? d = some { cls := .type "dict", data := .dict es'.toArray n' } := by
    rw [Heap.get?_update_self _ D (by rw [hput]; rfl), hput]
  refine wpAny_bind (wpAny_lookBehind D' (pastItsLine_dict (by rw [List.size_toArray, sizeLine_eq]; have := en.length; omega)) ?_)
  refine wpAny_pure ?_
  refine wpAny_pure (wpAny_pure ?_)
  exact k _ chg ⟨es', n', D', hent _ chg.pers (vr.mono chg.pers)⟩ rfl rfl
end
end Mine

end
section
open PySem PySem.W
open PyProof.Rows hiding wpAt wpAt_bind
open PySem.Builtin PySem.Builtin.ObjectAttr
set_option linter.unusedSectionVars false
set_option maxRecDepth 100000
set_option maxHeartbeats 1000000
set_option linter.unusedVariables false
set_option linter.unusedSimpArgs false
namespace Mine
variable [aI : Membership Nat Unit]

theorem lookIn_ents {h : Heap} {es : List DictEntry} {l : List (Str × Dv)} (x : Ents h es l) (n : Str) {e : Dv} (hl : l.lookup n = some e) (c : Value) (k : Nat) : ∃ v, lookIn n { cls := c, data := .dict es.toArray k } = some (some v) ∧ VR h v e := by
  have := x.find n
  rw [hl] at this
  obtain ⟨v, hv, vr⟩ := this
  refine ⟨v, ?_, vr⟩
  unfold nsFind findBy at hv
  unfold lookIn
  simp only [List.find?_toArray] at hv
  dsimp only
  cases q : es.find? (fun e => e.key.isStr n) with
  | none => rw [q] at hv; cases hv
  | some en => rw [q] at hv; cases hv; rfl

theorem lga_kind : builtinKind "list.__getattribute__" = some .slot := by decide +kernel
theorem lga_split : splitId "list.__getattribute__" = some ("list", "__getattribute__") := by decide +kernel
theorem lga_plain : plainId "list.__getattribute__" = true := by decide +kernel
theorem lga_args (a b : Value) : argsOk "list.__getattribute__" ⟨[a, b], []⟩ := by unfold argsOk; kernel_rfl
theorem lga_slot : Slot "list" "__getattribute__" "list.__getattribute__" := .of (owner := "list") (n := "__getattribute__") (by rw [typeLookup_type, builtinLookup_eq_fast]; kernel_rfl) (by decide +kernel) (by decide +kernel) (by decide +kernel)
  (by first | exact .inl (by decide +kernel) | exact .inr (by decide +kernel)) (by rw [isSubtype_type]; kernel_rfl)
section
variable {prog : Program} {w : World} {A : Around} {E : Value → Shared → Prop} {K : Frag} {C d a : Addr} {cd : ClassData}
theorem getattr_acc {s : Shared} {name : Str} {e : Dv} {vs : List Value} {n : Nat} {l : List (Str × Dv)} {R : Value → Shared → Prop} {expr : Bool} (H : AccK K C) (S : StoreK K C cd) (X : K.In s.heap) (hx : s.heap.get? a = some (accObj C d vs n)) (hd : OR s.heap d (.idict l))
    (ht : findIn K (.ref C) name = some none) (hl : l.lookup name = some e) (hcp : copiedNames.contains name = false)
    (k : ∀ v, handedIn v = true → VR s.heap v e → R v { s with toks := s.toks + 1 }) (hr : ∀ v, VR s.heap v e → handedIn v = true) : wpAny (model prog w) A (getAttr (.ref a) name expr) R E s := by
  obtain ⟨hh, gg, dd, tt, oo⟩ := s
  dsimp only at X hx hd k hr
  have T : Looks (model prog w) hh (typeOf (.ref a)) (.ref C) := (Looks.ld hx).andThen .now
  obtain ⟨es, m, D, en⟩ := hd
  obtain ⟨v, hv, vr⟩ := lookIn_ents en name hl (.type "dict") m
  have I : InstAt hh a (accObj C d vs n) C (some { cls := .type "dict", data := .dict es.toArray m }) := ⟨hx, rfl, rfl, D⟩
  have hf : findObj K C (some { cls := .type "dict", data := .dict es.toArray m }) name = some (.value v) := by
    unfold findObj
    rw [S.cls, Option.bind_some, ht, Option.bind_some]
    simp only [Option.bind_some]
    unfold W.ownOf
    rw [S.dict]
    simp only [if_true, hv, Option.bind_some]
  have L1 := looks_find (M := model prog w) X I hf
  unfold getAttr getAttrBy
  refine wpAny_bind (wpAny_mkText (wpAny_holding (wpAny_bind (T.at (wpAny_bind ((looks_findIn X H.ga).at ?_))))))
  show wpAny _ _ (getAttrByItsOwn (.ref a) (.str name tt) (.ref C) (.builtin "list.__getattribute__") true expr) _ _ _
  unfold getAttrByItsOwn hookBefore callGetattribute boundAndCalled
  refine wpAny_bind ((looks_findIn X H.gt).at ?_)
  refine wpAny_bind (wpAny_attempt (wpAny_holding ?_))
  have hcond : (expr && onTheHeap (.builtin "list.__getattribute__")) = false := by cases expr <;> rfl
  rw [hcond]
  simp only [Bool.false_eq_true, if_false]
  refine wpAny_bind (wpAny_of_eq (lga_slot.bind _) ?_)
  have fin : R v ⟨hh, gg, dd, tt + 1, oo⟩ := k v (hr v vr) vr
  have hsub : Looks (model prog w) hh (isInstance (.ref a) (.type "list")) true := T.andThen (looks_mroIn X H.sub)
  refine wpAny_mono (Q := fun u s' => u = v ∧ s' = ⟨hh, gg, dd, tt + 1, oo⟩) (E := fun _ _ => False) (call_bi (.inr lga_kind) lga_split lga_plain PySem.F.entry_list_ga (lga_args _ _) hsub ?_) (fun u s' hu => ?_) fun _ _ z => z.elim
  · unfold Builtin.«object.__getattribute__»
    repeat (first | (with_reducible refine Looks.at T ?_) | (with_reducible refine Looks.at L1 ?_) | wp_step)
    all_goals exact ⟨v, rfl, rfl, rfl⟩
  · obtain ⟨rfl, rfl⟩ := hu
    show wpAny _ _ (handedOut u) _ _ _
    rw [handedOut_of (hr _ vr)]; exact wpAny_pure fin
end
end Mine

end
section
open PySem PySem.W
open PyProof.Rows hiding wpAt wpAt_bind
open PySem.Builtin PySem.Builtin.ObjectAttr
set_option linter.unusedSectionVars false
set_option maxRecDepth 100000
set_option maxHeartbeats 1000000
set_option linter.unusedVariables false
set_option linter.unusedSimpArgs false
namespace Mine
variable [aI : Membership Nat Unit]

section
variable {prog : Program} {w : World} {A : Around} {E : Value → Shared → Prop} {K : Frag} {C d a : Addr} {s : Shared}

theorem slice_parts {sl : Addr} {vl vu vt : Value} {lo hi st : Option Int} {R : Value × Value × Value → Shared → Prop} (hs : s.heap.get? sl = some { cls := .type "slice", data := .fields #[vl, vu, vt] }) (pl : IsPart vl lo) (pu : IsPart vu hi) (pt : IsPart vt st) (h0 : st ≠ some 0)
    (k : R (rawPart lo, rawPart hi, rawPart st) s) : wpAny (model prog w) A (Builtin.List.listSliceParts (.ref sl)) R E s := by
  rw [listSliceParts_eq]
  have hstep : ¬ ((rawPart st == rawInt 0) = true) := by
    cases st with
    | none => exact Bool.false_ne_true
    | some c =>
      intro hh
      have : c = 0 := by simpa [rawPart, rawInt] using hh
      exact h0 (by rw [this])
  refine wpAny_bind (wpAny_field hs rfl (x := vt) rfl (wpAny_bind (wpAny_listPart pt ?_)))
  rw [if_neg hstep]
  refine wpAny_bind (wpAny_field hs rfl (x := vl) rfl (wpAny_bind (wpAny_listPart pl ?_)))
  exact wpAny_bind (wpAny_field hs rfl (x := vu) rfl (wpAny_bind (wpAny_listPart pu (wpAny_pure k))))
theorem slice_sub {sl : Addr} {vl vu vt : Value} {R : Option Int → Shared → Prop} (hs : s.heap.get? sl = some { cls := .type "slice", data := .fields #[vl, vu, vt] }) (k : R none s) : wpAny (model prog w) A (Builtin.List.listSubscript? (.ref sl)) R E s := by
  have hTs : s.TypeIs (.ref sl) "slice" := ⟨_, hs, rfl⟩
  unfold Builtin.List.listSubscript?
  refine wpAny_bind (wpAny_specialOf hTs slice_no_index ?_)
  simp only [Option.isNone_none, if_true]
  exact wpAny_pure k
theorem gi_kind : builtinKind "list.__getitem__" = some .slot ∨ builtinKind "list.__getitem__" = some .method := by decide +kernel
theorem gi_split : splitId "list.__getitem__" = some ("list", "__getitem__") := by decide +kernel
theorem si_kind : builtinKind "list.__setitem__" = some .slot ∨ builtinKind "list.__setitem__" = some .method := by decide +kernel
theorem si_split : splitId "list.__setitem__" = some ("list", "__setitem__") := by decide +kernel
theorem si_entry : entryFor table "list.__setitem__" = some Builtin.«list.__setitem__» := entryFor_of_tree (by kernel_rfl)
theorem si_plain : plainId "list.__setitem__" = true := by decide +kernel
theorem si_args (a b c : Value) : argsOk "list.__setitem__" ⟨[a, b, c], []⟩ := by unfold argsOk; kernel_rfl
theorem si_slot : Slot "list" "__setitem__" "list.__setitem__" := .of (owner := "list") (n := "__setitem__") (by rw [typeLookup_type, builtinLookup_eq_fast]; kernel_rfl) (by decide +kernel) (by decide +kernel) (by decide +kernel)
  (by first | exact .inl (by decide +kernel) | exact .inr (by decide +kernel)) (by rw [isSubtype_type]; kernel_rfl)
theorem seqKey_acc {vs : List Value} {n : Nat} {name : Str} {i : Value} {R : Value → Shared → Prop} (H : AccK K C) (X : K.In s.heap) (hx : s.heap.get? a = some (accObj C d vs n)) (k : R i s) : wpAny (model prog w) A (sequenceKey (.ref a) i name) R E s := by
  have T : Looks (model prog w) s.heap (typeOf (.ref a)) (.ref C) := (Looks.ld hx).andThen .now
  unfold sequenceKey
  refine wpAny_bind (T.here ?_)
  refine wpAny_bind ((anyM_none X H.nos).here ?_)
  rw [if_pos (show (!false) = true from rfl)]
  exact wpAny_pure k

theorem acc_getslice {sl : Addr} {vs : List Value} {n : Nat} {vl vu vt : Value} {lo hi st : Option Int} {R : Value → Shared → Prop} (H : AccK K C) (X : K.In s.heap) (hx : s.heap.get? a = some (accObj C d vs n)) (hl : vs.length ≤ 1000000)
    (hs : s.heap.get? sl = some { cls := .type "slice", data := .fields #[vl, vu, vt] }) (pl : IsPart vl lo) (pu : IsPart vu hi) (pt : IsPart vt st) (h0 : st ≠ some 0)
    (k : R (.ref s.heap.objs.size) { s with heap := s.heap.push { cls := .type "list", data := .seq (slicePick vs.toArray lo hi st) } }) : wpAny (model prog w) A (getItem (.ref a) (.ref sl)) R E s := by
  have T : Looks (model prog w) s.heap (typeOf (.ref a)) (.ref C) := (Looks.ld hx).andThen .now
  have hsub : Looks (model prog w) s.heap (isInstance (.ref a) (.type "list")) true := T.andThen (looks_mroIn X H.sub)
  unfold getItem callSpecial?
  refine wpAny_holding (wpAny_bind (seqKey_acc H X hx ?_))
  refine wpAny_bind (wpAny_bind (wpAny_bind (T.here ((looks_findIn X H.gi).here ?_))))
  refine wpAny_holding (wpAny_bind (wpAny_of_eq (slot_list_getitem.bind _) ?_))
  refine wpAny_bind (call_bi gi_kind.symm gi_split slot_list_getitem.plain entry_list_getitem (args_list_getitem _ _) hsub ?_)
  show wpAny _ _ (Builtin.List.listSubscript? (.ref sl) >>= _) _ _ s
  refine wpAny_bind (slice_sub hs ?_)
  show wpAny _ _ (typeOf (.ref sl) >>= _) _ _ s
  refine wpAny_bind (wpAny_typeOf (T := "slice") ⟨_, hs, rfl⟩ ?_)
  rw [if_neg (by decide)]
  refine wpAny_bind (slice_parts hs pl pu pt h0 ?_)
  refine wpAny_bind (m := Builtin.List.listItems (.ref a)) ?_
  unfold Builtin.List.listItems
  refine wpAny_bind (wpAny_seqItems hx rfl (wpAny_pure ?_))
  refine wpAny_bind (wpAny_of_eq (sliceIndices_raw lo hi st vs.toArray.size h0) ?_)
  refine wpAny_bind (wpAny_newObj_type (wpAny_pure ⟨_, rfl, wpAny_pure (wpAny_pure k)⟩) ?_)
  exact Nat.le_trans (slicePick_size_le vs.toArray lo hi st) (by rw [List.size_toArray]; unfold sizeLine; omega)

theorem set_size {n m a b : Nat} (hl : n ≤ 1000000) (hw : m ≤ 1000000) : min a n + (m + (n - b)) ≤ sizeLine + 1 :=
  Nat.le_trans (Nat.add_le_add (Nat.le_trans (Nat.min_le_right _ _) hl) (Nat.add_le_add hw (Nat.le_trans (Nat.sub_le _ _) hl))) (by decide)
theorem acc_setslice {sl b : Addr} {vs ws : List Value} {n m : Nat} {vl vu vt : Value} {lo hi : Option Int} {R : Unit → Shared → Prop} (H : AccK K C) (X : K.In s.heap) (hx : s.heap.get? a = some (accObj C d vs n)) (hb : s.heap.get? b = some (lstObj ws m)) (hab : a ≠ b) (hl : vs.length ≤ 1000000) (hw : ws.length ≤ 1000000)
    (hs : s.heap.get? sl = some { cls := .type "slice", data := .fields #[vl, vu, vt] }) (pl : IsPart vl lo) (pu : IsPart vu hi) (pt : IsPart vt none)
    (k : R () { s with heap := s.heap.update a (Obj.mapSeq fun xs => xs.extract 0 (sliceBounds lo hi none vs.length).1.toNat ++ ws.toArray ++ xs.extract (max (sliceBounds lo hi none vs.length).1 (sliceBounds lo hi none vs.length).2.1).toNat xs.size) }) :
    wpAny (model prog w) A (setItem (.ref a) (.ref sl) (.ref b)) R E s := by
  have T : Looks (model prog w) s.heap (typeOf (.ref a)) (.ref C) := (Looks.ld hx).andThen .now
  have hsub : Looks (model prog w) s.heap (isInstance (.ref a) (.type "list")) true := T.andThen (looks_mroIn X H.sub)
  unfold setItem callSpecial?
  refine wpAny_holding (wpAny_bind (seqKey_acc H X hx ?_))
  refine wpAny_bind (wpAny_bind (wpAny_bind (T.here ((looks_findIn X H.si).here ?_))))
  refine wpAny_holding (wpAny_bind (wpAny_of_eq (si_slot.bind _) ?_))
  refine wpAny_bind (call_bi si_kind.symm si_split si_plain si_entry (si_args _ _ _) hsub ?_)
  show wpAny _ _ (Builtin.List.listSubscript? (.ref sl) >>= _) _ _ s
  refine wpAny_bind (slice_sub hs ?_)
  show wpAny _ _ (typeOf (.ref sl) >>= _) _ _ s
  refine wpAny_bind (wpAny_typeOf (T := "slice") ⟨_, hs, rfl⟩ ?_)
  rw [if_neg (by decide)]
  refine wpAny_bind (slice_parts hs pl pu pt (by simp) ?_)
  have hsr : Builtin.List.listSameRef (.ref a) (.ref b) = false := by simp [Builtin.List.listSameRef, hab]
  simp only [hsr, Bool.false_eq_true, if_false]
  refine wpAny_bind (m := Builtin.List.listAllItems (.ref b) _) ?_
  unfold Builtin.List.listAllItems
  refine wpAny_bind (wpAny_typeOf (T := "list") ⟨_, hb, rfl⟩ ?_)
  rw [if_pos (by rfl)]
  unfold Builtin.List.listItems
  refine wpAny_bind (wpAny_seqItems hb rfl (wpAny_pure ?_))
  refine wpAny_bind (wpAny_bind (wpAny_seqItems hx rfl (wpAny_pure ?_)))
  refine wpAny_bind (wpAny_of_eq (sliceIndices_raw lo hi none vs.toArray.size (by simp)) ?_)
  have hb3 : (sliceBounds lo hi none vs.toArray.size).2.2 = 1 := rfl
  have htl : Builtin.List.listTooLong (vs.toArray.size + ws.toArray.size) = false := by
    unfold Builtin.List.listTooLong
    simp only [List.size_toArray]
    exact decide_eq_false (by unfold sizeLine; omega)
  simp only [hb3, beq_self_eq_true, if_true]
  refine wpAny_bind (wpAny_rule ?_)
  simp only [htl, Bool.false_eq_true, if_false]
  refine wpAny_bind (m := Builtin.List.listUpdate (.ref a) _) ?_
  unfold Builtin.List.listUpdate
  refine wpAny_updateSeq hx rfl ?_ (by rw [List.size_toArray]; exact Nat.le_trans hl (by decide)) (by simp; exact set_size hl hw)
  refine wpAny_bind (wpAny_letGo (wpAny_pure ⟨_, rfl, wpAny_pure (wpAny_pure ?_)⟩))
  simp only [List.size_toArray]
  exact k
end
end Mine

end
section
open PySem PySem.W
open PyProof.Rows hiding wpAt wpAt_bind
open PySem.Builtin PySem.Builtin.ObjectAttr
set_option linter.unusedSectionVars false
set_option maxRecDepth 100000
set_option maxHeartbeats 1000000
set_option linter.unusedVariables false
set_option linter.unusedSimpArgs false
namespace Mine
variable [aI : Membership Nat Unit]
section
variable {Γ : Fm} {loc : Loc} {own own' : Own} {Q : QV} {QQ : QF}

noncomputable def plainDv : Dv → Bool
  | .raw (.builtin _) => false
  | _ => true
theorem handed_plain {h : Heap} {v : Value} {d : Dv} (hp : plainDv d = true) (vr : VR h v d) : handedIn v = true := by
  cases vr with
  | raw => cases v <;> first | rfl | cases hp
  | _ => rfl

noncomputable def putS (ds : List Dv) (lo hi : Option Int) (es : List Dv) : List Dv :=
  ds.take (sliceBounds lo hi none ds.length).1.toNat ++ es ++ ds.drop (max (sliceBounds lo hi none ds.length).1 (sliceBounds lo hi none ds.length).2.1).toNat
inductive AttrOf (Γ : Fm) (cd : ClassData) (name : Str) (e : Dv) (R : Prop) (v : Dv) (own : Own) : Prop
  | mk (a C d : Addr) (ds : List Dv) (l : List (Str × Dv)) : v = .raw (.ref a) → AccK Γ.K C → StoreK Γ.K C cd → HasO a (.acc C d ds) own → HasO d (.idict l) own → findIn Γ.K (.ref C) name = some none → l.lookup name = some e → R → AttrOf Γ cd name e R v own
inductive AttrTo (Γ : Fm) (cd : ClassData) (name : Str) (e : Dv) (R : Own → Prop) (v : Dv) (own : Own) : Prop
  | mk (a C d : Addr) (ds : List Dv) (l l' : List (Str × Dv)) (own' : Own) : v = .raw (.ref a) → StoreK Γ.K C cd → HasO a (.acc C d ds) own → findIn Γ.K (.ref C) name = some none → SetL name e l l' → l.length ≤ 1000 → Upd d (.idict l) (.idict l') own own' → R own' → AttrTo Γ cd name e R v own
inductive SlcTo (Γ : Fm) (d : Dv) (R : Own → Prop) (v i : Dv) (own : Own) : Prop
  | mk (a b sl C dd : Addr) (ds es : List Dv) (l u : Dv) (lo hi : Option Int) (own' : Own) : v = .raw (.ref a) → i = .raw (.ref sl) → d = .raw (.ref b) → AccK Γ.K C → HasO sl (.slc l u .none) own → PartD l lo → PartD u hi → HasO b (.list es) own →
      ds.length ≤ 1000000 → es.length ≤ 1000000 → Upd a (.acc C dd ds) (.acc C dd (putS ds lo hi es)) own own' → R own' → SlcTo Γ d R v i own
theorem ev_attr {o : PySem.Expr} {name : Str} {pos : Pos} {e : Dv} {cd : ClassData} (hb : attributeBase o name Γ.env (eval o Γ.env) = eval o Γ.env) (hcp : copiedNames.contains name = false) (hp : plainDv e = true)
    (x : Ev Γ loc own o fun v loc own => AttrOf Γ cd name e (Q e loc own) v own) : Ev Γ loc own (.Attribute o name pos) Q := by
  intro h₀ s g rel
  rw [arm_eval_Attribute, hb]
  refine wpAny_bind (x.use g rel fun v loc own s1 vv p1 r1 v1 ⟨a, C, d, ds, l, hv, H, S, ha, hd, hf, hl, q⟩ => ?_)
  subst hv
  cases v1
  obtain ⟨vs, n, ho, rr⟩ := r1.ow.at_ _ ha.mem
  refine wpAny_bind (wpAny_standAt (wpAny_bind (wpAny_holding (getattr_acc H S (g.kin.keeps r1.ow.keep) ho (r1.ow.at_ _ hd.mem) hf hl hcp (fun v hv vr => ?_) fun v vr => handed_plain hp vr))))
  exact wpAny_bind (wpAny_letTemporaryGo (wpAny_pure ⟨_, _, _, p1.trans (Pers.st .refl), r1, vr, q⟩))

theorem sub_acc_slice {value slice : PySem.Expr} {a sl C d : Addr} {ds : List Dv} {l u t : Dv} {lo hi st : Option Int} (H : AccK Γ.K C) (ha : HasO a (.acc C d ds) own) (hs : HasO sl (.slc l u t) own) (pl : PartD l lo) (pu : PartD u hi) (pt : PartD t st) (h0 : st ≠ some 0) (hl : ds.length ≤ 1000000)
    (q : ∀ b, Q (.raw (.ref b)) loc ((b, .list (pickL ds lo hi st)) :: own)) : Sub Γ loc own value slice (.raw (.ref a)) (.raw (.ref sl)) Q := by
  intro h₀ s v w g rel x y
  cases x; cases y
  obtain ⟨vs, n, ho, r⟩ := rel.ow.at_ _ ha.mem
  obtain ⟨vl, vu, vt, os, r1, r2, r3⟩ := rel.ow.at_ _ hs.mem
  obtain ⟨ws, hw, rw'⟩ := pick_slice r lo hi st
  obtain ⟨ops, hops⟩ := subscripted_any slice (.ref a) (.ref sl)
  have X := g.kin.keeps rel.ow.keep
  have T : Looks (model Γ.prog Γ.w) s.heap (typeOf (.ref a)) (.ref C) := (Looks.ld ho).andThen .now
  unfold subscriptTail getitemInPython
  refine wpAny_bind (wpAny_bind (wpAny_bind (T.here ((looks_findIn X H.gi).here (wpAny_pure ?_)))))
  rw [hops]
  refine wpAny_bind (wpAny_operating (acc_getslice H X ho (by rw [r.length]; exact hl) os (pl.is r1) (pu.is r2) (pt.is r3) h0 ?_))
  rw [hw]
  have ex : Ext s.heap (s.heap.push (lstObj ws 0)) := Ext.push _
  exact wpAny_bind (wpAny_letTemporaryGo (wpAny_pure ⟨_, _, _, (Ext.pers ex).st, rel.more (o := .list (pickL ds lo hi st)) ex (get_size_none _) ⟨ws, 0, Heap.get?_push_size _ rfl, rw'.mono (Ext.pers ex)⟩, .raw _, q _⟩))

theorem as_slice {o : PySem.Expr} {lo' hi' : Option PySem.Expr} {p pos : Pos} {d : Dv} {Q : Loc → Own → Prop}
    (x : Ev Γ loc own o fun v loc own => Ev Γ loc own (.Slice lo' hi' none p) fun i loc own => SlcTo Γ d (Q loc) v i own) : As Γ loc own (.Subscript o (.Slice lo' hi' none p) pos) d Q := by
  intro h₀ s v g rel vr
  rw [arm_assign_Subscript]
  refine wpAny_bind (wpAny_holding (x.use g rel fun ov _ _ s1 vo p1 r1 v1 q1 => wpAny_bind (wpAny_holding (q1.use g r1 fun iv loc own s2 vi p2 r2 v2 ⟨a, b, sl, C, dd, ds, es, l, u, lo, hi, own', e1, e2, e3, H, hsl, pl, pu, hb, hl, he, up, q⟩ => ?_))))
  subst e1 e2 e3
  cases v1; cases v2; cases vr
  refine wpAny_bind (wpAny_standAt (wpAny_bind (wpAny_holding ?_)))
  obtain ⟨vs, n, ho, r⟩ := r2.ow.at_ _ up.mem
  obtain ⟨ws, m, hob, rb⟩ := r2.ow.at_ _ hb.mem
  obtain ⟨vl, vu, vt, os, k1, k2, k3⟩ := r2.ow.at_ _ hsl.mem
  have hab : a ≠ b := by
    rintro rfl
    rw [ho] at hob; simp at hob
  have hln : vs.length = ds.length := r.length
  have X := g.kin.keeps r2.ow.keep
  refine acc_setslice H X ho hob hab (by omega) (by rw [rb.length]; omega) os (pl.is k1) (pu.is k2) (PartD.none.is k3) ?_
  have hres := seq_upd (K := Γ.K) (ws := vs.take (sliceBounds lo hi none vs.length).1.toNat ++ ws ++ vs.drop (max (sliceBounds lo hi none vs.length).1 (sliceBounds lo hi none vs.length).2.1).toNat)
    (f := fun xs => xs.extract 0 (sliceBounds lo hi none vs.length).1.toNat ++ ws.toArray ++ xs.extract (max (sliceBounds lo hi none vs.length).1 (sliceBounds lo hi none vs.length).2.1).toNat xs.size) r2 up (.acc H) ho rfl (by intro _ _ z; simp at z)
    (by
      apply Array.ext'
      simp [List.extract_eq_take_drop]
      rw [List.take_of_length_le (by simp)])
    (by
      unfold putS
      rw [hln]
      exact ((r.take _).append rb).append (r.drop _))
    (fun h' ws k es e z ds' v => ⟨es, k, by rw [e, z], v⟩)
  exact wpAny_release ⟨_, _, (p1.trans p2).trans hres.1.st, hres.2, q⟩

theorem as_attr {o : PySem.Expr} {name : Str} {pos : Pos} {e : Dv} {cd : ClassData} {Q : Loc → Own → Prop}
    (x : Ev Γ loc own o fun v loc own => AttrTo Γ cd name e (Q loc) v own) : As Γ loc own (.Attribute o name pos) e Q := by
  intro h₀ s v g rel vr
  rw [arm_assign_Attribute]
  refine wpAny_bind (wpAny_holding (x.use g rel fun ov loc own s1 vo p1 r1 v1 ⟨a, C, d, ds, l, l', own', e1, S, ha, hf, sl, hl, up, q⟩ => ?_))
  subst e1
  cases v1
  refine wpAny_bind (wpAny_standAt (wpAny_bind (wpAny_holding ?_)))
  obtain ⟨vs, n, ho, r⟩ := r1.ow.at_ _ ha.mem
  have hd := r1.ow.at_ _ up.mem
  have had : a ≠ d := by
    rintro rfl
    obtain ⟨es, k, z, _⟩ := hd
    rw [ho] at z; simp at z
  refine setattr_ S (g.kin.keeps r1.ow.keep) ho rfl (by simp) rfl had hd hf sl hl (vr.mono p1.p) fun s2 ch on ho2 hg2 => ?_
  exact wpAny_release ⟨_, _, p1.trans (ch.pers.st ho2 hg2), r1.upd up ch on, q⟩

theorem ex_assign1 {tg e : PySem.Expr} {pos : Pos} (he : exec (.Assign [tg] e pos) Γ.env = (do standAt pos; let v ← eval e Γ.env; assignAll v [assign tg Γ.env]; pure .next))
    (x : Ev Γ loc own e fun d loc own => As Γ loc own tg d fun loc own => QQ .next loc own) : Ex Γ loc own (.Assign [tg] e pos) QQ := by
  intro h₀ s g rel
  rw [he]
  refine wpAny_bind (wpAny_standAt (wpAny_bind (x.use g rel fun d loc own s1 v p1 r1 v1 q => ?_)))
  refine wpAny_bind ?_
  have z := q h₀ s1 v g r1 v1
  unfold assignAll
  exact wpAny_mono z (fun _ s2 ⟨loc, own, p, r, q⟩ => wpAny_pure ⟨_, _, _, p1.trans p, r, .next, q⟩) fun _ _ y => y
end
end Mine

end
section
open PySem PySem.W
open PyProof.Rows hiding wpAt wpAt_bind
open PySem.Builtin PySem.Builtin.ObjectAttr
set_option linter.unusedSectionVars false
set_option maxRecDepth 100000
set_option maxHeartbeats 1000000
set_option linter.unusedVariables false
set_option linter.unusedSimpArgs false
namespace Mine
variable [aI : Membership Nat Unit]
section
variable {Γ : Fm} {loc : Loc} {own own' : Own} {Q : QV} {QQ : QF}

noncomputable def AsL (Γ : Fm) (loc : Loc) (own : Own) (ts : List PySem.Expr) (ds : List Dv) (Q : Loc → Own → Prop) : Prop := match ts, ds with
  | [], [] => Q loc own
  | t :: ts, d :: ds => As Γ loc own t d fun loc own => AsL Γ loc own ts ds Q
  | _, _ => False
theorem asL_go {h₀ : Heap} : ∀ {ts : List PySem.Expr} {ds : List Dv} {vs : List Value} {loc : Loc} {own : Own} {Q : Loc → Own → Prop} {h : Shared} {s : Shared}, plainArgs ts = true → AsL Γ loc own ts ds Q → Gd Γ.K h₀ → Rel h₀ Γ.env.locals loc own s.heap → VRs s.heap vs ds → Stays h s →
    wpAny (model Γ.prog Γ.w) Γ.A (assignInOrder ((assignEach ts Γ.env).map (·.2)) vs) (fun _ => OutU h₀ Γ.env.locals h Q) Γ.E s
  | [], [], _, _, _, _, _, _, _, x, g, r, v, p => by cases v; exact wpAny_pure ⟨_, _, p, r, x⟩
  | [], _ :: _, _, _, _, _, _, _, _, x, _, _, _, _ => x.elim
  | _ :: _, [], _, _, _, _, _, _, _, x, _, _, _, _ => x.elim
  | t :: ts, d :: ds, _, _, _, _, _, _, hp, x, g, r, v, p => by
    cases v with
    | cons v1 v2 =>
      have he : assignEach (t :: ts) Γ.env = (false, assign t Γ.env) :: assignEach ts Γ.env := by cases t <;> first | rfl | cases hp
      rw [he]
      show wpAny _ _ (holding _ (assign t Γ.env _) >>= fun _ => assignInOrder ((assignEach ts Γ.env).map (·.2)) _) _ _ _
      refine wpAny_bind (wpAny_holding (wpAny_mono (x h₀ _ _ g r v1) (fun _ s2 ⟨loc, own, p2, r2, q2⟩ => ?_) fun _ _ z => z))
      exact asL_go (plain_tail hp) q2 g r2 (v2.mono p2.p) (p.trans p2)
theorem assignEach_len {env : Env} : ∀ {ts : List PySem.Expr}, plainArgs ts = true → (assignEach ts env).length = ts.length ∧ (assignEach ts env).findIdx? (·.1) = none
  | [], _ => ⟨rfl, rfl⟩
  | t :: ts, h => by
    have he : assignEach (t :: ts) env = (false, assign t env) :: assignEach ts env := by cases t <;> first | rfl | cases h
    obtain ⟨a, b⟩ := assignEach_len (env := env) (plain_tail h)
    rw [he]
    exact ⟨by rw [List.length_cons, a, List.length_cons], by rw [List.findIdx?_cons, b]; rfl⟩
theorem as_tuple {ts : List PySem.Expr} {k : Nat} {pos : Pos} {ds : List Dv} {Q : Loc → Own → Prop} (hp : plainArgs ts = true) (hl : ts.length = ds.length) (x : AsL Γ loc own ts ds Q) : As Γ loc own (.Tuple ts k pos) (.tup ds) Q := by
  intro h₀ s v g rel vr
  obtain ⟨a, vs, n, rfl, o, r⟩ := tup_inv vr
  obtain ⟨l1, l2⟩ := assignEach_len (env := Γ.env) hp
  refine assign_Tuple_tuple Γ.hh (items := vs.toArray) ⟨_, o, rfl, _, rfl⟩ (by rw [l1, hl, List.size_toArray, r.length]) l2 fun h' eb => ?_
  have ex : Ext s.heap h' := fun b o e => eb b o (Nat.ne_of_lt (Heap.lt_size e)) e
  exact asL_go hp x g (rel.ext ex) (r.mono (Ext.pers ex)) (Ext.pers ex).st

end
end Mine

end
section
open PySem PySem.W
open PyProof.Rows hiding wpAt wpAt_bind
open PySem.Builtin PySem.Builtin.ObjectAttr
set_option linter.unusedSectionVars false
set_option maxRecDepth 100000
set_option maxHeartbeats 1000000
set_option linter.unusedVariables false
set_option linter.unusedSimpArgs false
namespace Mine
variable [aI : Membership Nat Unit]
section
variable {prog : Program} {w : World} {A : Around} {E : Value → Shared → Prop} {a : Addr} {s : Shared}
theorem pop_plain : plainId "list.pop" = true := by decide +kernel
theorem pop_entry : entryFor table "list.pop" = some Builtin.«list.pop» := entryFor_of_tree (by kernel_rfl)
theorem bi_pop {ob : Obj} {vs : List Value} {n : Nat} {x : Value} {R : PySem.Fin → Shared → Prop} (ho : s.heap.get? a = some ob) (hd : ob.data = .seq vs.toArray n) (hx : vs.getLast? = some x) (hl : vs.length ≤ 1000000)
    (k : R (.done (.ret x)) { s with heap := s.heap.update a (Obj.mapSeq (·.eraseIdxIfInBounds (vs.length - 1))) }) : wpAny (model prog w) A (Builtin.«list.pop» ⟨[.ref a], []⟩) R E s := by
  have hne : vs ≠ [] := by rintro rfl; cases hx
  have hpos : 0 < vs.length := List.length_pos_iff.mpr hne
  have hsi : seqIndex? (-1) vs.toArray.size = some (vs.length - 1) := by
    rw [seqIndex_neg (by decide) (by rw [List.size_toArray]; omega)]
    congr 1
    rw [List.size_toArray]; omega
  have hg : vs.toArray[vs.length - 1]? = some x := by
    rw [List.getElem?_toArray, ← List.getLast?_eq_getElem?]; exact hx
  have hem : vs.toArray.isEmpty = false := by cases vs <;> first | rfl | exact absurd rfl hne
  show wpAny _ _ (Builtin.List.listItems (.ref a) >>= _) _ _ s
  unfold Builtin.List.listItems
  refine wpAny_bind (wpAny_bind (wpAny_seqItems ho hd (wpAny_pure ?_)))
  simp only [hem, Bool.false_eq_true, if_false, hsi, hg, Option.bind_some, Option.map_some]
  refine wpAny_bind (m := Builtin.List.listUpdate (.ref a) _) ?_
  unfold Builtin.List.listUpdate
  exact wpAny_updateSeq ho hd (wpAny_pure k) (by rw [List.size_toArray]; unfold sizeLine; omega) (Nat.le_trans (MeetsSeq.size_erased _ _) (by rw [List.size_toArray]; unfold sizeLine; omega))
theorem erase_last {vs : List Value} : (vs.toArray.eraseIdxIfInBounds (vs.length - 1)) = vs.dropLast.toArray := by
  unfold Array.eraseIdxIfInBounds
  split
  · rename_i h
    simp
  · rename_i h
    have : vs = [] := by
      cases vs with
      | nil => rfl
      | cons a l => simp at h
    subst this; rfl
theorem erase_first {v : Value} {vs : List Value} : ((v :: vs).toArray.eraseIdxIfInBounds 0) = vs.toArray := by
  unfold Array.eraseIdxIfInBounds
  simp
end
section
variable {Γ : Fm} {loc : Loc} {own own' : Own} {Q : QV} {QQ : QF}
theorem VRs.getLast {h : Heap} {vs : List Value} {ds : List Dv} {d : Dv} (x : VRs h vs (ds ++ [d])) : ∃ v, vs.getLast? = some v ∧ VR h v d ∧ VRs h vs.dropLast ds := by
  have hl := x.length
  obtain ⟨v, hv, vr⟩ := x.get' (k := ds.length) (d := d) (by simp)
  refine ⟨v, ?_, vr, ?_⟩
  · rw [List.getLast?_eq_getElem?, hl]; simpa using hv
  · have := x.take ds.length
    rw [List.take_left' rfl] at this
    rwa [List.dropLast_eq_take, hl, show (ds ++ [d]).length - 1 = ds.length by simp]
theorem op_pop0 {a : Addr} {ds : List Dv} {d : Dv} (u : Upd a (.list (d :: ds)) (.list ds) own own') (hl : ds.length ≤ 100000) (q : Q d loc own') : OpN Γ loc own [.raw (.ref a), .int 0] (fun vs => call (.builtin "list.pop") vs) Q := by
  intro h₀ s vs g rel vr
  cases vr with
  | cons x y =>
    cases x
    cases y with
    | cons y z =>
      cases z; cases y
      rename_i t
      obtain ⟨vs, n, ho, hv⟩ := rel.ow.at_ _ u.mem
      cases hv with
      | cons v1 v2 =>
        rename_i v vs
        have hln := v2.length
        refine call_meets F.slot_list_pop ⟨_, ho, rfl⟩ F.entry_list_pop (F.args_list_pop_2 _ _) (MeetsSeq.list_pop_at a (v :: vs).toArray n 0 t 0 v (by decide) (seqIndex_of (by decide) (by simp)) rfl (by rw [List.size_toArray]; simp; unfold sizeLine; omega)) ⟨ho, ?_⟩
        obtain ⟨p, r⟩ := seq_upd (K := Γ.K) (ws := vs) (f := fun xs => xs.eraseIdxIfInBounds 0) rel u (.list) ho rfl (by intro _ _ z; simp at z) erase_first v2 (fun h' ws k es e z ds' v => ⟨es, k, by rw [e, z], v⟩)
        exact ⟨_, _, _, p.st, r, v1.mono p, q⟩
theorem op_cat_list {a b : Addr} {ds es : List Dv} (ha : HasO a (.list ds) own) (hb : HasO b (.list es) own) (hl : ds.length + es.length ≤ 1000000) (q : ∀ c, Q (.raw (.ref c)) loc ((c, .list (ds ++ es)) :: own)) : Op2 Γ loc own (.raw (.ref a)) (.raw (.ref b)) (binaryOp .Add) Q := by
  intro h₀ s v u g rel x y
  cases x; cases y
  obtain ⟨vs, n, ho, r⟩ := rel.ow.at_ _ ha.mem
  obtain ⟨ws, m, ho', r'⟩ := rel.ow.at_ _ hb.mem
  refine P.add_list ho ho' ?_ (by rw [List.size_toArray, List.size_toArray, r.length, r'.length]; unfold sizeLine; omega)
  have ex : Ext s.heap (s.heap.push (lstObj (vs ++ ws) 0)) := Ext.push _
  have e : ({ cls := .type "list", data := .seq (vs.toArray ++ ws.toArray) } : Obj) = lstObj (vs ++ ws) 0 := by simp
  rw [e]
  exact ⟨_, _, _, (Ext.pers ex).st, rel.more (o := .list (ds ++ es)) ex (get_size_none _) ⟨vs ++ ws, 0, Heap.get?_push_size _ rfl, (r.append r').mono (Ext.pers ex)⟩, .raw _, q _⟩
end
end Mine

end
section
open PySem PySem.W PySem.Builtin PySem.Builtin.ObjectAttr
open PyProof.Rows hiding wpAt wpAt_bind
set_option linter.unusedSectionVars false
set_option maxRecDepth 100000
set_option maxHeartbeats 1000000
set_option linter.unusedVariables false
namespace Mine
variable [aI : Membership Nat Unit]

noncomputable def makesLIn (K : Frag) (C : Addr) : Bool := match K.lookup C with
  | some ⟨_, _, .cls cd, sl⟩ => !cd.abstract && !cd.hasDel && (sl.toList[4]?).join == some (.builtin "list.__new__") && !cd.mro.isEmpty && cd.mro.contains (.ref C) && cd.mro.contains (.type "list") &&
      specialIn K (.ref C) "__call__" == some (some (.builtin "type.__call__")) && instIn K (.ref C) (.type "type") == some true
  | _ => false
structure MakesL (M : Model) (h : Heap) (C : Addr) : Prop where
  obj : ∃ oc od cd sl, h.get? C = some ⟨oc, od, .cls cd, sl⟩ ∧ cd.abstract = false ∧ cd.hasDel = false ∧ cd.mro.isEmpty = false
  made : Looks M h (Bind.madeBy (.ref C)) (some "list.__new__")
  base : Looks M h (Bind.staticBase (.ref C)) (.ref C)
  self : Looks M h (isSubtype (.ref C) (.ref C)) true
  top : Looks M h (isSubtype (.ref C) (.type "list")) true
  call : Looks M h (specialOf (.ref C) "__call__") (some (.builtin "type.__call__"))
  typ : Looks M h (isInstance (.ref C) (.type "type")) true
theorem makesL_of {K : Frag} {M : Model} {h : Heap} (X : K.In h) {C : Addr} (e : makesLIn K C = true) : MakesL M h C := by
  unfold makesLIn at e
  split at e
  · rename_i oc od cd sl ho
    simp only [Bool.and_eq_true, Bool.not_eq_true', beq_iff_eq] at e
    obtain ⟨⟨⟨⟨⟨⟨⟨e1, e2⟩, e3⟩, e4⟩, e5⟩, e6⟩, e7⟩, e8⟩ := e
    have hc : clsIn K C = some cd := by unfold clsIn; rw [ho]
    have hm : Looks M h (mroOf (.ref C)) cd.mro := (looks_clsIn X hc).andThen .now
    obtain ⟨c, l, hl⟩ : ∃ c l, cd.mro = c :: l := by cases q : cd.mro with | nil => rw [q] at e4; cases e4 | cons c l => exact ⟨c, l, rfl⟩
    have made : Looks M h (Bind.madeBy (.ref C)) (some "list.__new__") := by
      intro A Q E s k q
      unfold Bind.madeBy
      refine wpAny_bind (hm A _ E s k ?_)
      rw [hl, List.forIn_cons]
      refine wpAny_bind (wpAny_bind (wpAny_bind (wpAny_bind (wpAny_loadPart (k _ _ (X _ _ ho)) (wpAny_pure ?_)))))
      dsimp only
      rw [← Array.getElem?_toList, e3]
      exact wpAny_pure (wpAny_pure (wpAny_pure q))
    refine ⟨⟨oc, od, cd, sl, X _ _ ho, e1, e2, e4⟩, made, ?_, looks_mroIn X ?_, looks_mroIn X ?_, looks_specialIn X e7, looks_instIn X e8⟩
    · intro A Q E s k q
      unfold Bind.staticBase
      refine wpAny_bind (hm A _ E s k ?_)
      rw [hl, List.forIn_cons]
      exact wpAny_bind (wpAny_bind (wpAny_bind (made A _ E s k (wpAny_pure (wpAny_pure (wpAny_pure q))))))
    · unfold mroIn; rw [hc, Option.bind_some, if_neg (by rw [e4]; decide), e5]
    · unfold mroIn; rw [hc, Option.bind_some, if_neg (by rw [e4]; decide), e6]
  · cases e

theorem ln_split : splitId "list.__new__" = some ("list", "__new__") := by decide +kernel
theorem ln_kind : builtinKind "list.__new__" = some .builtinFn := by decide +kernel
theorem ln_row : Manifest.signature? "list.__new__" = some ((Manifest.signature? "list.__new__").getD ⟨.hand, "", "", .cls, []⟩) := by kernel_rfl
theorem ln_args0 (C : Addr) : Bind.checkArgs "list.__new__" ((Manifest.signature? "list.__new__").getD ⟨.hand, "", "", .cls, []⟩) ⟨[.ref C], []⟩ = pure () := by kernel_rfl
theorem ln_args1 (C : Addr) (a : Value) : Bind.checkArgs "list.__new__" ((Manifest.signature? "list.__new__").getD ⟨.hand, "", "", .cls, []⟩) ⟨[.ref C, a], []⟩ = pure () := by kernel_rfl
theorem ln_hasDict (C : Addr) : typeHasDict (.ref C) = true := by kernel_rfl

section
variable {prog : Program} {w : World} {A : Around} {K : Frag} {C : Addr} {R : Result → Shared → Prop} {h : Heap} {g : Array GenState} {d : Drawn} {t : Nat} {os : OsState}
theorem newL_K {rest : List Value} (hr : rest.length ≤ 1) (Y : MakesL (model prog w) h C) 
    (hq : R (.ok (.ret (.ref (h.objs.size + 1)))) ⟨(h.push emptyDict).push (accObj C h.objs.size [] 0), g, d, t, os⟩) :
    codeAny (model prog w) A (.call (.builtin "list.__new__") ⟨.ref C :: rest, []⟩) R ⟨h, g, d, t, os⟩ := by
  obtain ⟨⟨oc, od, cd, sl, hC, e1, e2, e4⟩, made, base, self, top, call, typ⟩ := Y
  refine codeAny_call_builtin_code (Code.quiet_builtin _ (by decide +kernel)) ?_
  have args : Bind.checkArgs "list.__new__" ((Manifest.signature? "list.__new__").getD ⟨.hand, "", "", .cls, []⟩) ⟨.ref C :: rest, []⟩ = pure () := by
    rcases rest with _ | ⟨a, _ | ⟨b, r⟩⟩
    · exact ln_args0 C
    · exact ln_args1 C a
    · simp at hr
  simp only [checkBuiltinCall, ln_kind, ln_split]
  rw [ln_row]
  dsimp only
  rw [args]
  repeat (first | simp only [bne_self_eq_false, Bool.false_eq_true, if_false] | lk)
  refine codeAny_builtin_stack F.entry_list_new rfl fun p st => ?_
  have hown := owner_list_new
  simp only [hown]
  repeat (first | simp only [bne_self_eq_false, Bool.false_eq_true, if_false, ln_hasDict, Bool.not_true] | lk)
  refine wpAny_load (Heap.get?_push_of_some _ (Heap.get?_push_of_some _ hC)) (wpAny_pure ?_)
  rw [e2]
  refine wpAny_pure (wpAny_pure ?_)
  show R _ _
  rw [Heap.size_push]
  exact hq

theorem make_coreL {rest : List Value} {init : Value} (hr : rest.length ≤ 1) (Y : MakesL (model prog w) h C) (hi : Looks (model prog w) h (typeLookup (.ref C) "__init__") (some init))
    (hb : ∀ self, Looks (model prog w) h (bindSpecial init self) (init, [self]))
    (hq : codeAny (model prog w) (A.under (.builtin "type.__call__" ⟨.ref C :: rest, []⟩)) (.call init ⟨.ref (h.objs.size + 1) :: rest, []⟩) (InitBack (h.objs.size + 1) R) ⟨(h.push emptyDict).push (accObj C h.objs.size [] 0), g, d, t, os⟩) :
    codeAny (model prog w) A (.call (.ref C) ⟨rest, []⟩) R ⟨h, g, d, t, os⟩ := by
  have Y' := Y
  obtain ⟨⟨oc, od, cd, sl, hC, e1, e2, e4⟩, made, base, self, top, call, typ⟩ := Y
  refine codeAny_of_tree ?_
  show wpAny _ _ (callAny (.ref C) _) _ _ _
  refine nd_load hC ?_
  show wpAny _ _ (callAny.viaDunder (.ref C) _) _ _ _
  unfold callAny.viaDunder
  refine wpAny_bind (call.at ?_)
  dsimp only
  rw [tc_bind]
  refine wpAny_bind (wpAny_pure (wpAny_bind (wpAny_pure ?_)))
  refine wpAny_pure (a := Fin.again (.call (.builtin "type.__call__") ⟨.ref C :: rest, []⟩)) (And.intro rfl ?_)
  refine codeAny_call_builtin_at (Code.quiet_builtin _ (by decide +kernel)) entry_typeCall (check_slot tc_kind tc_split typ (tc_args _ _ _) ?_)
  unfold Builtin.«type.__call__»
  have hm : Looks (model prog w) h (mroOf (.ref C)) cd.mro := ((Looks.ld (part := none) hC).andThen .now).andThen .now
  repeat (first | simp only [e4, Bool.false_eq_true, if_false] | with_reducible refine wpAny_call ?_ | lk)
  refine newL_K hr Y' ?_
  have k : ∀ b o, h.get? b = some o → ((h.push emptyDict).push (accObj C h.objs.size [] 0)).get? b = some o := fun b o e => Heap.get?_push_of_some _ (Heap.get?_push_of_some _ e)
  have hx : ((h.push emptyDict).push (accObj C h.objs.size [] 0)).get? (h.objs.size + 1) = some (accObj C h.objs.size [] 0) := by heap_get
  have t1 : Looks (model prog w) ((h.push emptyDict).push (accObj C h.objs.size [] 0)) (typeOf (.ref (h.objs.size + 1))) (.ref C) := (Looks.ld hx).andThen .now
  have s1 := self.keeps k
  have i1 := hi.keeps k
  have b1 := (hb (.ref (h.objs.size + 1))).keeps k
  unfold isInstance callSpecial? specialOf
  repeat (first | with_reducible refine wpAny_call ?_ | lk)
  refine codeAny_mono hq fun r s' z => ?_
  rcases r with e | (v | _ | _ | _) <;> first | exact z | exact z.elim | skip
  obtain ⟨rfl, z⟩ := z
  exact wpAny_pure (wpAny_pure z)

theorem tc_weight (C : Addr) (rest : List Value) : (Code.builtin "type.__call__" ⟨.ref C :: rest, []⟩).weight = 1 := by kernel_rfl
theorem tc_units (C : Addr) (rest : List Value) : (Code.builtin "type.__call__" ⟨.ref C :: rest, []⟩).cUnits = 1 := by kernel_rfl
end

theorem callT_make {prog : Program} {w : World} {K : Frag} {A : Around} {own : Own} {C fI : Addr} {ds : List Dv} {Q : Dv → Own → Prop} (hr : ds.length ≤ 1) (hm : makesLIn K C = true) (hi : findIn K (.ref C) "__init__" = some (some (.ref fI)))
    (hf : typeIn K (.ref fI) = some (.type "function"))
    (x : ∀ A' x dx, A'.handled = A.handled → A'.depth = A.depth + 1 → A'.units = A.units + 1 → CallT prog w K A' ((x, .acc C dx []) :: (dx, .idict []) :: own) (.ref fI) (.raw (.ref x) :: ds) fun d own' => d = .none ∧ Q (.raw (.ref x)) own') : CallT prog w K A own (.ref C) ds Q := by
  intro h₀ s vs g ok vr
  obtain ⟨h, gs, dr, t, os⟩ := s
  have X : K.In h := g.kin.keeps ok.keep
  have ex1 : Ext h (h.push emptyDict) := Ext.push _
  have ex2 : Ext (h.push emptyDict) ((h.push emptyDict).push (accObj C h.objs.size [] 0)) := Ext.push _
  have ok1 : OwnOk h₀ ((h.objs.size, .idict []) :: own) (h.push emptyDict) := ok.more ex1 (get_size_none _) ⟨[], 0, Heap.get?_push_size _ rfl, .nil⟩
  have ok2 : OwnOk h₀ (((h.push emptyDict).objs.size, .acc C h.objs.size []) :: (h.objs.size, .idict []) :: own) ((h.push emptyDict).push (accObj C h.objs.size [] 0)) := ok1.more ex2 (get_size_none _) ⟨[], 0, Heap.get?_push_size _ rfl, .nil⟩
  rw [Heap.size_push] at ok2
  have hp : Pers h ((h.push emptyDict).push (accObj C h.objs.size [] 0)) := Ext.pers (ex1.trans ex2)
  refine make_coreL (by rw [vr.length]; exact hr) (makesL_of X hm) (looks_findIn X hi) (fun self => bind_fn X self hf) ?_
  refine codeAny_mono (x (A.under (.builtin "type.__call__" ⟨.ref C :: vs, []⟩)) (h.objs.size + 1) h.objs.size rfl (by show A.depth + _ = _; rw [tc_weight]) (by show A.units + _ = _; rw [tc_units]) h₀ ⟨(h.push emptyDict).push (accObj C h.objs.size [] 0), gs, dr, t, os⟩ (.ref (h.objs.size + 1) :: vs) g ok2 (.cons (.raw _) (vr.mono hp))) fun r s' ⟨v, d, own', e, p, o', v', hd, q⟩ => ?_
  subst e hd
  cases v'
  exact ⟨rfl, _, _, own', rfl, Stays.trans (b := ⟨(h.push emptyDict).push (accObj C h.objs.size [] 0), gs, dr, t, os⟩) hp.st p, o', .raw _, q⟩
end Mine

end
section
open PySem PySem.W PySem.Builtin PySem.Builtin.ObjectAttr
open PyProof.Rows hiding wpAt wpAt_bind
set_option linter.unusedSectionVars false
set_option maxRecDepth 100000
set_option maxHeartbeats 1000000
set_option linter.unusedVariables false
namespace Mine
variable [aI : Membership Nat Unit]

noncomputable def popSig : Manifest.Signature := (Manifest.signature? "list.pop").getD ⟨.hand, "", "", .cls, []⟩
theorem popSig_eq : Manifest.signature? "list.pop" = some popSig := by kernel_rfl
theorem pop_varargs : Manifest.varargsMethods.contains "list.pop" = false := by decide +kernel
theorem len_sig : ∃ sig, Manifest.signature? "list.__len__" = some sig ∧ ∀ x : Addr, Bind.checkArgs "list.__len__" sig ⟨[.ref x], []⟩ = pure () := ⟨(Manifest.signature? "list.__len__").getD ⟨.hand, "", "", .cls, []⟩, by kernel_rfl, fun x => by kernel_rfl⟩
theorem init_sig : ∃ sig, Manifest.signature? "list.__init__" = some sig ∧ ∀ x : Addr, Bind.checkArgs "list.__init__" sig ⟨[.ref x], []⟩ = pure () := ⟨(Manifest.signature? "list.__init__").getD ⟨.hand, "", "", .cls, []⟩, by kernel_rfl, fun x => by kernel_rfl⟩
theorem len_kind : builtinKind "list.__len__" = some .slot := by decide +kernel
theorem init_kind : builtinKind "list.__init__" = some .slot := by decide +kernel
theorem len_entry : entryFor table "list.__len__" = some Builtin.«list.__len__» := entryFor_of_tree (by kernel_rfl)
theorem init_entry : entryFor table "list.__init__" = some Builtin.«list.__init__» := entryFor_of_tree (by kernel_rfl)
theorem len_plain : plainId "list.__len__" = true := by decide +kernel
theorem init_plain : plainId "list.__init__" = true := by decide +kernel

section
variable {prog : Program} {w : World} {A : Around} {E : Value → Shared → Prop} {s : Shared} {x b : Addr}
theorem chk_slot {i : String} {Q : Unit → Shared → Prop} (hs : ∃ sig, Manifest.signature? i = some sig ∧ ∀ x : Addr, Bind.checkArgs i sig ⟨[.ref x], []⟩ = pure ()) (hk : builtinKind i = some .slot) (q : Q () s) :
    wpAny (model prog w) A (checkBoundCall i ⟨[.ref x], []⟩) Q E s := by
  obtain ⟨sig, e, a⟩ := hs
  unfold checkBoundCall
  simp only [e, hk]
  show wpAny _ _ (Bind.checkArgs i sig ⟨[.ref x], []⟩) _ _ _
  rw [a]; exact wpAny_pure q
theorem chk_pop {K : Frag} {C : Addr} {ox : Obj} {cd : ClassData} {Q : Unit → Shared → Prop} (X : K.In s.heap) (hx : s.heap.get? x = some ox) (hc : ox.cls = .ref C) (hnc : ∀ c, ox.data ≠ .cls c) (hcd : clsIn K C = some cd)
    (hmod : mroIn K C (.type "module") = some false) (ht : typeIn K (.ref C) = some (.type "type"))
    (hck : ∀ x : Addr, Bind.checkArgs "list.pop" { popSig with full := s!"{cd.qualname.toString}.{Bind.lastOf "list.pop"}" } ⟨[.ref x], []⟩ = pure ()) (q : Q () s) :
    wpAny (model prog w) A (checkBoundCall "list.pop" ⟨[.ref x], []⟩) Q E s := by
  have T : Looks (model prog w) s.heap (typeOf (.ref x)) (.ref C) := hc ▸ (Looks.ld hx).andThen .now
  unfold checkBoundCall
  simp only [popSig_eq]
  have I : Looks (model prog w) s.heap (isInstance (.ref x) (.type "module")) false := T.andThen (looks_mroIn X hmod)
  have D : Looks (model prog w) s.heap (classData C) cd := looks_clsIn X hcd
  have TT : Looks (model prog w) s.heap (typeOf (.ref C)) (.type "type") := looks_typeIn X ht
  have Y : Looks (model prog w) s.heap (isType (.ref x)) false := by
    unfold isType
    refine (Looks.ld hx).andThen ?_
    refine Looks.of_pure ?_
    obtain ⟨oc, od, odt, osl⟩ := ox
    cases odt <;> first | rfl | exact absurd rfl (hnc _)
  refine wpAny_bind (I.here ?_)
  simp only [pop_varargs, Bool.or_false, Bool.false_eq_true, if_false]
  refine wpAny_bind (Y.here ?_)
  simp only [Bool.false_eq_true, if_false]
  refine wpAny_bind (T.here ?_)
  refine wpAny_bind (D.here ?_)
  refine wpAny_bind (TT.here ?_)
  simp only [beq_self_eq_true, if_true]
  rw [hck]; exact wpAny_pure q
theorem call_bound {B i : String} {bi : Builtin} {pos : Pos} {env : Env} {Q : Value → Shared → Prop} (hb : s.heap.get? b = some (boundObj B i x)) (hB : B = "method-wrapper" ∨ B = "builtin_function_or_method")
    (hp : plainId i = true) (he : entryFor table i = some bi)
    (hck : ∀ (A : Around) {Q : Unit → Shared → Prop} {E : Value → Shared → Prop}, Q () s → wpAny (model prog w) A (checkBoundCall i ⟨[.ref x], []⟩) Q E s)
    (hc : wpAny (model prog w) A.in1 (bi ⟨[.ref x], []⟩) (fun fin s' => ∃ v, fin = .done (.ret v) ∧ Q v s') E s) : wpAny (model prog w) A (callWith pos (.ref b) [] (backTo pos (starEach [] env)) []) Q E s := by
  refine callWith_of (P := fun h => h.get? b = some (boundObj B i x)) rfl (fun h e => ⟨.machine, .inr (.inl rfl), ?_⟩) (evalArgs_none' (wpAny_pure ⟨hb, ?_⟩))
  · unfold keeperOf
    refine (Looks.ld e).andThen ?_
    rcases hB with rfl | rfl <;> exact Looks.now
  · refine wpAny_call (codeAny_of_tree ?_)
    show wpAny _ _ (callAny (.ref b) _) _ _ _
    refine nd_load hb ?_
    have hc' := wpAny_mono hc (Q' := fun fin s' => match fin with
      | .done f => (match (Except.ok f : Result) with | .ok (.ret v) => Q v s' | .ok _ => False | .error e => E e s')
      | .again c' => c'.quiet = true ∧ codeAny (model prog w) A c' (fun r s' => match r with | .ok (.ret v) => Q v s' | .ok _ => False | .error e => E e s') s')
      (fun fin s' h' => by obtain ⟨v, rfl, hv⟩ := h'; exact hv) fun _ _ h' => h'
    rcases hB with rfl | rfl
    all_goals
      show wpAny _ _ (checkBoundCall i ⟨[.ref x], []⟩ >>= _) _ _ _
      refine wpAny_bind (hck _ ?_)
      refine wpAny_pure (a := Fin.again (.builtin i ⟨[.ref x], []⟩)) ⟨plainId_quiet hp _, codeAny_builtin he ?_⟩
      rw [Around.under_plainId hp]
      exact hc'
end
end Mine

end
section
open PySem PySem.W PySem.Builtin PySem.Builtin.ObjectAttr
open PyProof.Rows hiding wpAt wpAt_bind
set_option linter.unusedSectionVars false
set_option maxRecDepth 100000
set_option maxHeartbeats 1000000
set_option linter.unusedVariables false
namespace Mine
variable [aI : Membership Nat Unit]
section
variable {Γ : Fm} {loc : Loc} {own own' : Own} {Q : QV} {QQ : QF} {c : Code}

noncomputable def EvT (Γ : Fm) (c : Code) (loc : Loc) (own : Own) (e : PySem.Expr) (Q : QV) : Prop :=
  ∀ h₀ s, Gd Γ.K h₀ → Rel h₀ Γ.env.locals loc own s.heap → PySem.wpAt (model Γ.prog Γ.w) Γ.A c (eval e Γ.env) (Out h₀ Γ.env.locals s Q) Γ.E s
noncomputable def ExT (Γ : Fm) (c : Code) (loc : Loc) (own : Own) (st : Stmt) (Q : QF) : Prop :=
  ∀ h₀ s, Gd Γ.K h₀ → Rel h₀ Γ.env.locals loc own s.heap → PySem.wpAt (model Γ.prog Γ.w) Γ.A c (exec st Γ.env) (OutF h₀ Γ.env.locals s Q) Γ.E s
noncomputable def ExsT (Γ : Fm) (c : Code) (loc : Loc) (own : Own) (sts : List Stmt) (Q : QF) : Prop :=
  ∀ h₀ s, Gd Γ.K h₀ → Rel h₀ Γ.env.locals loc own s.heap → PySem.wpAt (model Γ.prog Γ.w) Γ.A c (execs sts Γ.env) (OutF h₀ Γ.env.locals s Q) Γ.E s
theorem ext_of {st : Stmt} (x : Ex Γ loc own st QQ) : ExT Γ c loc own st QQ := fun h₀ s g rel => PySem.wpAt_of_wpAny (x h₀ s g rel)
theorem exst_of {st : List Stmt} (x : Exs Γ loc own st QQ) : ExsT Γ c loc own st QQ := fun h₀ s g rel => PySem.wpAt_of_wpAny (x h₀ s g rel)
theorem exst_cons {st : Stmt} {r : List Stmt} (x : ExT Γ c loc own st fun f loc own => match f with | .next => ExsT Γ c loc own r QQ | f => QQ f loc own) : ExsT Γ c loc own (st :: r) QQ := by
  intro h₀ s g rel
  refine ks_wpAt_execs_cons (ks_wpAt_mono (x h₀ s g rel) (fun f s' ⟨a, loc, own, p, r, fr, q⟩ => ?_) fun _ _ z => z)
  cases fr with
  | next => exact ks_wpAt_mono (q h₀ s' g r) (fun _ _ z => z.pers p) fun _ _ z => z
  | brk => exact ⟨_, _, _, p, r, .brk, q⟩
  | cont => exact ⟨_, _, _, p, r, .cont, q⟩
  | ret v => exact ⟨_, _, _, p, r, .ret v, q⟩
theorem ext_return {e : PySem.Expr} {pos : Pos} (x : EvT Γ c loc own e fun d loc own => QQ (.ret d) loc own) : ExT Γ c loc own (.Return (some e) pos) QQ := fun h₀ s g rel =>
  ks_wpAt_Return_some (ks_wpAt_mono (x h₀ s g rel) (fun v s' ⟨d, loc, own, p, r, vr, q⟩ => ⟨_, _, _, p, r, .ret vr, q⟩) fun _ _ z => z)
theorem ext_expr {e : PySem.Expr} {pos : Pos} (hi : interactive Γ.env = false) (hs : swapsWith e none pos.line Γ.env = pure false) (x : EvT Γ c loc own e fun d loc own => QQ .next loc own) : ExT Γ c loc own (.Expr e pos) QQ := fun h₀ s g rel =>
  ks_wpAt_Expr_any (ks_wpAt_mono (x h₀ s g rel) (fun v s' ⟨d, loc, own, p, r, vr, q⟩ => ⟨_, _, _, p, r, .next, q⟩) fun _ _ z => z) hi hs

theorem callT_defT {prog : Program} {w : World} {K : Frag} {A : Around} {own : Own} {f : Addr} {ds : List Dv} {Q : Dv → Own → Prop} {fd : FuncData} {body : List Stmt} {loc : Loc} {oc : Value} {od : Option Addr} {osl : Array (Option Value)} {D U : Nat}
    (hlim : ∀ h, K.In h → h.NoLimit) (hK : K.lookup f = some ⟨oc, od, .func fd, osl⟩) (hcd : codeIn K fd.code fd.qualname = true) (hbody : fd.body = .stmts body) (hroom : D < recursionLimit)
    (hcell : ∀ x ∈ fd.scope.names, x.2 ≠ .cell) (hp : Params K fd ds loc) (hnd : (loc.map (·.1)).Nodup)
    (hh : A.handled = none) (hD : A.depth ≤ D) (hU : A.units ≤ U) (hk : fd.scope.kind = .function) (hg : fd.globals = mainGlobals) (hb : fd.builtins = builtinsNs) (hco : fd.scope.isCoroutine = false) (hgen : fd.scope.isGenerator = false)
    (x : ∀ L, ExsT (fnFm prog w K A fd f L D U hh hD hU hk hg hb) (.func body (callEnv fd L f)) loc own body fun fl loc own => Q (retOf fl) own) : CallT prog w K A own (.ref f) ds Q := by
  intro h₀ s vs g ok vr
  have X : K.In s.heap := g.kin.keeps ok.keep
  obtain ⟨binds, bt, bl, bv⟩ := hp s vs X vr
  refine ks_codeAny_call_defAt (Nat.lt_of_le_of_lt hD hroom) (X _ _ hK) rfl (hlim _ X) (codeRec_of X hcd) hbody bt hcell bl (fun h₁ ns ex => ?_) hco hgen hk
  have fr : h₀.get? s.heap.objs.size = none := ok.keep.none (get_size_none _)
  have rel : Rel h₀ s.heap.objs.size loc own h₁ := by
    refine ⟨ok.ext ex, ⟨⟨_, ns, fun y d hy => ?_⟩, fr, fun p hp e => ?_, hnd⟩⟩
    · obtain ⟨v, e, r⟩ := bv y d hy; exact ⟨v, e, r.mono (Ext.pers ex)⟩
    · obtain ⟨ob, q, _⟩ := (ok.at_ p hp).some
      rw [e, get_size_none] at q; cases q
  refine ks_wpAt_mono (x s.heap.objs.size h₀ { s with heap := h₁, toks := s.toks + binds.length } g rel) (fun fl s' ⟨a, loc', own', p, r, fr, q⟩ => ?_) fun _ _ z => z.elim
  have p' : Stays s s' := Stays.trans (b := { s with heap := h₁, toks := s.toks + binds.length }) (Ext.pers ex).st p
  cases fr with
  | next => exact ⟨_, _, own', rfl, p', r.ow, .none, q⟩
  | brk => exact ⟨_, _, own', rfl, p', r.ow, .none, q⟩
  | cont => exact ⟨_, _, own', rfl, p', r.ow, .none, q⟩
  | ret v => exact ⟨_, _, own', rfl, p', r.ow, v, q⟩

structure SupF (Γ : Fm) (sn : Str) (cc : Addr) : Prop where
  ks : Γ.env.kindOf "super" = some .globalImplicit
  kc : Γ.env.kindOf "__class__" = some .free
  fn : ∃ f c d fd sl ar, Γ.env.func = some f ∧ Γ.K.lookup f = some ⟨c, d, .func fd, sl⟩ ∧ (fd.params.posonlyargs ++ fd.params.args).head? = some ar ∧ ar.arg = sn
  kl : Γ.env.kindOf sn = some .local
  cd : ∃ a c d vs sl file tf, Γ.env.code = .ref a ∧ Γ.K.lookup a = some ⟨c, d, .fields vs, sl⟩ ∧ vs[2]? = some (.str file tf) ∧ ((Γ.prog.main.file : Str) == file) = true
  cl : Γ.env.cells.lookup (Str.ofString "__class__") = some cc
noncomputable def SupE (Γ : Fm) (name : Str) (p0 p1 apos pos : Pos) : Prop :=
  eval (.Call (.Attribute (.Call (.Name "super" p0) [] [] p1) name apos) [] [] pos) Γ.env = (do
      let ov ← attributeBase (.Call (.Name "super" p0) [] [] p1) name Γ.env (eval (.Call (.Name "super" p0) [] [] p1) Γ.env)
      standAt apos.atName
      let (f, first) ← holding [ov] (getMethod ov name (do return (← importBound (.Call (.Name "super" p0) [] [] p1) Γ.env).getD true))
      callWith pos f first (backTo pos (starEach [] Γ.env)) [])
theorem evt_sup {name self : Str} {i T B : String} {x C d cc : Addr} {cd : ClassData} {ds : List Dv} {body : List Stmt} {p0 p1 apos pos : Pos} (S : SupName name i T B) (H : ClsK Γ.prog Γ.K C cc cd) (F : SupF Γ self cc) (hx : Has self (.raw (.ref x)) loc) (ha : HasO x (.acc C d ds) own)
    (k : ∀ h₀ s b, Gd Γ.K h₀ → Rel h₀ Γ.env.locals loc own s.heap → s.heap.get? b = some (boundObj B i x) → wpAny (model Γ.prog Γ.w) Γ.A (callWith pos (.ref b) [] (backTo pos (starEach [] Γ.env)) []) (Out h₀ Γ.env.locals s Q) Γ.E s)
    (he : SupE Γ name p0 p1 apos pos) :
    EvT Γ (.func body Γ.env) loc own (.Call (.Attribute (.Call (.Name "super" p0) [] [] p1) name apos) [] [] pos) Q := by
  intro h₀ s g rel
  obtain ⟨f, fc, fo, fd, fsl, ar, f1, f2, f3, rfl⟩ := F.fn
  obtain ⟨a, ac, ao, vs, asl, file, tf, a1, a2, a3, a4⟩ := F.cd
  have G := g.ext rel.ow.keep
  obtain ⟨m, ns, hm⟩ := rel.lc.ns
  obtain ⟨v, mv, vr⟩ := hm _ _ hx.mem
  cases vr
  obtain ⟨ws, n, ho, r⟩ := rel.ow.at_ _ ha.mem
  refine sup_call (L := x) S G H Γ.hk F.ks F.kc f1 (G.kin _ _ f2) rfl f3 F.kl a1 (G.kin _ _ a2) rfl a3 a4 F.cl Γ.hg Γ.hb ns mv ho rfl (by intro c z; simp at z) (fun b h' t' ex hb => ?_) he
  exact wpAny_mono (k h₀ { s with heap := h', toks := t' } b g (rel.ext ex) hb) (fun _ _ z => z.pers (Ext.pers ex).st) fun _ _ z => z

theorem evt_len {self : Str} {x C d cc : Addr} {cd : ClassData} {ds : List Dv} {body : List Stmt} {p0 p1 apos pos : Pos} (H : ClsK Γ.prog Γ.K C cc cd) (F : SupF Γ self cc) (hx : Has self (.raw (.ref x)) loc) (ha : HasO x (.acc C d ds) own)
    (he : SupE Γ "__len__" p0 p1 apos pos) (q : Q (.int ds.length) loc own) : EvT Γ (.func body Γ.env) loc own (.Call (.Attribute (.Call (.Name "super" p0) [] [] p1) "__len__" apos) [] [] pos) Q := by
  refine evt_sup sup_len H F hx ha (fun h₀ s b g rel hb => ?_) he
  obtain ⟨ws, n, ho, r⟩ := rel.ow.at_ _ ha.mem
  refine call_bound hb (.inl rfl) len_plain len_entry (fun A {Q} {E} q => chk_slot len_sig len_kind q) ?_
  unfold Builtin.«list.__len__»
  refine wpAny_bind (wpAny_of_eq (show slotArgs "__len__" 0 ⟨[.ref x], []⟩ = pure (.ref x, []) from rfl) ?_)
  show wpAny _ _ (seqSize x >>= fun n => retInt n) _ _ _
  unfold seqSize retInt
  refine wpAny_bind (wpAny_bind (wpAny_loadPart ho (wpAny_pure ?_)))
  refine wpAny_bind (wpAny_mkInt (wpAny_pure ⟨_, rfl, ?_⟩))
  refine ⟨_, _, _, Pers.st .refl, rel, ?_, q⟩
  rw [← r.length]
  exact .int _ _
theorem evt_init {self : Str} {x C d cc : Addr} {cd : ClassData} {body : List Stmt} {p0 p1 apos pos : Pos} (H : ClsK Γ.prog Γ.K C cc cd) (F : SupF Γ self cc) (hx : Has self (.raw (.ref x)) loc) (ha : Upd x (.acc C d []) (.acc C d []) own own')
    (K : AccK Γ.K C) (he : SupE Γ "__init__" p0 p1 apos pos) (q : Q .none loc own') : EvT Γ (.func body Γ.env) loc own (.Call (.Attribute (.Call (.Name "super" p0) [] [] p1) "__init__" apos) [] [] pos) Q := by
  have ha' : HasO x (.acc C d []) own := by
    clear q
    induction ha with
    | here => exact .here
    | there _ ih => exact .there ih
  refine evt_sup sup_init H F hx ha' (fun h₀ s b g rel hb => ?_) he
  obtain ⟨ob, ws, n, ho, hd, hv, hi, hmk, hne⟩ := (SeqO.acc K).at (rel.ow.at_ _ ha.mem)
  refine call_bound hb (.inl rfl) init_plain init_entry (fun A {Q} {E} q => chk_slot init_sig init_kind q) ?_
  obtain ⟨p, r⟩ := seq_upd (K := Γ.K) (ws := []) (f := fun _ => #[]) rel ha (.acc K) ho hd hne rfl .nil hmk
  show wpAny _ _ (Builtin.List.listItems (.ref x) >>= _) _ _ s
  unfold Builtin.List.listItems
  refine wpAny_bind (wpAny_bind (wpAny_seqItems ho hd (wpAny_pure ?_)))
  refine wpAny_bind (m := Builtin.List.listUpdate (.ref x) _) ?_
  unfold Builtin.List.listUpdate
  refine wpAny_updateSeq ho hd ?_ (by have := hv.length; rw [List.size_toArray, this]; decide) (by decide)
  refine wpAny_bind (wpAny_letGo (wpAny_pure ⟨_, rfl, ?_⟩))
  exact ⟨_, _, _, p.st, r, .none, q⟩
theorem evt_pop {self : Str} {x C d cc : Addr} {cd : ClassData} {ds : List Dv} {e : Dv} {body : List Stmt} {p0 p1 apos pos : Pos} (H : ClsK Γ.prog Γ.K C cc cd) (F : SupF Γ self cc) (hx : Has self (.raw (.ref x)) loc) (ha : Upd x (.acc C d (ds ++ [e])) (.acc C d ds) own own')
    (K : AccK Γ.K C) (hmod : mroIn Γ.K C (.type "module") = some false) (ht : typeIn Γ.K (.ref C) = some (.type "type")) (hl : ds.length ≤ 100000)
    (hck : ∀ x : Addr, Bind.checkArgs "list.pop" { popSig with full := s!"{cd.qualname.toString}.{Bind.lastOf "list.pop"}" } ⟨[.ref x], []⟩ = pure ())
    (he : SupE Γ "pop" p0 p1 apos pos) (q : Q e loc own') : EvT Γ (.func body Γ.env) loc own (.Call (.Attribute (.Call (.Name "super" p0) [] [] p1) "pop" apos) [] [] pos) Q := by
  have ha' : HasO x (.acc C d (ds ++ [e])) own := by
    clear q
    induction ha with
    | here => exact .here
    | there _ ih => exact .there ih
  refine evt_sup sup_pop H F hx ha' (fun h₀ s b g rel hb => ?_) he
  obtain ⟨ws', n', ho', hv'⟩ := rel.ow.at_ _ ha.mem
  obtain ⟨ob, ws, n, ho, hd, hv, hi, hmk, hne⟩ := (SeqO.acc K).at (rel.ow.at_ _ ha.mem)
  obtain ⟨y, gl, vy, vr⟩ := hv.getLast
  have X := g.kin.keeps rel.ow.keep
  refine call_bound hb (.inr rfl) pop_plain pop_entry (fun A {Q} {E} q => chk_pop X ho' rfl (by intro c z; simp at z) H.cls hmod ht hck q) ?_
  have hln := hv.length
  obtain ⟨p, r⟩ := seq_upd (K := Γ.K) (ws := ws.dropLast) (f := (·.eraseIdxIfInBounds (ws.length - 1))) rel ha (.acc K) ho hd hne erase_last vr hmk
  refine bi_pop ho hd gl (by rw [hln]; simp; omega) ⟨_, rfl, ?_⟩
  exact ⟨_, _, _, p.st, r, vy.mono p, q⟩
end
end Mine

end
section
open PySem PySem.W PySem.Builtin PySem.Builtin.ObjectAttr
open PyProof.Rows hiding wpAt wpAt_bind
set_option linter.unusedSectionVars false
set_option maxRecDepth 100000
set_option maxHeartbeats 1000000
set_option linter.unusedVariables false
namespace Mine
variable [aI : Membership Nat Unit]
noncomputable def fnOf (K : Frag) (a : Addr) : FuncData := match K.lookup a with
  | some ⟨_, _, .func fd, _⟩ => fd
  | _ => { name := "", qualname := "", params := { posonlyargs := [], args := [], vararg := none, kwonlyargs := [], kw_defaults := [], kwarg := none, defaults := [] }, body := .stmts [], scope := { kind := .function, names := [], isGenerator := false, isCoroutine := false }, globals := 0, closure := [], defaults := .none, kwdefaults := .none, pyModule := .none, code := .none }
noncomputable def bodyOf (fd : FuncData) : List Stmt := match fd.body with | .stmts b => b | _ => []
theorem peek_binds {K : Frag} {s : Shared} {fd : FuncData} {args : Args} {binds : List (Str × Value)} (X : K.In s.heap) (e : ∀ S, peek K S (bindArgs fd args) = some binds) : BindsTo s fd args binds := kp_binds X e

theorem zip_look {h : Heap} : ∀ {names : List Str} {vs : List Value} {ds : List Dv} {acc : List (Str × Value)}, names.Nodup → VRs h vs ds → names.length = ds.length → ∀ x d, (x, d) ∈ names.zip ds → ∃ v, ((names.zip vs).reverse ++ acc).lookup x = some v ∧ VR h v d
  | [], _, _, _, _, _, _, x, d, m => by simp at m
  | n :: names, [], _, _, _, y, l, x, d, m => by cases y; simp at l
  | n :: names, v :: vs, d' :: ds, acc, nd, .cons y ys, l, x, d, m => by
    rw [List.nodup_cons] at nd
    rw [List.zip_cons_cons] at m
    rw [List.zip_cons_cons, List.reverse_cons, List.append_assoc]
    rcases List.mem_cons.mp m with e | m
    · cases e
      refine ⟨v, ?_, y⟩
      rw [List.lookup_append, (?_ : ((names.zip vs).reverse).lookup n = none)]
      · simp
      · rw [List.lookup_eq_none_iff]
        intro p hp
        have hp' : p ∈ names.zip vs := by simpa using hp
        have := (List.of_mem_zip (a := p.1) (b := p.2) hp').1
        simp only [beq_eq_false_iff_ne, ne_eq, bne_iff_ne]
        intro z
        exact nd.1 (z ▸ this)
    · exact zip_look (acc := [(n, v)] ++ acc) nd.2 ys (by simpa using l) x d m
theorem params_of {K : Frag} {fd : FuncData} {ds : List Dv} (names : List Str) (defs : List Value) (ddefs : List Dv) (hdef : ∀ h, VRs h defs ddefs) (hnd : names.Nodup) (hlen : names.length = ds.length + ddefs.length)
    (e : ∀ S vs, vs.length = ds.length → peek K S (bindArgs fd ⟨vs, []⟩) = some (names.zip (vs ++ defs))) (hl : ∀ x ∈ names, fd.scope.names.lookup x = some .local) : Params K fd ds (names.zip (ds ++ ddefs)) := by
  intro s vs X vr
  refine ⟨_, peek_binds X (fun S => e S vs vr.length), fun x hx => hl _ (List.of_mem_zip (a := x.1) (b := x.2) hx).1, fun x d m => ?_⟩
  have := zip_look (acc := []) hnd (vr.append (hdef s.heap)) (by rw [List.length_append]; exact hlen) x d m
  simpa using this

noncomputable def defOk (K : Frag) (f : Addr) (names : List Str) : Bool := match K.lookup f with
  | some ⟨_, _, .func fd, _⟩ => (fd.scope.names.all fun x => x.2 != .cell) && (names.all fun n => fd.scope.names.lookup n == some .local) && fd.scope.kind == .function && fd.globals == mainGlobals && fd.builtins == builtinsNs &&
      !fd.scope.isCoroutine && !fd.scope.isGenerator && codeIn K fd.code fd.qualname && decide names.Nodup && (match fd.body with | .stmts _ => true | _ => false)
  | _ => false
structure DefK (K : Frag) (f : Addr) (names : List Str) : Prop where
  obj : ∃ c d sl, K.lookup f = some ⟨c, d, .func (fnOf K f), sl⟩
  cell : ∀ x ∈ (fnOf K f).scope.names, x.2 ≠ .cell
  loc : ∀ x ∈ names, (fnOf K f).scope.names.lookup x = some .local
  kind : (fnOf K f).scope.kind = .function
  glb : (fnOf K f).globals = mainGlobals
  blt : (fnOf K f).builtins = builtinsNs
  co : (fnOf K f).scope.isCoroutine = false
  gen : (fnOf K f).scope.isGenerator = false
  code : codeIn K (fnOf K f).code (fnOf K f).qualname = true
  nd : names.Nodup
  body : (fnOf K f).body = .stmts (bodyOf (fnOf K f))
theorem defK_of {K : Frag} {f : Addr} {names : List Str} (h : defOk K f names = true) : DefK K f names := by
  unfold defOk at h
  split at h
  · rename_i c d fd sl e
    have hf : fnOf K f = fd := by unfold fnOf; rw [e]
    simp only [Bool.and_eq_true, List.all_eq_true, bne_iff_ne, beq_iff_eq, Bool.not_eq_true', decide_eq_true_eq] at h
    obtain ⟨⟨⟨⟨⟨⟨⟨⟨⟨h1, h2⟩, h3⟩, h4⟩, h5⟩, h6⟩, h7⟩, h8⟩, h9⟩, h10⟩ := h
    refine ⟨⟨c, d, sl, by rw [hf]; exact e⟩, by rw [hf]; exact h1, by rw [hf]; exact h2, by rw [hf]; exact h3, by rw [hf]; exact h4, by rw [hf]; exact h5, by rw [hf]; exact h6, by rw [hf]; exact h7, by rw [hf]; exact h8, h9, ?_⟩
    rw [hf]
    unfold bodyOf
    split at h10
    · rename_i b hb; rw [hb]
    · cases h10
  · cases h
noncomputable abbrev dfFm (prog : Program) (w : World) (K : Frag) (A : Around) (f L : Addr) (names : List Str) (H : DefK K f names) (hh : A.handled = none) (hD : A.depth ≤ 900) (hU : A.units ≤ 9000) : Fm :=
  fnFm prog w K A (fnOf K f) f L 900 9000 hh hD hU H.kind H.glb H.blt
theorem callT_fn {prog : Program} {w : World} {K : Frag} {A : Around} {own : Own} {f : Addr} {ds ddefs : List Dv} {Q : Dv → Own → Prop} {names : List Str} (H : DefK K f names) (loc : Loc) (defs : List Value)
    (hlim : ∀ h, K.In h → h.NoLimit) (hlen : names.length = ds.length + ddefs.length) (hloc : names.zip (ds ++ ddefs) = loc) (hdef : ∀ h, VRs h defs ddefs)
    (e : ∀ S vs, vs.length = ds.length → peek K S (bindArgs (fnOf K f) ⟨vs, []⟩) = some (names.zip (vs ++ defs)))
    (hh : A.handled = none) (hD : A.depth ≤ 900) (hU : A.units ≤ 9000)
    (x : ∀ L, Exs (dfFm prog w K A f L names H hh hD hU) loc own (bodyOf (fnOf K f)) fun fl loc own => Q (retOf fl) own) : CallT prog w K A own (.ref f) ds Q := by
  obtain ⟨c, d, sl, hK⟩ := H.obj
  subst hloc
  exact callT_def hlim hK H.code H.body (by decide) H.cell (params_of names defs ddefs hdef H.nd hlen e H.loc) (by
    rw [List.map_fst_zip (by rw [List.length_append]; omega)]; exact H.nd) hh hD hU H.kind H.glb H.blt H.co H.gen x
theorem callT_fnT {prog : Program} {w : World} {K : Frag} {A : Around} {own : Own} {f : Addr} {ds ddefs : List Dv} {Q : Dv → Own → Prop} {names : List Str} (H : DefK K f names) (loc : Loc) (defs : List Value)
    (hlim : ∀ h, K.In h → h.NoLimit) (hlen : names.length = ds.length + ddefs.length) (hloc : names.zip (ds ++ ddefs) = loc) (hdef : ∀ h, VRs h defs ddefs)
    (e : ∀ S vs, vs.length = ds.length → peek K S (bindArgs (fnOf K f) ⟨vs, []⟩) = some (names.zip (vs ++ defs)))
    (hh : A.handled = none) (hD : A.depth ≤ 900) (hU : A.units ≤ 9000)
    (x : ∀ L, ExsT (dfFm prog w K A f L names H hh hD hU) (.func (bodyOf (fnOf K f)) (callEnv (fnOf K f) L f)) loc own (bodyOf (fnOf K f)) fun fl loc own => Q (retOf fl) own) : CallT prog w K A own (.ref f) ds Q := by
  obtain ⟨c, d, sl, hK⟩ := H.obj
  subst hloc
  exact callT_defT hlim hK H.code H.body (by decide) H.cell (params_of names defs ddefs hdef H.nd hlen e H.loc) (by
    rw [List.map_fst_zip (by rw [List.length_append]; omega)]; exact H.nd) hh hD hU H.kind H.glb H.blt H.co H.gen x
end Mine

end
section
open PySem PySem.W PySem.Builtin PySem.Builtin.ObjectAttr
open PyProof.Rows hiding wpAt wpAt_bind
set_option linter.unusedSectionVars false
set_option maxRecDepth 100000
set_option maxHeartbeats 1000000
set_option linter.unusedVariables false
namespace Mine
variable [aI : Membership Nat Unit]
noncomputable def defsOf (K : Frag) (f : Addr) : List Value := match (fnOf K f).defaults with
  | .ref T => (match K.lookup T with | some ⟨_, _, .seq vs _, _⟩ => vs.toList | _ => [])
  | _ => []
theorem callT_weak {prog : Program} {w : World} {K : Frag} {A : Around} {own : Own} {f : Value} {ds : List Dv} {Q : Dv → Own → Prop} (x : CallT prog w K A own f ds fun d own => ∃ o', o'.Sublist own ∧ Q d o') : CallT prog w K A own f ds Q :=
  fun h₀ s vs g ok vr => codeAny_mono (x h₀ s vs g ok vr) fun r s' ⟨v, d, own', e, p, o, v', o', sb, q⟩ => ⟨v, d, o', e, p, o.sub sb, v', q⟩
section
variable {Γ : Fm} {loc : Loc} {own own1 : Own} {Q : QV} {QQ : QF}
theorem evo_some {e : PySem.Expr} (x : Ev Γ loc own e Q) : EvO Γ loc own (some e) Q := x
theorem evo_none (q : Q .none loc own) : EvO Γ loc own none Q := q
theorem Upd.has {a : Addr} {o o' : AObj} {own own' : Own} (u : Upd a o o' own own') : HasO a o own := by
  induction u with
  | here => exact .here
  | there _ ih => exact .there ih
theorem HasO.upd {a : Addr} {o : AObj} {own : Own} (o' : AObj) (h : HasO a o own) : ∃ own', Upd a o o' own own' := by
  induction h with
  | here => exact ⟨_, .here⟩
  | there _ ih => obtain ⟨r, u⟩ := ih; exact ⟨_, .there u⟩
theorem Upd.has' {a : Addr} {o o' : AObj} {own own' : Own} (u : Upd a o o' own own') : HasO a o' own' := by
  induction u with
  | here => exact .here
  | there _ ih => exact .there ih
theorem Upd.same {a : Addr} {o : AObj} {own own' : Own} (u : Upd a o o own own') : own' = own := by
  induction u with
  | here => rfl
  | there _ ih => rw [ih]
theorem op_is_none {d : Dv} {b : Bool} (hd : (d = .none ∧ b = true) ∨ (b = false ∧ ∃ a, d = .raw (.ref a))) (q : Q (.bool b) loc own) : Op2 Γ loc own d .none (compareOp .Is) Q := by
  intro h₀ s v u g rel x y
  cases y
  rcases hd with ⟨rfl, rfl⟩ | ⟨rfl, a, rfl⟩
  · cases x
    exact wpAny_is_self rfl (out_ext rel Ext.refl (.bool _) q)
  · cases x
    exact wpAny_is_other rfl (by intro z; cases z) (out_ext rel Ext.refl (.bool _) q)
theorem putS_all (ds es : List Dv) : putS ds none none es = es := by
  unfold putS
  have h : sliceBounds none none none ds.length = (0, (ds.length : Int), 1) := by
    unfold sliceBounds
    simp
  rw [h]
  simp
end
end Mine

end
section
open PySem PySem.W PySem.Builtin PySem.Builtin.ObjectAttr
open PyProof.Rows hiding wpAt wpAt_bind
set_option linter.unusedSectionVars false
set_option maxRecDepth 100000
set_option maxHeartbeats 1000000
set_option linter.unusedVariables false
namespace Mine
variable [aI : Membership Nat Unit]
theorem li_kind : builtinKind "list.__iter__" = some .slot := by decide +kernel
theorem li_split : splitId "list.__iter__" = some ("list", "__iter__") := by decide +kernel
section
variable {prog : Program} {w : World} {A : Around} {E : Value → Shared → Prop} {s : Shared} {K : Frag} {C d a it : Addr}
theorem acc_iter {vs : List Value} {n : Nat} {R : Value → Shared → Prop} (H : AccK K C) (X : K.In s.heap) (hx : s.heap.get? a = some (accObj C d vs n))
    (k : R (.ref s.heap.objs.size) { s with heap := s.heap.push { cls := .type "list_iterator", data := .fields #[.ref a, .int 0 0] } }) : wpAny (model prog w) A (pyIter (.ref a)) R E s := by
  have T : Looks (model prog w) s.heap (typeOf (.ref a)) (.ref C) := (Looks.ld hx).andThen .now
  have hsub : Looks (model prog w) s.heap (isInstance (.ref a) (.type "list")) true := T.andThen (looks_mroIn X H.sub)
  have hcall : wpAny (model prog w) A (call (.builtin "list.__iter__") [.ref a]) (fun it s' => ∃ T' r, s'.TypeIs it T' ∧ typeLookup (.type T') "__next__" = pure (some r) ∧ R it s') E s := by
    refine call_bi (.inr li_kind) li_split slot_list_iter.plain entry_list_iter (args_list_iter _) hsub ?_
    show wpAny _ _ (newFields "list_iterator" [.ref a, rawInt 0] >>= fun v => ret v) _ _ s
    exact wpAny_bind (wpAny_newObj_type (wpAny_pure ⟨_, rfl, "list_iterator", _, ⟨_, Heap.get?_push_size _ rfl, rfl⟩, slot_listiter_next.lookup, k⟩))
  unfold pyIter callSpecialIfBoundUnlessNone? bindSpecialIfBound?
  refine wpAny_bind (wpAny_bind (T.here ((looks_findIn X H.it).here ?_)))
  refine wpAny_bind (wpAny_holding (wpAny_bind (wpAny_bind (wpAny_bind (T.here ((looks_findIn X H.it).here ?_))))))
  refine wpAny_bind (wpAny_askSetting ?_)
  have fin : ∀ (g : Value × List Value), g = (.builtin "list.__iter__", [.ref a]) → wpAny (model prog w) A (if (g.1 == Value.none) = true then (do let v ← (do rule "iter.none"; raiseError "TypeError" s!"'{← typeNameOf (.ref a)}' object is not iterable"); pure (some v)) else do let v ← call g.1 g.2; pure (some v))
      (fun o s' => wpAny (model prog w) A (match o with
        | some it => (specialOf it "__next__" >>= fun x => match x with
          | none => (do rule "iter.non-iterator"; raiseError "TypeError" s!"iter() returned non-iterator of type '{← typeNameOf it}'")
          | some _ => pure it)
        | none => (bindSpecialIfBound? (.ref a) "__getitem__" >>= fun x => match x with
          | none => (do rule "iter.not-iterable"; raiseError "TypeError" s!"'{← typeNameOf (.ref a)}' object is not iterable")
          | some _ => (do rule "iter.getitem-fallback"; newFields "iterator" [.ref a, ← mkInt 0]))) R E s') E s := by
    rintro g rfl
    rw [if_neg (show ¬ ((Value.builtin "list.__iter__" == Value.none) = true) by decide)]
    refine wpAny_bind (wpAny_mono hcall (fun it s' ⟨T', r, h1, h2, h3⟩ => wpAny_pure ?_) fun _ _ z => z)
    exact wpAny_bind (wpAny_specialOf h1 h2 (wpAny_pure h3))
  split
  · refine wpAny_bind (wpAny_of_eq (slot_list_iter.bind _) (wpAny_pure ?_))
    exact fin _ rfl
  · refine wpAny_tryCatch (wpAny_bind (wpAny_of_eq (slot_list_iter.bind _) (wpAny_pure ?_)))
    exact fin _ rfl

theorem seq_next {i : Nat} {ob : Obj} {vs : List Value} {n : Nat} {x : Value} {R : Option Value → Shared → Prop} (hit : s.heap.IsListIter it a i) (ho : s.heap.get? a = some ob) (hd : ob.data = .seq vs.toArray n) (hx : vs[i]? = some x)
    (k : ∀ h', h'.IsListIter it a (i + 1) → Heap.SameBut it s.heap h' → R (some x) { s with heap := h' }) : wpAny (model prog w) A (pyNext (.ref it)) R E s := by
  obtain ⟨oi, hoi, hci, hdi⟩ := id hit
  have hbody : wpAny (model prog w) A.in1 (Builtin.«list_iterator.__next__» ⟨[.ref it], []⟩) (fun fin s' => ∃ v, fin = .done (.ret v) ∧ (v = x ∧ ∃ h', h'.IsListIter it a (i + 1) ∧ Heap.SameBut it s.heap h' ∧ s' = { s with heap := h' })) (fun _ _ => False) s := by
    show wpAny _ _ (field (.ref it) 0 >>= _) _ _ s
    refine wpAny_bind (wpAny_field hoi hdi (x := .ref a) rfl ?_)
    show wpAny _ _ (if (Value.ref a == Value.none) = true then _ else _) _ _ s
    rw [if_neg (show ¬ ((Value.ref a == Value.none) = true) from Bool.false_ne_true)]
    show wpAny _ _ (field (.ref it) 1 >>= _) _ _ s
    refine wpAny_bind (wpAny_field hoi hdi (x := .int i 0) rfl ?_)
    show wpAny _ _ (seqItems? (.ref a) >>= _) _ _ s
    refine wpAny_bind (wpAny_seqItems ho hd ?_)
    have e : vs.toArray[((i : Int)).toNat]? = some x := by rw [Int.toNat_natCast, List.getElem?_toArray]; exact hx
    simp only [e]
    refine wpAny_bind (wpAny_setField hoi hdi (by simp) (wpAny_pure ⟨x, rfl, rfl, _, ⟨_, Heap.get?_update_self _ hoi (Obj.isFreed_of_fields (Obj.data_mapFields hdi _)), (Obj.cls_mapFields ..).trans hci, ?_⟩, Heap.SameBut.update .., rfl⟩))
    rw [Obj.data_mapFields hdi]; simp [rawInt]
  unfold pyNext
  refine wpAny_bind (wpAny_attempt (wpAny_callSpecial?_slot (name := Str.ofString "__next__") hit.typeIs slot_listiter_next (wpAny_call_entry slot_listiter_next hit.typeIs entry_listiter_next ?_ (args_listiter_next _))))
  refine wpAny_mono hbody (fun fin s' ⟨v, e, hv, h', h1, h2, h3⟩ => ?_) fun _ _ z => z.elim
  subst e hv h3
  exact ⟨_, rfl, wpAny_pure (k h' h1 h2)⟩
theorem seq_stop {i : Nat} {ob : Obj} {vs : List Value} {n : Nat} {R : Option Value → Shared → Prop} (hh : A.handled = none) (hit : s.heap.IsListIter it a i) (ho : s.heap.get? a = some ob) (hd : ob.data = .seq vs.toArray n) (hx : vs[i]? = none)
    (k : ∀ h', Heap.ExtBut it s.heap h' → R none { s with heap := h' }) : wpAny (model prog w) A (pyNext (.ref it)) R E s := by
  obtain ⟨oi, hoi, hci, hdi⟩ := id hit
  unfold pyNext
  refine wpAny_bind (wpAny_attempt (wpAny_callSpecial?_slot (name := Str.ofString "__next__") hit.typeIs slot_listiter_next (wpAny_call_entry slot_listiter_next hit.typeIs entry_listiter_next ?_ (args_listiter_next _))))
  show wpAny _ _ (field (.ref it) 0 >>= _) _ _ s
  refine wpAny_bind (wpAny_field hoi hdi (x := .ref a) rfl ?_)
  show wpAny _ _ (if (Value.ref a == Value.none) = true then _ else _) _ _ s
  rw [if_neg (show ¬ ((Value.ref a == Value.none) = true) from Bool.false_ne_true)]
  show wpAny _ _ (field (.ref it) 1 >>= _) _ _ s
  refine wpAny_bind (wpAny_field hoi hdi (x := .int i 0) rfl ?_)
  show wpAny _ _ (seqItems? (.ref a) >>= _) _ _ s
  refine wpAny_bind (wpAny_seqItems ho hd ?_)
  have e : vs.toArray[((i : Int)).toNat]? = none := by rw [Int.toNat_natCast, List.getElem?_toArray]; exact hx
  simp only [e]
  refine wpAny_bind (wpAny_rule (wpAny_bind (wpAny_setField hoi hdi (by simp) ?_)))
  show wpAny _ _ (newExc (.type "StopIteration") [] >>= _) _ _ _
  refine wpAny_bind ?_
  simp only [newExc, newTuple]
  refine wpAny_bind (wpAny_newObj_type ?_ (by size_fits))
  refine wpAny_bind (m := firstArgMember _ _) (wpAny_of_eq (a := Value.none) (by first | rfl | (simp only [firstArgMember]; rfl)) ?_)
  refine wpAny_newObj_type ?_ (by size_fits)
  simp only [raiseNew]
  refine wpAny_bind (wpAny_handled ?_)
  rw [show A.in1.handled = none from hh]
  refine wpAny_bind (wpAny_pure (wpAny_throw ?_))
  refine wpAny_bind (wpAny_isInstance (T := "StopIteration") (b := true) ⟨_, Heap.get?_push_size _ rfl, rfl⟩ isSubtype_stop ?_)
  exact wpAny_pure (k _ (((Heap.SameBut.update ..).extBut.push _).push _))
end

theorem walks_pairs {prog : Program} {w : World} {A : Around} (hh : A.handled = none) (I ax : Addr) (hne : ax ≠ I) (ob : Obj) (n : Nat) (vs : List Value) (hd : ob.data = .seq vs.toArray n) (Ts : Nat → Addr) (vals : Nat → Array Value)
    (hit : ∀ j, j < vs.length → vs[j]? = some (.ref (Ts j))) (hTI : ∀ j, j < vs.length → Ts j ≠ I) :
    WalksU prog w A I (I :: ax :: (List.range vs.length).map Ts) [I] vs.length (fun j v => j < vs.length ∧ v = vals j)
      (fun j h => h.IsListIter I ax j ∧ h.get? ax = some ob ∧ ∀ k, k < vs.length → h.IsTuple (Ts k) (vals k))
      (fun j T h => (j < vs.length ∧ T = Ts j) ∧ h.IsListIter I ax (j + 1) ∧ h.get? ax = some ob ∧ ∀ k, k < vs.length → h.IsTuple (Ts k) (vals k)) where
  sub := fun b hb => by simp at hb; simp [hb]
  frame := fun _ _ _ st hk => ⟨st.1.at fun o e => hk I (by simp) o e, hk ax (by simp) _ st.2.1,
    fun k hk' => (st.2.2 k hk').at fun o e => hk (Ts k) (List.mem_cons_of_mem _ (List.mem_cons_of_mem _ (List.mem_map.mpr ⟨k, List.mem_range.mpr hk', rfl⟩))) o e⟩
  item := fun i s Q E hi st hQ => by
    refine seq_next st.1 st.2.1 hd (hit i hi) fun h' hit' hs' => ?_
    have tup : ∀ k, k < vs.length → h'.IsTuple (Ts k) (vals k) := fun k hk' => (st.2.2 k hk').extBut hs'.extBut (hTI k hk')
    exact hQ (Ts i) (vals i) h' s.toks ⟨hi, rfl⟩ (tup i hi) ⟨⟨hi, rfl⟩, hit', (hs'.2 ax hne).trans st.2.1, tup⟩ fun b o hb e => hs'.extBut b o (fun h => hb (by simp [h])) e
  go := fun _ _ _ _ _ s Q _ hm hQ => wpAny_letOwnedTupleGo_listiter hm.2.1 (hQ s.heap hm.2 fun _ _ _ e => e)
  apart := fun j T _ hm hmem => by
    rcases List.mem_cons.mp hmem with e | e
    · exact hTI j hm.1.1 (hm.1.2 ▸ e)
    · cases e
  done := fun s Q E st hQ => seq_stop hh st.1 st.2.1 hd (by simp) fun h' he' => hQ h' s.toks fun b o hb e => he' b o (fun h => hb (by simp [h])) e
  self := fun _ _ _ _ st hQ => wpAny_pyIter_listiter st.1 hQ
end Mine

end
section
open PySem PySem.W PySem.Builtin PySem.Builtin.ObjectAttr
open PyProof.Rows hiding wpAt wpAt_bind
set_option linter.unusedSectionVars false
set_option maxRecDepth 100000
set_option maxHeartbeats 1000000
set_option linter.unusedVariables false
namespace Mine
variable [aI : Membership Nat Unit]
noncomputable def shiftVal (k : Int) (val : Nat → Int) : Nat → Int
  | 0 => k
  | j + 1 => val j
theorem preSum_shift (k : Int) (val : Nat → Int) : ∀ n, preSum (shiftVal k val) (n + 1) = k + preSum val n
  | 0 => by simp [preSum, shiftVal]
  | n + 1 => by
    have := preSum_shift k val n
    show preSum (shiftVal k val) (n + 1) + shiftVal k val (n + 1) = k + (preSum val n + val n)
    rw [this]; show k + preSum val n + val n = _; omega
theorem args_sum2 (a b : Value) : argsOk "sum" ⟨[a, b], []⟩ := by unfold argsOk; kernel_rfl
section
variable {prog : Program} {w : World} {A : Around} {E : Value → Shared → Prop} {s : Shared}
theorem shiftWalk {I : Addr} {fp wr : List Addr} {G : Array GenState → Array GenState → Prop} {n : Nat} {P : Nat → Value → Prop} {St : Nat → Shared → Prop} (W : WalksS prog w A I fp wr G n P St) :
    WalksS prog w A I fp wr G (n + 1) (fun j v => ∃ i, j = i + 1 ∧ P i v) (fun j s => ∃ i, j = i + 1 ∧ St i s) where
  sub := W.sub
  grefl := W.grefl
  gtrans := W.gtrans
  frame := fun j s h' tk ⟨i, e, st⟩ a b => ⟨i, e, W.frame i s h' tk st a b⟩
  item := fun j s Q E hj ⟨i, e, st⟩ k => W.item i s Q E (by omega) st fun v s' p st' m => k v s' ⟨i, e, p⟩ ⟨i + 1, by omega, st'⟩ m
  done := fun s Q E ⟨i, e, st⟩ k => W.done s Q E ((show n = i by omega) ▸ st) k
  self := fun j s Q E ⟨i, e, st⟩ q => W.self i s Q E st q
theorem call_sum2 {x : Value} {k : Int} {t : Tok} {Q : Value → Shared → Prop}
    (h : wpAny (model prog w) A.in1 (pyIter x) (fun it s₂ => ∃ I fp wr G n P St val, it = .ref I ∧ WalksS prog w A.in1 I fp wr G n P St ∧ St 0 s₂ ∧ (∀ b ∈ fp, b < s₂.heap.objs.size) ∧
      (∀ i v, P i v → ∃ t, v = .int (val i) t) ∧ ∀ s' t', Moved wr G s₂ s' → Q (.int (k + preSum val n) t') s') E s) :
    wpAny (model prog w) A (call (.builtin "sum") [x, .int k t]) Q E s := by
  refine call_function_tree F.kind_sum F.plain_sum F.entry_sum (args_sum2 _ _) ?_
  unfold Builtin.«sum»
  simp only [List.length_cons, List.length_nil]
  rw [if_neg (by decide)]
  refine wpAny_bind (wpAny_of_eq (show Builtin.Builtins.bindParams "sum" ["start"] 0 ⟨[.int k t], []⟩ = pure [some (.int k t)] from rfl) ?_)
  refine wpAny_bind (wpAny_mono h (fun it s₂ h₂ => ?_) fun _ _ e => e)
  obtain ⟨I, fp, wr, G, n, P, St, val, rfl, W, hst, hfp, hval, hQ⟩ := h₂
  have W' := shiftWalk W
  have hval' : ∀ i v, (∃ j, i = j + 1 ∧ P j v) → ∃ t, v = .int (shiftVal k val i) t := fun i v ⟨j, e, p⟩ => by subst e; exact hval j v p
  have tail : ∀ (t₁ : Tok) (tk : Nat) (st : Int), (st = 0 ∨ st = 2) → s₂.toks ≤ tk → wpAny (model prog w) A.in1 (do
      for (ty, what, hint) in [("str", "strings", "''"), ("bytes", "bytes", "b''"), ("bytearray", "bytearray", "b''")] do
        if ← isInstance (.int k t₁) (.type ty) then
          rule "sum.start-refused"; raiseError "TypeError" s!"sum() can't sum {what} [use {hint}.join(seq) instead]"
      again (.builtin "sum.loop" ⟨[.ref I, ← newList [.int k t₁], rawInt st, rawInt 0], []⟩))
      (fun fin s' => match fin with
        | .done f => (match (Except.ok f : Result) with | .ok (.ret v) => Q v s' | .ok _ => False | .error e => E e s')
        | .again c' => c'.quiet = true ∧ codeAny (model prog w) A c' (fun r s' => match r with | .ok (.ret v) => Q v s' | .ok _ => False | .error e => E e s') s') E { s₂ with toks := tk } := by
    intro t₁ tk st hst2 htk
    simp only [List.forIn_cons, List.forIn_nil]
    refine wpAny_bind (wpAny_bind (wpAny_bind (wpAny_isInstance (T := "int") (b := false) (typeIs_int _ _ _) PySem.sub_int_str ?_)))
    simp only [Bool.false_eq_true, if_false]
    refine wpAny_pure (wpAny_bind (wpAny_bind (wpAny_isInstance (T := "int") (b := false) (typeIs_int _ _ _) PySem.sub_int_bytes ?_)))
    simp only [Bool.false_eq_true, if_false]
    refine wpAny_pure (wpAny_bind (wpAny_bind (wpAny_isInstance (T := "int") (b := false) (typeIs_int _ _ _) PySem.sub_int_bytearray ?_)))
    simp only [Bool.false_eq_true, if_false]
    refine wpAny_pure (wpAny_pure ?_)
    refine wpAny_bind (wpAny_newObj_type ?_)
    have hSf : s₂.heap.objs.size ∉ fp := fun hm => Nat.lt_irrefl _ (hfp _ hm)
    have e1 : preSum (shiftVal k val) 1 = k := by simp [preSum, shiftVal]
    refine wpAny_pure ⟨plainId_quiet F.plain_sum_loop _, codeAny_sum_loopAnyS W' (shiftVal k val) hval' s₂.heap.objs.size hSf n 1 _ t₁ 0 st hst2 (by omega) (by omega)
      (W'.frame 1 s₂ _ _ ⟨0, rfl, hst⟩ htk fun b _ o e => Heap.get?_push_of_some _ e) (by rw [e1]; exact Heap.get?_push_size _ rfl) fun s' t' hm => ?_⟩
    rw [preSum_shift]
    exact hQ s' t' (hm.drop_new htk)
  dsimp only
  split
  · refine wpAny_bind (wpAny_rule (wpAny_bind (wpAny_mkInt (wpAny_bind (wpAny_pure ?_)))))
    exact tail _ _ 0 (.inl rfl) (by first | exact Nat.le_succ _ | exact Nat.le_refl _)
  · refine wpAny_bind (wpAny_pure ?_)
    exact tail _ _ 2 (.inr rfl) (Nat.le_refl _)
end
end Mine

end
section
open PySem PySem.W PySem.Builtin PySem.Builtin.ObjectAttr
open PyProof.Rows hiding wpAt wpAt_bind
set_option linter.unusedSectionVars false
set_option maxRecDepth 100000
set_option maxHeartbeats 1000000
set_option linter.unusedVariables false
namespace Mine
variable [aI : Membership Nat Unit]
noncomputable def codeTab (K : Frag) (c T : Addr) : Bool := match K.lookup c with
  | some ⟨oc, _, .fields vs, _⟩ => oc == .type "code" && (match (vs[11]? : Option Value), vs.getD 18 .none, vs.getD 7 .none, vs.getD 9 .none, vs.getD 10 .none with
     | some (Value.ref P), .str _ _, .int _ _, .bool _, .int _ _ => P == T
     | _, _, _, _, _ => false) && c != T
  | _ => false
theorem isCode_of {K : Frag} {h : Heap} {c T : Addr} (X : K.In h) (e : codeTab K c T = true) {ps : Array Value} (hp : h.get? T = some (tabObj ps)) (htr : TriplesOk ps.toList) : h.IsCode c T ps ∧ h.TableAt c T ps := by
  unfold codeTab at e
  split at e
  · rename_i oc od vs sl ho
    rw [Bool.and_eq_true, Bool.and_eq_true] at e
    obtain ⟨⟨e0, e1⟩, e2⟩ := e
    split at e1
    · rename_i P fl tf fg tg inF tx tt h11 h18 h7 h9 h10
      rw [beq_iff_eq] at e1 e0
      subst e1
      have h11' : vs.getD 11 .none = .ref P := by rw [Array.getD_eq_getD_getElem?, h11]; rfl
      exact ⟨⟨_, vs, _, _, _, _, _, _, _, _, X _ _ ho, rfl, h11', h18, h7, h9, h10, hp, rfl, htr, by simpa using e2⟩, ⟨_, vs, X _ _ ho, e0, rfl, h11⟩, hp⟩
    · cases e1
  · cases e
theorem gen_code {prog : Program} {w : World} {A : Around} {E : Value → Shared → Prop} {s : Shared} {K : Frag} {env : Env} {c T : Addr} {pos : Pos} {qn : Str} {scope : Scope} {Q : Value → Shared → Prop} (hc : env.code = .ref c) (X : K.In s.heap) (e : codeTab K c T = true) (r : OR s.heap T .tab)
    (hQ : ∀ code h' tk, Heap.ExtBut T s.heap h' → OR h' T .tab → Q code { s with heap := h', toks := tk }) : wpAny (model prog w) A (genexprCode env pos qn scope) Q E s := by
  obtain ⟨ps, hp, htr⟩ := id r
  obtain ⟨hok, ht⟩ := isCode_of X e hp htr
  cases hf : codeAmong pos ps.toList with
  | some c' => exact wpAny_genexprCode_hit hc hok hf (hQ c' s.heap s.toks (fun _ _ _ e => e) r)
  | none =>
    refine wpAny_genexprCodeX hc hok ht hf fun c' h' tk hx _ _ hk' _ ht' _ => hQ _ h' tk hx ⟨_, ht'.2, ?_⟩
    obtain ⟨o, ws, fl, tf, flg, tg, inF, tx, tt, op, q1, q2, q3, q4, q5, q6, q7, q8, q9, q10, q11⟩ := hk'
    exact q10

structure GenOk (Γ : Fm) (scope : Scope) (iter : PySem.Expr) (xa xb : Str) (c T : Addr) : Prop where
  co : scope.isCoroutine = false
  clos : closureFor scope Γ.env = pure []
  cell : ∀ y ∈ scope.names, y.2 ≠ .cell
  h0 : scope.names.lookup (".0" : Str) = some NameKind.local
  ha : scope.names.lookup xa = some .local
  hb : scope.names.lookup xb = some .local
  ab : xa ≠ xb
  kind : scope.kind = .function
  code : Γ.env.code = .ref c
  tab : codeTab Γ.K c T = true
  fold : ∀ x, genFold iter Γ.env x = pure x
  lim : ∀ h, Γ.K.In h → h.NoLimit

section
variable {Γ : Fm} {loc : Loc} {own own' : Own} {Q : QV} {QQ : QF}
theorem pairs_at {h : Heap} : ∀ {vs : List Value} {ps : List (Dv × Dv)}, VRs h vs (ps.map fun p => .tup [p.1, p.2]) → ∃ (Ts : Nat → Addr) (vals : Nat → Array Value), (∀ j, j < vs.length → vs[j]? = some (.ref (Ts j))) ∧ (∀ j, j < vs.length → h.IsTuple (Ts j) (vals j)) ∧ (∀ j, ∃ va vb, vals j = #[va, vb]) ∧
    (∀ j p, ps[j]? = some p → ∃ va vb, vals j = #[va, vb] ∧ VR h va p.1 ∧ VR h vb p.2) ∧ ∀ j, j < vs.length → ¬ Hid (Ts j)
  | [], [], _ => ⟨fun _ => 0, fun _ => #[.none, .none], by simp, by simp, fun _ => ⟨_, _, rfl⟩, by simp, by simp⟩
  | v :: vs, p :: ps, .cons x y => by
    obtain ⟨Ts, vals, a, b, b2, c, nh⟩ := pairs_at y
    cases x with
    | @tup A' ws n es n0 e r =>
      cases r with
      | cons r1 r2 =>
        cases r2 with
        | cons r2 r3 =>
          cases r3
          rename_i va vb
          refine ⟨fun j => match j with | 0 => A' | j + 1 => Ts j, fun j => match j with | 0 => #[va, vb] | j + 1 => vals j, fun j hj => ?_, fun j hj => ?_, fun j => ?_, fun j q hq => ?_, fun j hj => ?_⟩
          · cases j with
            | zero => rfl
            | succ j => exact a j (by simpa using hj)
          · cases j with
            | zero => exact ⟨_, e, rfl, _, rfl⟩
            | succ j => exact b j (by simpa using hj)
          · cases j with
            | zero => exact ⟨_, _, rfl⟩
            | succ j => exact b2 j
          · cases j with
            | zero => simp at hq; subst hq; exact ⟨va, vb, rfl, r1, r2⟩
            | succ j => exact c j q (by simpa using hq)
          · cases j with
            | zero => exact n0
            | succ j => exact nh j (by simpa using hj)

theorem Rel.extTab {h₀ h h' : Heap} {L T : Addr} {loc : Loc} {own : Own} (r : Rel h₀ L loc own h) (ht : HasO T .tab own) (x : Heap.ExtBut T h h') (o : OR h' T .tab) : Rel h₀ L loc own h' ∧ Pers h h' := by
  obtain ⟨own', u⟩ := ht.upd .tab
  cases u.same
  have hp : Pers h h' := fun a vs n _ e => x a _ (fun z => by
    subst z
    obtain ⟨ps, q, q'⟩ := r.ow.at_ _ u.mem
    rw [q] at e; simp at e) e
  refine ⟨⟨⟨fun b ob e => x b ob (fun z => by subst z; have := r.ow.off _ u.mem; rw [e] at this; cases this) (r.ow.keep b ob e), fun p hp' => ?_, r.ow.off, r.ow.nd⟩, ⟨?_, r.lc.fresh, r.lc.off, r.lc.nd⟩⟩, hp⟩
  · rcases u.of_mem r.ow.nd p hp' with rfl | ⟨q, e⟩
    · exact o
    · obtain ⟨ob, z, _⟩ := (r.ow.at_ p q).some
      exact (r.ow.at_ p q).mono hp ((x _ _ e z).trans z.symm)
  · obtain ⟨m, ⟨ob, es, ep, q, z⟩, k⟩ := r.lc.ns
    exact ⟨m, ⟨ob, es, ep, x _ _ (fun e => r.lc.off _ u.mem e.symm) q, z⟩, fun y d hy => by obtain ⟨v, a, b⟩ := k y d hy; exact ⟨v, a, b.mono hp⟩⟩
theorem passing_all (n : Nat) : passing (fun _ => true) n 0 = List.range n := by
  unfold passing; simp

theorem WalksS.weak {prog : Program} {w : World} {A : Around} {I : Addr} {fp wr : List Addr} {G : Array GenState → Array GenState → Prop} {n n' : Nat} {P P' : Nat → Value → Prop} {St : Nat → Shared → Prop} (W : WalksS prog w A I fp wr G n P St) (hn : n = n') (hp : ∀ j v, P j v → P' j v) :
    WalksS prog w A I fp wr G n' P' St where
  sub := W.sub
  grefl := W.grefl
  gtrans := W.gtrans
  frame := W.frame
  item := fun j s Q E hj st k => W.item j s Q E (hn ▸ hj) st fun v s' p st' m => k v s' (hp _ _ p) st' m
  done := fun s Q E st k => W.done s Q E (hn ▸ st) k
  self := W.self

theorem gen_pairs {elt iter : PySem.Expr} {xa xb : Str} {pa pb pt pos : Pos} {kt : Nat} {scope : Scope} {c T x C d : Addr} {ps : List (Dv × Dv)} {F : Nat → Value → Prop} {R : Value → Shared → Prop} {h₀ : Heap} {s : Shared}
    (O : GenOk Γ scope iter xa xb c T) (H : AccK Γ.K C) (hroom : Γ.A.depth < recursionLimit) (g : Gd Γ.K h₀) (rel : Rel h₀ Γ.env.locals loc own s.heap)
    (hi : Ev Γ loc own iter fun e loc' own' => e = .raw (.ref x) ∧ loc' = loc ∧ own' = own) (ha : HasO x (.acc C d (ps.map fun p => .tup [p.1, p.2])) own) (ht : HasO T .tab own)
    (he : ∀ (cenv : Env) (A' : Around) E' i p va vb (s₂ : Shared) m₂, cenv.scope = scope → cenv.globals = mainGlobals → cenv.builtins = builtinsNs → A'.handled = none → A'.depth ≤ Γ.A.depth + 1 → A'.units ≤ Γ.A.units + 8 → ps[i]? = some p → VR s₂.heap va p.1 → VR s₂.heap vb p.2 →
      s₂.heap.Ns cenv.locals m₂ → m₂ xa = some va → m₂ xb = some vb → Gd Γ.K s₂.heap → wpAny (model Γ.prog Γ.w) A' (eval elt cenv) (fun y s₃ => F i y ∧ Keeps s₂ s₃) E' s₂)
    (k : ∀ a (s₅ : Shared) fp wr G St, Stays s s₅ → ((∀ x y, G x y → AllBare x → AllBare y) ∧ (∀ i s', St i s' → s'.TypeIs (.ref a) "generator") ∧ a ∈ fp) → Rel h₀ Γ.env.locals loc own s₅.heap → (∀ h', ExtOff wr s₅.heap h' → Pers s.heap h' ∧ Rel h₀ Γ.env.locals loc own h') → (∀ b ∈ fp, b < s₅.heap.objs.size) →
      WalksS Γ.prog Γ.w Γ.A.in4 a fp wr G ps.length F St → St 0 s₅ → R (.ref a) s₅) :
    wpAny (model Γ.prog Γ.w) Γ.A (eval (.GeneratorExp elt [⟨.Tuple [.Name xa pa, .Name xb pb] kt pt, iter, [], 0⟩] scope pos) Γ.env) R Γ.E s := by
  refine wpAny_GeneratorExp_walksQTD Γ.hh O.co O.clos O.cell O.h0 O.ha O.hb O.ab O.kind hroom (hi.use g rel fun e loc own s1 v p1 r1 v1 ⟨e1, e2, e3⟩ => ?_) O.fold
  subst e1 e2 e3
  cases v1
  refine Classical.byContradiction fun hN => ?_
  obtain ⟨vs, n, ho, hv⟩ := r1.ow.at_ _ ha.mem
  obtain ⟨Ts, vals, a1, a2, a3, a4, _⟩ := pairs_at hv
  obtain ⟨psT, hTg, hTr⟩ := r1.ow.at_ _ ht.mem
  obtain ⟨mg, bm, ob, M⟩ := g.bmd
  refine hN ?_
  clear hN
  refine acc_iter H (g.kin.keeps r1.ow.keep) ho ?_
  obtain ⟨h1, gs1, dr1, tk1, os1⟩ := s1
  dsimp only at p1 r1 ho hv hTg hTr a2 a4 ⊢
  have ex2 : Ext h1 (h1.push { cls := .type "list_iterator", data := .fields #[.ref x, .int 0 0] }) := Ext.push _
  have hI : (h1.push { cls := .type "list_iterator", data := .fields #[.ref x, .int 0 0] }).get? h1.objs.size = some { cls := .type "list_iterator", data := .fields #[.ref x, .int 0 0] } := Heap.get?_push_size _ rfl
  generalize h1.push { cls := .type "list_iterator", data := .fields #[.ref x, .int 0 0] } = h2 at ex2 hI
  have r2 := r1.ext ex2
  have X2 : Γ.K.In h2 := g.kin.keeps r2.ow.keep
  have hIn : h1.get? h1.objs.size = none := get_size_none _
  refine ⟨O.lim _ X2, ?_⟩
  replace hTg := ex2 _ _ hTg
  refine gen_code O.code X2 O.tab (r2.ow.at_ _ ht.mem) fun code h3 tk3 hx3 orT => ?_
  obtain ⟨r3, p3⟩ := r2.extTab ht hx3 orT
  have X3 : Γ.K.In h3 := g.kin.keeps r3.ow.keep
  have g3 : Gd Γ.K h3 := g.ext r3.ow.keep
  replace M := M.keeps r3.ow.keep
  refine wpAny_builtinsFor (globals := Γ.env.globals) (Γ.hg ▸ M.ns) M.name M.ne M.obj M.cls M.dict M.data ?_
  have IneT : h1.objs.size ≠ T := fun z => by
    obtain ⟨ob', q, _⟩ := (r1.ow.at_ _ ht.mem).some
    rw [show ((T, AObj.tab) : Addr × AObj).1 = T from rfl, ← z, hIn] at q; cases q
  have xneT : x ≠ T := fun z => by
    have q := ex2 _ _ ho
    rw [z, hTg] at q; simp at q
  have TneT : ∀ j, j < vs.length → Ts j ≠ T := fun j hj z => by
    obtain ⟨o', q, q2, n', q3⟩ := a2 j hj
    rw [z] at q
    rw [ex2 _ _ q] at hTg; cases hTg; cases q3
  have hI3 := hx3 _ _ IneT hI
  have hx3' := hx3 _ _ xneT (ex2 _ _ ho)
  have xneI : x ≠ h1.objs.size := Nat.ne_of_lt (Heap.lt_size ho)
  have TneI : ∀ j, j < vs.length → Ts j ≠ h1.objs.size := fun j hj => by
    obtain ⟨o', q, _⟩ := a2 j hj
    exact Nat.ne_of_lt (Heap.lt_size q)
  have tup3 : ∀ j, j < vs.length → h3.IsTuple (Ts j) (vals j) := fun j hj => by
    obtain ⟨o', q, q2⟩ := a2 j hj
    exact ⟨o', hx3 _ _ (TneT j hj) (ex2 _ _ q), q2⟩
  have hlen : vs.length = ps.length := by rw [hv.length, List.length_map]
  have hl1 := O.lim _ (g.kin.keeps r1.ow.keep)
  have hcs : cStatics ≠ h1.objs.size := by obtain ⟨m, hn, _⟩ := hl1; exact Nat.ne_of_lt hn.lt
  refine ⟨h1.objs.size, _, _, vs.length, _, _, _, fun _ => true, F, rfl, fun A' hA => walks_pairs hA h1.objs.size x xneI (accObj C d vs n) n vs rfl Ts vals a1 TneI, fun i v z => ?_, ⟨⟨_, hI3, rfl, rfl⟩, hx3', tup3⟩, ?_, O.lim _ X3, by simpa using hcs, fun href hh => ?_, fun a h5 tk gs hb hlt hsz hk5 W hat => ?_⟩
  · obtain ⟨va, vb, e⟩ := a3 i; exact ⟨va, vb, z.2.trans e⟩
  · intro b hb
    rcases List.mem_cons.mp hb with rfl | hb
    · exact Heap.lt_size hI3
    · rcases List.mem_cons.mp hb with rfl | hb
      · exact Heap.lt_size hx3'
      · obtain ⟨j, hj, rfl⟩ := List.mem_map.mp hb
        obtain ⟨o', q, _⟩ := tup3 j (List.mem_range.mp hj)
        exact Heap.lt_size q
  · refine ⟨fun A' E' i va vb s₂ m₂ _ _ _ _ _ _ _ _ => wpAny_pure ⟨rfl, s₂.heap, s₂.toks, rfl, fun _ _ e => e⟩, fun A' E' i va vb s₂ m₂ hA hD hU hP _ hn hma hmb hkp => ?_⟩
    have hil : i < ps.length := hlen ▸ hP.1
    have hpi : ps[i]? = some ps[i] := List.getElem?_eq_getElem hil
    obtain ⟨va', vb', e, v1, v2⟩ := a4 i _ hpi
    have ev := hP.2.trans e
    have : va = va' ∧ vb = vb' := by
      have := congrArg Array.toList ev
      simpa using this
    obtain ⟨rfl, rfl⟩ := this
    have move : ∀ b o, h3.get? b = some o → b ≠ h1.objs.size → s₂.heap.get? b = some o := fun b o q nb => hkp b (List.mem_range.mpr (Heap.lt_size q)) (by simpa using nb) o (hh b o q)
    have hp12 : Pers h1 s₂.heap := fun b ws m nq q => move b _ (p3 b ws m nq (ex2 _ _ q)) (Nat.ne_of_lt (Heap.lt_size q))
    have ge : Ext h₀ s₂.heap := fun b o q => move b o (r3.ow.keep b o q) fun z => by
      rw [z, r1.ow.keep.none hIn] at q; cases q
    exact he _ A' E' i _ va vb s₂ m₂ rfl Γ.hg rfl hA hD hU hpi (v1.mono hp12) (v2.mono hp12) hn hma hmb (g.ext ge)
  · have pp3 : Pers s.heap h3 := p1.p.trans ((Ext.pers ex2).trans p3)
    have ap : Apart [h3.objs.size, h1.objs.size] h₀ Γ.env.locals own := by
      have n3 := get_size_none h3
      refine ⟨fun b hb => ?_, fun b hb z => ?_, fun b hb p hp z => ?_⟩ <;> (rcases List.mem_cons.mp hb with rfl | hb; rotate_left; rcases List.mem_cons.mp hb with rfl | hb; rotate_left; cases hb)
      · exact r3.ow.keep.none n3
      · exact r1.ow.keep.none hIn
      · obtain ⟨m, ⟨o, _, _, q, _⟩, _⟩ := r3.lc.ns
        rw [← z, n3] at q; cases q
      · obtain ⟨m, ⟨o, _, _, q, _⟩, _⟩ := r1.lc.ns
        rw [← z, hIn] at q; cases q
      · obtain ⟨o, q, _⟩ := (r3.ow.at_ p hp).some
        rw [z, n3] at q; cases q
      · obtain ⟨o, q, _⟩ := (r1.ow.at_ p hp).some
        rw [z, hIn] at q; cases q
    refine k a _ _ _ _ _ ⟨pp3.trans (Ext.pers hk5), p1.os, fun h0 => (p1.bare h0).push hb⟩ ⟨fun _ _ x y => y.moved x, fun _ _ st => st.1.typeIs, .head _⟩ (r3.ext hk5) (fun h' e => ?_) ?_ (WalksS.weak W ?_ fun j v ⟨i, q, hf⟩ => ?_) hat
    · have e3 : ExtOff [h3.objs.size, h1.objs.size] h3 h' := fun b o nb q => e b o nb (hk5 b o q)
      have p3' : Pers h3 h' := fun b ws m _ q => e3 b _ (fun hb => by
        rcases List.mem_cons.mp hb with rfl | hb
        · rw [get_size_none] at q; cases q
        · rcases List.mem_cons.mp hb with rfl | hb
          · rw [hI3] at q; simp at q
          · cases hb) q
      exact ⟨pp3.trans p3', r3.others e3 ap p3'⟩
    · intro b hb
      show b < h5.objs.size
      rw [hsz]
      rcases List.mem_cons.mp hb with rfl | hb
      · exact Nat.lt_succ_self _
      · rcases List.mem_cons.mp hb with rfl | hb
        · exact Nat.lt_succ_of_lt hlt
        · exact Nat.lt_succ_of_lt (Nat.lt_trans (List.mem_range.mp hb) hlt)
    · rw [passing_all, List.length_range, hlen]
    · rw [passing_all] at q
      obtain ⟨hj, rfl⟩ := List.getElem?_eq_some_iff.mp q
      simpa using hf
end
end Mine

end
section
open PySem PySem.W PySem.Builtin PySem.Builtin.ObjectAttr
open PyProof.Rows hiding wpAt wpAt_bind
set_option linter.unusedSectionVars false
set_option maxRecDepth 100000
set_option maxHeartbeats 1000000
set_option linter.unusedVariables false
namespace Mine
variable [aI : Membership Nat Unit]
section
variable {prog : Program} {w : World} {A : Around} {E : Value → Shared → Prop} {s : Shared} {K : Frag} {env : Env} {m : Str → Option Value}
theorem Keeps.refl {s : Shared} : Keeps s s := ⟨s.heap, s.toks, rfl, fun _ _ e => e⟩
theorem Keeps.toks {s s' : Shared} {n : Nat} (k : Keeps s s') : Keeps s { s' with toks := n } := by obtain ⟨h, t, e, q⟩ := k; exact ⟨h, n, by rw [e], q⟩
theorem low_len {x : Str} {p1 p2 p3 : Pos} {a : Str} {t : Tok} {R : Value → Shared → Prop} (hk : env.scope.kind = .function) (hl : env.kindOf "len" = some .globalImplicit) (hx : env.kindOf x = some .local) (hd : (x == ("__debug__" : Str)) = false) (hg : env.globals = mainGlobals) (hb : env.builtins = builtinsNs)
    (G : Gd K s.heap) (hn : nsIn K mainGlobals "len" = some none) (ns : s.heap.Ns env.locals m) (hm : m x = some (.str a t)) (ha : a.length ≤ 1000000) (k : ∀ t', R (.int a.length t') { s with toks := s.toks + 1 + 1 }) :
    wpAny (model prog w) A (eval (.Call (.Name "len" p1) [.Name x p2] [] p3) env) R E s := by
  obtain ⟨mg, g⟩ := G.glb
  obtain ⟨mb, B, BB⟩ := G.blt
  rw [arm_eval_Call_Name']
  refine wpAny_bind (Calls.Name_function_global hk hl (Calls.loadGlobal_builtin (v := .builtin "len") (hg ▸ g) (mg_none_of G.kin g hn) (hb ▸ B) ((BB _ (by decide +kernel)).trans (by kernel_rfl)) ?_) (by decide +kernel))
  refine PyProof.Rows.callWith_method1 ?_ rfl rfl
  refine wpAny_items_cons (wpAny_Name (wpAny_loadName_local hk hx ns hm (wpAny_items_nil ?_)) hd) rfl
  exact len_str (by omega) (k _)
theorem low_lens {x y : Str} {p1 p2 p3 p4 p5 p6 p7 : Pos} {a b : Str} {t u : Tok} (hk : env.scope.kind = .function) (hl : env.kindOf "len" = some .globalImplicit) (hx : env.kindOf x = some .local) (hd : (x == ("__debug__" : Str)) = false) (hy : env.kindOf y = some .local) (hd' : (y == ("__debug__" : Str)) = false)
    (hg : env.globals = mainGlobals) (hb : env.builtins = builtinsNs)
    (G : Gd K s.heap) (hn : nsIn K mainGlobals "len" = some none) (ns : s.heap.Ns env.locals m) (hm : m x = some (.str a t)) (hm' : m y = some (.str b u)) (ha : a.length ≤ 1000000) (hb' : b.length ≤ 1000000) :
    wpAny (model prog w) A (eval (.BinOp (.Call (.Name "len" p1) [.Name x p2] [] p3) .Add (.Call (.Name "len" p4) [.Name y p5] [] p6) p7) env) (fun v s' => (∃ t, v = .int (a.length + b.length) t) ∧ Keeps s s') E s := by
  refine wpAny_BinOp (low_len hk hl hx hd hg hb G hn ns hm ha fun t' => ?_)
  refine low_len hk hl hy hd' hg hb (s := { s with toks := s.toks + 1 + 1 }) G hn ns hm' hb' fun t'' => ?_
  exact PySem.P.add_int ⟨⟨_, rfl⟩, Keeps.toks (Keeps.toks (Keeps.toks Keeps.refl))⟩
end

section
variable {Γ : Fm} {loc : Loc} {own own' : Own} {Q : QV} {QQ : QF}
theorem sumLens (ps : List (Str × Str)) : preSum (fun i => match ps[i]? with | some p => (p.1.length + p.2.length : Int) | none => 0) ps.length = (ps.map fun p => (p.1.length + p.2.length : Int)).sum := by
  have e : ∀ n, n ≤ ps.length → preSum (fun i => match ps[i]? with | some p => (p.1.length + p.2.length : Int) | none => 0) n = ((ps.take n).map fun p => (p.1.length + p.2.length : Int)).sum := by
    intro n hn
    induction n with
    | zero => rfl
    | succ n ih =>
      rw [preSum, ih (by omega), List.take_add_one, List.map_append, List.sum_append]
      have hl : n < ps.length := by omega
      simp [List.getElem?_eq_getElem hl]
  rw [e _ (Nat.le_refl _), List.take_of_length_le (Nat.le_refl _)]

noncomputable def dpair (p : Str × Str) : Dv := .tup [.str p.1, .str p.2]
noncomputable def signs (ps : List (Str × Str)) : Int := (ps.map fun p => (p.1.length + p.2.length : Int)).sum
theorem ev_sum_lens {iter : PySem.Expr} {xa xb name : Str} {pa pb pt pos p1 p2 p3 p4 p5 p6 p7 ps1 pcall pat psf : Pos} {kt : Nat} {scope : Scope} {c T x C d : Addr} {cd : ClassData} {ps : List (Str × Str)} {l : List (Str × Dv)} {n : Int}
    (O : GenOk Γ scope iter xa xb c T) (H : AccK Γ.K C) (S : StoreK Γ.K C cd) (hroom : Γ.A.depth < recursionLimit)
    (hi : Ev Γ loc own iter fun e loc' own' => e = .raw (.ref x) ∧ loc' = loc ∧ own' = own) (ha : HasO x (.acc C d (ps.map dpair)) own) (hd : HasO d (.idict l) own) (ht : HasO T .tab own)
    (hlen : scope.names.lookup ("len" : Str) = some .globalImplicit) (hsum : Γ.env.kindOf "sum" = some .globalImplicit) (nlen : nsIn Γ.K mainGlobals "len" = some none) (nsum : nsIn Γ.K mainGlobals "sum" = some none)
    (hda : (xa == ("__debug__" : Str)) = false) (hdb : (xb == ("__debug__" : Str)) = false) (hps : ∀ p ∈ ps, p.1.length ≤ 1000000 ∧ p.2.length ≤ 1000000)
    (hself : Γ.env.kindOf "self" = some .local) (hsv : Has "self" (.raw (.ref x)) loc) (hbase : ∀ p, attributeBase (.Name "self" p) name Γ.env (eval (.Name "self" p) Γ.env) = eval (.Name "self" p) Γ.env) (hcp : copiedNames.contains name = false)
    (hf : findIn Γ.K (.ref C) name = some none) (hl : l.lookup name = some (.int n))
    (q : Q (.int (n + signs ps)) loc own) :
    Ev Γ loc own (.Call (.Name "sum" ps1) [.GeneratorExp (.BinOp (.Call (.Name "len" p1) [.Name xa p2] [] p3) .Add (.Call (.Name "len" p4) [.Name xb p5] [] p6) p7) [⟨.Tuple [.Name xa pa, .Name xb pb] kt pt, iter, [], 0⟩] scope pos, .Attribute (.Name "self" psf) name pat] [] pcall) Q := by
  intro h₀ s g rel
  obtain ⟨mg, G⟩ := g.glb
  obtain ⟨mb, B, BB⟩ := g.blt
  rw [arm_eval_Call_Name']
  refine wpAny_bind (Calls.Name_function_global Γ.hk hsum (Calls.loadGlobal_builtin (v := .builtin "sum") (Γ.hg ▸ G.keeps rel.ow.keep) (mg_none_of g.kin G nsum) (Γ.hb ▸ B.keeps rel.ow.keep) ((BB _ (by decide +kernel)).trans (by kernel_rfl)) ?_) (by decide +kernel))
  refine PyProof.Rows.callWith_method1 ?_ rfl rfl
  refine wpAny_items_cons ?_ rfl
  refine gen_pairs (ps := ps.map fun p => (.str p.1, .str p.2)) (F := fun i v => ∃ t, v = .int (match ps[i]? with | some p => (p.1.length + p.2.length : Int) | none => 0) t) O H hroom g rel hi (by rw [List.map_map]; exact ha) ht ?_ ?_
  · intro cenv A' E' i p va vb s₂ m₂ hsc hg' hb' hA hD hU hp v1 v2 ns ma mb' G2
    rw [List.getElem?_map] at hp
    obtain ⟨p0, hp0, rfl⟩ := Option.map_eq_some_iff.mp hp
    cases v1; cases v2
    have hm := hps _ (List.mem_of_getElem? hp0)
    have hk' : cenv.scope.kind = .function := by rw [hsc]; exact O.kind
    refine wpAny_mono (low_lens hk' (by show cenv.scope.names.lookup _ = _; rw [hsc]; exact hlen) (by show cenv.scope.names.lookup _ = _; rw [hsc]; exact O.ha) hda (by show cenv.scope.names.lookup _ = _; rw [hsc]; exact O.hb) hdb hg' hb' G2 nlen ns ma mb' hm.1 hm.2) (fun v s' ⟨⟨t, e⟩, kk⟩ => ⟨⟨t, ?_⟩, kk⟩) fun _ _ z => z
    rw [e, hp0]
  · intro a s₅ fp wr Gn St pp gb r5 back hfp W st
    refine wpAny_items_cons ?_ rfl
    rw [arm_eval_Attribute, hbase]
    obtain ⟨m, ns, hm⟩ := r5.lc.ns
    obtain ⟨v, mv, vr⟩ := hm _ _ hsv.mem
    cases vr
    obtain ⟨vs, k, ho, rr⟩ := r5.ow.at_ _ ha.mem
    refine wpAny_bind (wpAny_Name (wpAny_loadName_local Γ.hk hself ns mv ?_) (by decide +kernel))
    refine wpAny_bind (wpAny_standAt (wpAny_bind (wpAny_holding (getattr_acc H S (g.kin.keeps r5.ow.keep) ho (r5.ow.at_ _ hd.mem) hf hl hcp (fun v hv vr => ?_) fun v vr => handed_plain rfl vr))))
    refine wpAny_bind (wpAny_letTemporaryGo (wpAny_pure (wpAny_items_nil ?_)))
    cases vr
    refine call_sum2 (W.of_in1.of_in1.of_in1.self 0 _ _ _ (W.frame 0 s₅ s₅.heap _ st (Nat.le_succ _) fun _ _ _ e => e) ?_)
    refine ⟨a, fp, wr, Gn, _, _, St, _, rfl, W.of_in1.of_in1.of_in1, W.frame 0 s₅ s₅.heap _ st (Nat.le_succ _) (fun _ _ _ e => e), hfp, fun i v z => z, fun s' t' mv => ?_⟩
    obtain ⟨p', r'⟩ := back s'.heap fun b o nb e => mv.heap b o nb e
    refine ⟨_, _, _, ⟨p', mv.os.trans pp.os, fun h0 => gb.1 _ _ mv.gens (pp.bare h0)⟩, r', ?_, q⟩
    rw [List.length_map, sumLens]
    exact .int _ _
end
end Mine

end
section
open PySem PySem.W PySem.Builtin PySem.Builtin.ObjectAttr
open PyProof.Rows hiding wpAt wpAt_bind
set_option linter.unusedSectionVars false
set_option maxRecDepth 100000
set_option maxHeartbeats 1000000
set_option linter.unusedVariables false
namespace Mine
variable [aI : Membership Nat Unit]
noncomputable abbrev Fm.in1 (Γ : Fm) : Fm := { Γ with A := Γ.A.in1, U := Γ.U + 1, hh := Γ.hh, hD := Γ.hD, hU := Nat.succ_le_succ Γ.hU }
section
variable {Γ : Fm} {loc : Loc} {own own' : Own} {Q : QV} {QQ : QF}
theorem op_len_acc {x C d f : Addr} {ds : List Dv} (ha : HasO x (.acc C d ds) own) (hs : findIn Γ.K (.ref C) "__len__" = some (some (.ref f))) (hf : typeIn Γ.K (.ref f) = some (.type "function"))
    (c : CallT Γ.prog Γ.w Γ.K Γ.A.in1 own (.ref f) [.raw (.ref x)] fun r own' => ∃ n : Int, r = .int n ∧ 0 ≤ n ∧ n < 2 ^ 63 ∧ Q (.int n) loc own') : OpN Γ loc own [.raw (.ref x)] (fun vs => call (.builtin "len") vs) Q := by
  intro h₀ s vs g rel vr
  cases vr with
  | cons a b =>
    cases b; cases a
    obtain ⟨ws, k, ho, rr⟩ := rel.ow.at_ _ ha.mem
    have X := g.kin.keeps rel.ow.keep
    have T : Looks (model Γ.prog Γ.w) s.heap (typeOf (.ref x)) (.ref C) := (Looks.ld ho).andThen .now
    refine Calls.call_function_entry kind_len plain_len entry_len (args_len1 _) ?_
    unfold Builtin.«len»
    refine wpAny_bind (m := oneArg "len" _) (wpAny_pure ?_)
    refine wpAny_bind (m := callSpecial? (.ref x) (Str.ofString "__len__")) ?_
    unfold callSpecial? specialOf
    refine wpAny_bind (wpAny_bind (T.here ((looks_findIn X hs).here (wpAny_holding (wpAny_bind ((bind_fn X _ hf).here (wpAny_bind ?_)))))))
    refine (c.use (Γ := Γ.in1) (loc := loc) g rel (.cons (.raw _) .nil) fun r own' s' v p r' v' ⟨n, e, h0, h1, q⟩ => ?_)
    subst e
    cases v'
    refine wpAny_pure ?_
    refine wpAny_bind (wpAny_holding (wpAny_pure ?_))
    refine wpAny_bind (wpAny_letGo ?_)
    show wpAny _ _ (if n < 0 then _ else _) _ _ _
    rw [if_neg (by omega)]
    show wpAny _ _ (if n ≥ 2 ^ 63 then _ else _) _ _ _
    rw [if_neg (by omega)]
    exact wpAny_bind (wpAny_mkInt (wpAny_pure ⟨_, rfl, _, _, _, p.trans (Pers.st .refl), r', .int _ _, q⟩))
end
end Mine

end
section
open PySem PySem.W PySem.Builtin PySem.Builtin.ObjectAttr
open PyProof.Rows hiding wpAt wpAt_bind
set_option linter.unusedSectionVars false
set_option maxRecDepth 100000
set_option maxHeartbeats 1000000
set_option linter.unusedVariables false
namespace Mine
variable [aI : Membership Nat Unit]
theorem boot_len : bootBuiltins "len" = some (.builtin "len") := by kernel_rfl
section
variable {Γ : Fm} {loc : Loc} {own own' : Own} {Q : QV} {QQ : QF}
theorem ev_neg {e : PySem.Expr} {pos : Pos} (x : Ev Γ loc own e fun d loc own => ∃ i, d = .int i ∧ Q (.int (-i)) loc own) : Ev Γ loc own (.UnaryOp .USub e pos) Q := by
  intro h₀ s g rel
  refine wpAny_UnaryOp (x.use g rel fun d loc own s1 v p1 r1 v1 ⟨i, e, q⟩ => ?_)
  subst e
  cases v1
  exact PyProof.Rows.neg_int ⟨_, _, _, p1.trans (Pers.st .refl), r1, .int _ _, q⟩
end
theorem OwnOk.perm {h₀ h : Heap} {own own' : Own} (x : OwnOk h₀ own h) (s : own.Perm own') : OwnOk h₀ own' h :=
  ⟨x.keep, fun p hp => x.at_ p (s.mem_iff.mpr hp), fun p hp => x.off p (s.mem_iff.mpr hp), (s.map _).nodup x.nd⟩
end Mine

end
section
open PySem PySem.W PySem.Builtin PySem.Builtin.ObjectAttr
open PyProof.Rows hiding wpAt wpAt_bind
set_option linter.unusedSectionVars false
set_option maxRecDepth 100000
set_option maxHeartbeats 1000000
set_option linter.unusedVariables false
namespace Mine
variable [aI : Membership Nat Unit]
theorem Rel.both {h₀ h : Heap} {L : Addr} {loc loc' : Loc} {own own' : Own} (x : Rel h₀ L loc own h) (a : loc'.Sublist loc) (b : own'.Sublist own) : Rel h₀ L loc' own' h :=
  ⟨x.ow.sub b, ⟨let ⟨m, n, k⟩ := x.lc.ns; ⟨m, n, fun y d hy => k y d (a.subset hy)⟩, x.lc.fresh, fun p hp => x.lc.off p (b.subset hp), (a.map _).nodup x.lc.nd⟩⟩
section
variable {Γ : Fm} {loc loc1 : Loc} {own own1 : Own} {Q : QV} {QQ : QF}
theorem as_sub {tg : PySem.Expr} {d : Dv} {Q : Loc → Own → Prop} (a : loc1.Sublist loc) (b : own1.Sublist own) (x : As Γ loc1 own1 tg d Q) : As Γ loc own tg d Q := fun h₀ s v g rel vr => x h₀ s v g (rel.both a b) vr
theorem exs_both {sts : List Stmt} (a : loc1.Sublist loc) (b : own1.Sublist own) (x : Exs Γ loc1 own1 sts QQ) : Exs Γ loc own sts QQ := fun h₀ s g rel => x h₀ s g (rel.both a b)
theorem HasO.of_mem {a : Addr} {o : AObj} : ∀ {own : Own}, (a, o) ∈ own → HasO a o own
  | _ :: _, .head _ => .here
  | _ :: _, .tail _ m => .there (of_mem m)
end
theorem lk_append : typeLookup (.type "list") "append" = pure (some (.builtin "list.append")) := by rw [typeLookup_type, builtinLookup_eq_fast]; kernel_rfl
theorem ty_append : typeOf (.builtin "list.append") = pure (.type "method_descriptor") := by show builtinType _ = _; rw [builtinType_eq_fast]; kernel_rfl
noncomputable abbrev lawFm (prog : Program) (w : World) (K : Frag) (name : Str) (sc : Scope) (L fa : Addr) (cdv : Value) (hk : sc.kind = .function) : Fm :=
  { prog, w, K, A := callerA.deeper (envOf name sc L fa cdv), env := envOf name sc L fa cdv, E := fun _ _ => False, D := 400, U := 10, hh := rfl, hD := by show callerA.depth + 1 ≤ 400; decide, hU := by show callerA.units + 3 ≤ 10; decide, hk := hk, hg := rfl, hb := rfl }
end Mine

end
section
open PySem PySem.W PySem.Builtin PySem.Builtin.ObjectAttr
open PyProof.Rows hiding wpAt wpAt_bind
set_option linter.unusedSectionVars false
set_option maxRecDepth 100000
set_option maxHeartbeats 1000000
set_option linter.unusedVariables false
set_option linter.unusedSimpArgs false
namespace Mine
variable [aI : Membership Nat Unit]
theorem lookIn_none {h : Heap} {es : List DictEntry} {l : List (Str × Dv)} (x : Ents h es l) (n : Str) (hl : l.lookup n = none) (c : Value) (k : Nat) : lookIn n { cls := c, data := .dict es.toArray k } = some none := by
  have := x.find n
  rw [hl] at this
  unfold nsFind findBy at this
  unfold lookIn
  simp only [List.find?_toArray] at this
  dsimp only
  have nr : (es.any fun x => x.refKey) = false := by
    clear this hl
    induction x with
    | nil => rfl
    | cons _ _ ih => rw [List.any_cons]; show (false || _) = false; rw [Bool.false_or]; exact ih
  cases q : es.find? (fun e => e.key.isStr n) with
  | none => dsimp only; rw [nr]; rfl
  | some en => rw [q] at this; cases this
section
variable {prog : Program} {w : World} {A : Around} {E : Value → Shared → Prop} {K : Frag} {C d a : Addr} {cd : ClassData}
theorem getattr_bound {s : Shared} {name : Str} {f : Addr} {vs : List Value} {n : Nat} {l : List (Str × Dv)} {R : Value → Shared → Prop} {expr : Bool} (H : AccK K C) (S : StoreK K C cd) (X : K.In s.heap) (hx : s.heap.get? a = some (accObj C d vs n)) (hd : OR s.heap d (.idict l))
    (ht : findIn K (.ref C) name = some (some (.ref f))) (hty : typeIn K (.ref f) = some (.type "function")) (hg : specialIn K (.ref f) "__get__" = some (some (.builtin "function.__get__"))) (htk : takesIn K (.ref f) = some false) (hl : l.lookup name = none) (hcp : copiedNames.contains name = false)
    (k : R (.ref s.heap.objs.size) { s with heap := s.heap.push (methodObj (.ref f) (.ref a)), toks := s.toks + 1 }) : wpAny (model prog w) A (getAttr (.ref a) name expr) R E s := by
  obtain ⟨hh, gg, dd, tt, oo⟩ := s
  dsimp only at X hx hd k
  have T : Looks (model prog w) hh (typeOf (.ref a)) (.ref C) := (Looks.ld hx).andThen .now
  obtain ⟨es, m, D, en⟩ := hd
  have hv := lookIn_none en name hl (.type "dict") m
  have I : InstAt hh a (accObj C d vs n) C (some { cls := .type "dict", data := .dict es.toArray m }) := ⟨hx, rfl, rfl, D⟩
  have hf : findObj K C (some { cls := .type "dict", data := .dict es.toArray m }) name = some (.bind (.builtin "function.__get__") (.ref f)) := by
    unfold findObj
    rw [S.cls, Option.bind_some, ht, Option.bind_some]
    simp only [hg, htk, Option.bind_some]
    unfold W.ownOf
    rw [S.dict]
    simp only [if_true, hv, Option.bind_some, hcp, Bool.false_and, Bool.false_eq_true, if_false]
  have L1 := looks_find (M := model prog w) X I hf
  unfold getAttr getAttrBy
  refine wpAny_bind (wpAny_mkText (wpAny_holding (wpAny_bind (T.at (wpAny_bind ((looks_findIn X H.ga).at ?_))))))
  show wpAny _ _ (getAttrByItsOwn (.ref a) (.str name tt) (.ref C) (.builtin "list.__getattribute__") true expr) _ _ _
  unfold getAttrByItsOwn hookBefore callGetattribute boundAndCalled
  refine wpAny_bind ((looks_findIn X H.gt).at ?_)
  refine wpAny_bind (wpAny_attempt (wpAny_holding ?_))
  have hcond : (expr && onTheHeap (.builtin "list.__getattribute__")) = false := by cases expr <;> rfl
  rw [hcond]
  simp only [Bool.false_eq_true, if_false]
  refine wpAny_bind (wpAny_of_eq (lga_slot.bind _) ?_)
  have hsub : Looks (model prog w) hh (isInstance (.ref a) (.type "list")) true := T.andThen (looks_mroIn X H.sub)
  refine wpAny_mono (Q := fun u s' => u = .ref hh.objs.size ∧ s' = ⟨hh.push (methodObj (.ref f) (.ref a)), gg, dd, tt + 1, oo⟩) (E := fun _ _ => False) ?_ (fun u s' hu => ?_) fun _ _ z => z.elim
  · refine wpAny_call ?_
    show codeAny _ _ (.call (.builtin "list.__getattribute__") ⟨[.ref a, .str name tt], []⟩) _ _
    refine codeAny_call_builtin lga_plain PySem.F.entry_list_ga ?_
    refine check_slot (i := "list.__getattribute__") (self := .ref a) (rest := [.str name tt]) (kw := []) lga_kind lga_split hsub (lga_args (.ref a) (.str name tt)) ?_
    unfold Builtin.«object.__getattribute__»
    repeat (first | (with_reducible refine Looks.at T ?_) | (with_reducible refine Looks.at L1 ?_) | wp_step)
    refine fn_get X hty ?_
    exact wpAny_pure ⟨rfl, rfl⟩
  · obtain ⟨rfl, rfl⟩ := hu
    show wpAny _ _ (handedOut _) _ _ _
    rw [handedOut_of rfl]; exact wpAny_pure k
end
section
variable {Γ : Fm} {loc : Loc} {own own' : Own} {Q : QV} {QQ : QF}
theorem CallT.useC {f : Value} {ds : List Dv} {Q : Dv → Own → Prop} (c : CallT Γ.prog Γ.w Γ.K Γ.A own f ds Q) {h₀ : Heap} {s : Shared} {vs : List Value} {R : Result → Shared → Prop} (g : Gd Γ.K h₀) (rel : Rel h₀ Γ.env.locals loc own s.heap) (vr : VRs s.heap vs ds)
    (k : ∀ d own' s' v, Stays s s' → Rel h₀ Γ.env.locals loc own' s'.heap → VR s'.heap v d → Q d own' → R (.ok (.ret v)) s') : codeAny (model Γ.prog Γ.w) Γ.A (.call f ⟨vs, []⟩) R s := by
  obtain ⟨rb, ex⟩ := rel.rebase
  have hL : ∃ oL, s.heap.get? Γ.env.locals = some oL := let ⟨_, ⟨oL, _, _, q, _⟩, _⟩ := rel.lc.ns; ⟨oL, q⟩
  obtain ⟨ok, ex'⟩ := rel.ow.hide
  refine codeAny_mono (c _ s vs (g.ext ex') ok vr) fun r s' ⟨v, d, own', e, p, o', vr', q⟩ => ?_
  subst e
  refine k d own' s' v p ⟨⟨fun b o e => o'.keep b o (ex' b o e), o'.at_, fun p hp => ex'.none (o'.off p hp), o'.nd⟩, ?_⟩ vr' q
  obtain ⟨m, ⟨oL, es, ep, hL, r⟩, n⟩ := rel.lc.ns
  have nL : Γ.env.locals ∉ own.map (·.1) := fun q => by
    obtain ⟨p, hp, e⟩ := List.mem_map.mp q
    exact rel.lc.off p hp e
  have hLg := hideAll_get (own.map (·.1)) hL nL
  refine ⟨⟨m, ⟨oL, es, ep, o'.keep _ _ hLg, r⟩, fun x d hx => ?_⟩, rel.lc.fresh, fun p hp e => ?_, rel.lc.nd⟩
  · obtain ⟨v, e, vr⟩ := n x d hx; exact ⟨v, e, vr.mono p.p⟩
  · have := o'.off p hp; rw [e, hLg] at this; cases this
inductive StarTo (Γ : Fm) (cd : ClassData) (name : Str) (R : Addr → Addr → Prop) (v : Dv) (own : Own) : Prop
  | mk (a C d : Addr) (ds : List Dv) (l : List (Str × Dv)) (f : Addr) : v = .raw (.ref a) → AccK Γ.K C → StoreK Γ.K C cd → HasO a (.acc C d ds) own → HasO d (.idict l) own → l.lookup name = none → findIn Γ.K (.ref C) name = some (some (.ref f)) → typeIn Γ.K (.ref f) = some (.type "function") →
      specialIn Γ.K (.ref f) "__get__" = some (some (.builtin "function.__get__")) → takesIn Γ.K (.ref f) = some false → (∃ c d fd sl, Γ.K.lookup f = some ⟨c, d, .func fd, sl⟩) → R a f → StarTo Γ cd name R v own
theorem ev_meth_star {o e : PySem.Expr} {name : Str} {apos pos p : Pos} {cd : ClassData}
    (hb : attributeBase o name Γ.env (eval o Γ.env) = eval o Γ.env) (hcp : copiedNames.contains name = false) (he : starEach [.Starred e p] Γ.env = [(true, eval e Γ.env)])
    (x : Ev Γ loc own o fun v loc own => StarTo Γ cd name (fun a f => Ev Γ loc own e fun d loc own => ∃ args, d = .tup args ∧ args.length ≤ 1000 ∧ CallT Γ.prog Γ.w Γ.K Γ.A own (.ref f) (.raw (.ref a) :: args) fun d own => Q d loc own) v own) :
    Ev Γ loc own (.Call (.Attribute o name apos) [.Starred e p] [] pos) Q := by
  intro h₀ s g rel
  rw [arm_eval_Call, hb]
  refine wpAny_bind (x.use g rel fun v loc own s1 vv p1 r1 v1 ⟨a, C, d, ds, l, f, hv, H, S, ha, hd, hn, hf, hty, hg, htk, ⟨fc, fo, fd, fsl, hK⟩, y⟩ => ?_)
  subst hv
  cases v1
  obtain ⟨vs, n, ho, r⟩ := r1.ow.at_ _ ha.mem
  refine wpAny_bind (wpAny_standAt ?_)
  have hcf : methodCallForm ([PySem.Expr.Starred e p].length + ([] : List Keyword).length) (backTo pos (starEach [.Starred e p] Γ.env)) (backToKw pos (keywordEach [] Γ.env)) = false := by rw [he]; rfl
  unfold methodCall
  rw [hcf]
  refine wpAny_bind (wpAny_holding ?_)
  show wpAny _ _ (getAttr (.ref a) name true >>= fun v => pure (v, [])) _ _ _
  refine wpAny_bind (getattr_bound H S (g.kin.keeps r1.ow.keep) ho (r1.ow.at_ _ hd.mem) hf hty hg htk hn hcp (wpAny_pure ?_))
  show wpAny _ _ (pure pos >>= fun q => callWith q (.ref s1.heap.objs.size) [] (backTo pos (starEach [.Starred e p] Γ.env)) []) _ _ _
  refine wpAny_bind (wpAny_pure ?_)
  have ex : Ext s1.heap (s1.heap.push (methodObj (.ref f) (.ref a))) := Ext.push _
  have hm : (s1.heap.push (methodObj (.ref f) (.ref a))).get? s1.heap.objs.size = some (methodObj (.ref f) (.ref a)) := Heap.get?_push_size _ rfl
  generalize s1.heap.push (methodObj (.ref f) (.ref a)) = h2 at ex hm
  have r2 := r1.ext ex
  obtain ⟨rb, exb⟩ := r2.rebase
  have hmb := hideAll_get (Γ.env.locals :: own.map (·.1)) hm fun q => by
    rcases List.mem_cons.mp q with z | q
    · obtain ⟨m, ⟨oL, _, _, hL, _⟩, _⟩ := r1.lc.ns
      rw [← z, get_size_none] at hL; cases hL
    · obtain ⟨p', hp', z⟩ := List.mem_map.mp q
      obtain ⟨ob, q', _⟩ := (r1.ow.at_ p' hp').some
      rw [z, get_size_none] at q'; cases q'
  rw [he]
  refine ks_call (P := fun h => h.get? s1.heap.objs.size = some (methodObj (.ref f) (.ref a)) ∧ Γ.K.In h) rfl (fun h ⟨q1, q2⟩ => ⟨.boundFrame, .inr (.inr rfl), ?_⟩) (ks_lone ?_)
  · unfold keeperOf
    refine (Looks.ld q1).andThen ?_
    exact (Looks.ld (q2 _ _ hK)).andThen .now
  · refine y.use (g.ext exb) (s := ⟨h2, s1.gens, s1.drawn, s1.toks + 1, s1.os⟩) rb fun dd loc own s3 v p3 r3 v3 ⟨args, e1, hl, c⟩ => ?_
    subst e1
    cases v3 with
    | @tup b ws m es nb hb' rv =>
      have hT' : s3.TypeIs (.ref b) "tuple" := ⟨_, hb', rfl⟩
      unfold StarOf notIterableAtAll
      refine wpAny_bind (wpAny_specialOf hT' PySem.F.slot_tuple_iter.lookup (wpAny_pure ⟨rfl, ?_⟩))
      refine wpAny_collect_seq b (.inr rfl) hb' rfl rfl (fun h' hk' => ?_) (by rw [List.size_toArray, rv.length]; unfold sizeLine; omega)
      have r4 := r3.ext hk'
      have hm4 := r4.ow.keep _ _ hmb
      refine ⟨⟨hm4, g.kin.keeps fun b o q => r4.ow.keep b o (exb b o q)⟩, ?_⟩
      refine wpAny_call (ks_codeAny_call_bound hm4 ?_)
      refine c.useC (s := { s3 with heap := h' }) (vs := .ref a :: ws) (g.ext exb) r4 (.cons (.raw _) (rv.mono (Ext.pers hk'))) fun d5 own5 s5 v5 p5 r5 v5' q5 => ?_
      exact ⟨_, _, _, ((p1.trans (Ext.pers ex).st).trans p3).trans (Stays.trans (b := { s3 with heap := h' }) (Ext.pers hk').st p5), r5.unbase exb, v5', q5⟩
end
end Mine

end
section
open PySem PySem.W PySem.Builtin PySem.Builtin.ObjectAttr
open PyProof.Rows hiding wpAt wpAt_bind
set_option linter.unusedSectionVars false
set_option maxRecDepth 100000
set_option maxHeartbeats 1000000
set_option linter.unusedVariables false
namespace Mine
variable [aI : Membership Nat Unit]
section
variable {Γ : Fm} {loc : Loc} {own own' : Own} {Q : QV} {QQ : QF}
theorem comp_pure {α : Type} {scope : Scope} {cl : List (Str × Addr)} {hk : scope.kind = .function} {tg elt : PySem.Expr} {ifs : List PySem.Expr} {H : Own → Prop} {Q : List Dv → Own → Prop} {xs : List α} {enc : α → Dv} (f : α → Option Dv) (hH : H own) (hl : xs.length ≤ 100000)
    (step : ∀ C acc x res, x ∈ xs → ∀ [Membership Nat Unit], As (compFm Γ scope cl C hk) [] ((acc, .list res) :: own) tg (enc x) fun loc own' => Elt (compFm Γ scope cl C hk) loc own' ifs elt fun o loc own' => o = f x ∧ ((acc, .list res) :: own).Sublist own')
    (fin : Q (xs.filterMap f) own) : Comp Γ scope cl hk tg elt ifs (xs.map enc) H own Q := by
  refine ⟨fun k own' res => own' = own ∧ res = (xs.take k).filterMap f, ⟨rfl, rfl⟩, ?_, ?_, ?_, ?_⟩
  · rintro k own' res ⟨rfl, _⟩; exact hH
  · rintro k own' res ⟨_, rfl⟩
    have := List.length_filterMap_le f (xs.take k)
    have := List.length_take_le k xs
    have : (xs.take k).length ≤ xs.length := by rw [List.length_take]; omega
    omega
  · rintro C acc k d own' res hd ⟨rfl, rfl⟩
    rw [List.getElem?_map] at hd
    cases hx : xs[k]? with
    | none => rw [hx] at hd; cases hd
    | some x =>
      rw [hx] at hd
      cases hd
      have ht : xs.take (k + 1) = xs.take k ++ [x] := by rw [List.take_add_one, hx]; rfl
      intro I h₀ s v g rel vr
      refine wpAny_mono (step C acc x ((xs.take k).filterMap f) (List.mem_of_getElem? hx) h₀ s v g rel vr) (fun _ s' ⟨loc, own, p, r, q⟩ => ⟨loc, own, p, r, ?_⟩) fun _ _ z => z
      have key : ∀ (o : Option Dv) (loc : Loc) (own2 : Own), (o = f x ∧ ((acc, .list ((xs.take k).filterMap f)) :: own').Sublist own2) → ∃ own3, ((acc, .list ((xs.take k).filterMap f)) :: own3).Sublist own2 ∧ match o with
          | some v => own3 = own' ∧ (xs.take k).filterMap f ++ [v] = (xs.take (k + 1)).filterMap f
          | none => own3 = own' ∧ (xs.take k).filterMap f = (xs.take (k + 1)).filterMap f := by
        rintro o loc own2 ⟨rfl, sb⟩
        refine ⟨_, sb, ?_⟩
        rw [ht, List.filterMap_append]
        cases hf : f x with
        | none => simp [hf]
        | some y => simp [hf]
      unfold Elt at q ⊢
      split at q
      · exact fun h₁ s1 g1 r1 => wpAny_mono (q h₁ s1 g1 r1) (fun v s2 ⟨d, l, o, a, b, c, e⟩ => ⟨d, l, o, a, b, c, key _ l _ e⟩) fun _ _ z => z
      · refine fun h₁ s1 g1 r1 => wpAny_mono (q h₁ s1 g1 r1) (fun v s2 ⟨l, o, a, b, c⟩ => ⟨l, o, a, b, ?_⟩) fun _ _ z => z
        cases v
        · simp only [Bool.false_eq_true, if_false] at c ⊢; exact key _ l _ c
        · simp only [if_true] at c ⊢
          exact fun h₁ s1 g1 r1 => wpAny_mono (c h₁ s1 g1 r1) (fun v s2 ⟨d, l, o, a, b, c, e⟩ => ⟨d, l, o, a, b, c, key _ l _ e⟩) fun _ _ z => z
      · exact q.elim
  · rintro own' res ⟨rfl, rfl⟩
    rw [List.take_of_length_le (by simp)]
    exact fin
end
noncomputable def pickO (is : List Nat) (own : Own) : Own := is.filterMap (own[·]?)
theorem pickO_mem {is : List Nat} {own : Own} {p : Addr × AObj} (h : p ∈ pickO is own) : p ∈ own := by
  obtain ⟨i, _, e⟩ := List.mem_filterMap.mp h
  exact List.mem_of_getElem? e
theorem pickO_nd {is : List Nat} {own : Own} (hi : is.Nodup) (nd : (own.map (·.1)).Nodup) : ((pickO is own).map (·.1)).Nodup := by
  unfold pickO
  rw [List.Nodup, List.pairwise_map, List.pairwise_filterMap]
  refine List.Pairwise.imp (R := fun a b => a ≠ b) (fun {i j} ne a ha b hb e => ne ?_) hi
  have h1 : (own.map (·.1))[i]? = some a.1 := by rw [List.getElem?_map, ha]; rfl
  have h2 : (own.map (·.1))[j]? = some a.1 := by rw [List.getElem?_map, hb, e]; rfl
  obtain ⟨q1, r1⟩ := List.getElem?_eq_some_iff.mp h1
  obtain ⟨q2, r2⟩ := List.getElem?_eq_some_iff.mp h2
  have pw := List.pairwise_iff_getElem.mp nd
  rcases Nat.lt_trichotomy i j with z | z | z
  · exact absurd (r1.trans r2.symm) (pw i j q1 q2 z)
  · exact z
  · exact absurd (r2.trans r1.symm) (pw j i q2 q1 z)
theorem OwnOk.pick {h₀ h : Heap} {own : Own} (x : OwnOk h₀ own h) {is : List Nat} (hi : is.Nodup) : OwnOk h₀ (pickO is own) h :=
  ⟨x.keep, fun p hp => x.at_ p (pickO_mem hp), fun p hp => x.off p (pickO_mem hp), pickO_nd hi x.nd⟩
section
variable {Γ : Fm} {loc loc1 : Loc} {own own1 : Own} {Q : QV} {QQ : QF}
end
end Mine

end
section
open PySem PySem.W PySem.Builtin PySem.Builtin.ObjectAttr
open PyProof.Rows hiding wpAt wpAt_bind
set_option linter.unusedSectionVars false
set_option maxRecDepth 100000
set_option maxHeartbeats 1000000
set_option linter.unusedVariables false
namespace Mine
variable [aI : Membership Nat Unit]
section
variable {Γ : Fm} {loc : Loc} {own own' : Own} {Q : QV} {QQ : QF}
theorem fix_at {a : Addr} {o : Obj} {ds : List Dv} {h₀ : Heap} {L : Addr} {h : Heap} (ha : HasO a (.fix o ds) own) (rel : Rel h₀ L loc own h) : ∃ vs : List Value, h.IsList a vs.toArray ∧ VRs h vs ds ∧ vs.length = ds.length := by
  obtain ⟨e, c, vs, k, d, r⟩ := rel.ow.at_ _ ha.mem
  exact ⟨vs, ⟨_, e, c, _, d⟩, r, r.length⟩
theorem sub_fix_slice {value slice : PySem.Expr} {a sl : Addr} {o : Obj} {ds : List Dv} {l u t : Dv} {lo hi st : Option Int} (ha : HasO a (.fix o ds) own) (hs : HasO sl (.slc l u t) own) (pl : PartD l lo) (pu : PartD u hi) (pt : PartD t st) (h0 : st ≠ some 0) (hl : ds.length ≤ 1000000)
    (q : ∀ b, Q (.raw (.ref b)) loc ((b, .list (pickL ds lo hi st)) :: own)) : Sub Γ loc own value slice (.raw (.ref a)) (.raw (.ref sl)) Q := by
  intro h₀ s v w g rel x y
  cases x; cases y
  obtain ⟨vs, il, r, e⟩ := fix_at ha rel
  obtain ⟨vl, vu, vt, os, r1, r2, r3⟩ := rel.ow.at_ _ hs.mem
  obtain ⟨ws, hw, rw'⟩ := pick_slice r lo hi st
  obtain ⟨ops, ho⟩ := subscripted_any slice (.ref a) (.ref sl)
  refine tail_any il.typeIs slot_list_getitem.lookup (wpAny_getItem_list_slice il ⟨_, os, rfl, rfl⟩ (pl.is r1) (pu.is r2) (pt.is r3) h0 ?_ (by rw [List.size_toArray]; unfold sizeLine; omega)) ho
  rw [hw]
  have ex : Ext s.heap (s.heap.push (lstObj ws 0)) := Ext.push _
  exact ⟨_, _, _, (Ext.pers ex).st, rel.more (o := .list (pickL ds lo hi st)) ex (get_size_none _) ⟨ws, 0, Heap.get?_push_size _ rfl, rw'.mono (Ext.pers ex)⟩, .raw _, q _⟩

end
theorem ints_vrs {h : Heap} {vs : List Value} {ns : List Int} (hi : IntsAre vs ns) : VRs h vs (ns.map .int) := by
  induction hi with
  | nil => exact .nil
  | cons i t _ ih => exact .cons (.int _ _) ih
theorem noList_of {K : Frag} (e : K.all (fun p => p.2.cls != .type "list") = true) : ∀ b o, K.lookup b = some o → o.cls ≠ .type "list" := fun b o h => by
  have := List.all_eq_true.mp e _ (lookup_mem h)
  simpa using this
theorem law_join {prog : Program} {w : World} {K : Frag} {s₁ : Shared} {h₁ : Heap} {L fa a : Addr} {name : Str} {sc : Scope} {cdv : Value} {hk : sc.kind = .function} {vs : List Value} {ns : List Int} {tk : Nat} {c : ClaimW} {cl : Str → Option Addr} {mean : ExcName → Option Value} {args : List WData} {body : List Stmt} {E : Value → Shared → Prop}
    {m : Str → Option Value} {tabs : List (Addr × Addr)} {mb : Str → Option Value} (F : Fr s₁.heap L h₁ m) (hm : m "script" = some (.ref a)) (X : K.In s₁.heap) (hB : s₁.heap.Ns builtinsNs mb) (hbb : ∀ x : Str, x ≠ "__name__" → mb x = bootBuiltins x) (hM : ∃ mg b o, BMod s₁.heap mainGlobals mg b o)
    (hl : s₁.heap.IsList a vs.toArray) (hi : IntsAre vs ns) (ht : ∀ p ∈ tabs, s₁.heap.TableAt p.1 p.2 #[]) (hnd : (tabs.map (·.2)).Nodup) (hfree : ∀ p ∈ tabs, K.lookup p.2 = none) (hKl : ∀ b o, K.lookup b = some o → o.cls ≠ .type "list") (hg : s₁.gens = #[])
    (hno : ∀ a, ¬ Hid a) (hr : ∀ cls, c.raises args cls = false) (hp : c.post args (.bool true) args = true)
    (x : ∀ o, Exs (lawFm prog w K name sc L fa cdv hk) [("script", .raw (.ref a))] (tabs.map (fun p => (p.2, AObj.tab)) ++ [(a, .fix o (ns.map .int))]) body fun fl loc own => fl = .ret (.bool true) ∧ (∀ p ∈ tabs, (p.2, AObj.tab) ∈ own) ∧ (a, .fix o (ns.map .int)) ∈ own) :
    wpAny (model prog w) (callerA.deeper (envOf name sc L fa cdv)) (execs body (envOf name sc L fa cdv)) (fun f s' => GoodWG c cl mean args s₁ (.ok (.ret (match f with | .ret v => v | _ => .none))) s') E { s₁ with heap := h₁, toks := tk } := by
  obtain ⟨oa, ha, hac, na, had⟩ := hl
  have small : ∀ b o, s₁.heap.get? b = some o → b ≠ L := fun b o e => Nat.ne_of_lt (Nat.lt_of_lt_of_le (Heap.lt_size e) F.above)
  have tabAt : ∀ p ∈ tabs, s₁.heap.get? p.2 = some (tabObj #[]) := fun p hp => (ht p hp).2
  have aTab : a ∉ tabs.map (·.2) := fun q => by
    obtain ⟨p, hp, e⟩ := List.mem_map.mp q
    have := tabAt p hp
    rw [e, ha] at this; cases this; cases hac
  let own0 : Own := tabs.map (fun p => (p.2, AObj.tab)) ++ [(a, .fix oa (ns.map .int))]
  have keys : own0.map (·.1) = tabs.map (·.2) ++ [a] := by simp [own0, List.map_map, Function.comp_def]
  have sep : ∀ b o, s₁.heap.get? b = some o → b ≠ a → b ∉ tabs.map (·.2) → (hideAll h₁ (L :: own0.map (·.1))).get? b = some o := fun b o e n1 n2 => hideAll_get _ (F.keep b o e) fun q => by
    rcases List.mem_cons.mp q with q | q
    · exact small b o e q
    · rw [keys] at q
      rcases List.mem_append.mp q with q | q
      · exact n2 q
      · exact n1 (List.mem_singleton.mp q)
  have notTab : ∀ b o, s₁.heap.get? b = some o → (∀ ps, o ≠ tabObj ps) → b ∉ tabs.map (·.2) := fun b o e n q => by
    obtain ⟨p, hp, z⟩ := List.mem_map.mp q
    have := tabAt p hp
    rw [z, e] at this; cases this; exact n _ rfl
  have nsSep : ∀ b mm, s₁.heap.Ns b mm → (hideAll h₁ (L :: own0.map (·.1))).Ns b mm := fun b mm ⟨o, es, n, e, d, r⟩ => ⟨o, es, n, sep b o e (fun z => by subst z; rw [ha] at e; cases e; rw [had] at d; cases d) (notTab b o e fun ps z => by subst z; cases d), d, r⟩
  have G : Gd K (hideAll h₁ (L :: own0.map (·.1))) := by
    refine ⟨fun b o e => sep b o (X b o e) (fun z => ?_) fun q => ?_, ⟨mb, nsSep _ _ hB, hbb⟩, ?_, ?_, fun a q => absurd q (hno a)⟩
    · subst z; have := X _ _ e; rw [ha] at this; cases this; exact hKl _ _ e hac
    · obtain ⟨p, hp, z⟩ := List.mem_map.mp q
      have := hfree p hp
      rw [z, e] at this; cases this
    · obtain ⟨mg, b, o, M⟩ := hM; exact ⟨mg, nsSep _ _ M.ns⟩
    · obtain ⟨mg, b, o, M⟩ := hM
      exact ⟨mg, b, o, nsSep _ _ M.ns, M.name, M.ne, sep b o M.obj (fun z => by subst z; have := M.obj; rw [ha] at this; cases this; have := M.cls; rw [hac] at this; simp at this) (notTab b o M.obj fun ps z => by have := M.cls; rw [z] at this; cases this), M.cls, M.dict, M.data⟩
  have vr : ∀ h, VRs h vs (ns.map .int) := fun h => ints_vrs hi
  have rel : Rel (hideAll h₁ (L :: own0.map (·.1))) L [("script", .raw (.ref a))] own0 h₁ := by
    refine ⟨⟨fun b o e => of_hideAll _ e, fun p hp => ?_, fun p hp => hideAll_none _ (.tail _ (List.mem_map_of_mem hp)), ?_⟩, ⟨⟨m, F.ns, fun y d hy => ?_⟩, hideAll_none _ (.head _), fun p hp => ?_, by simp⟩⟩
    · rcases List.mem_append.mp hp with hp | hp
      · obtain ⟨q, hq, rfl⟩ := List.mem_map.mp hp
        exact ⟨#[], F.keep _ _ (tabAt q hq), trivial⟩
      · rcases List.mem_singleton.mp hp with rfl
        exact ⟨F.keep _ _ ha, hac, vs, na, had, vr _⟩
    · rw [keys, List.nodup_append]
      refine ⟨hnd, by simp, fun b hb c hc z => ?_⟩
      rcases List.mem_singleton.mp hc with rfl
      subst z; exact aTab hb
    · rcases List.mem_singleton.mp hy with hy
      cases hy
      exact ⟨_, hm, .raw _⟩
    · rcases List.mem_append.mp hp with hp | hp
      · obtain ⟨q, hq, rfl⟩ := List.mem_map.mp hp
        exact small _ _ (tabAt q hq)
      · rcases List.mem_singleton.mp hp with rfl
        exact small _ _ ha
  refine wpAny_mono (x oa _ { s₁ with heap := h₁, toks := tk } G rel) (fun f s' ⟨fl, loc, own, st, r, fr, e, e1, e2⟩ => ?_) fun _ _ z => z.elim
  subst e
  cases fr with
  | ret v =>
    cases v
    have old : ∀ b o, s₁.heap.get? b = some o → b ∉ tabs.map (·.2) → s'.heap.get? b = some o := fun b o q n => by
      by_cases hb : b = a
      · subst hb
        rw [ha] at q; cases q
        exact (r.ow.at_ _ e2).1
      · exact r.ow.keep b o (sep b o q hb n)
    have tb : ∀ b, b ∈ tabs.map (·.2) → isCodeTable s₁.heap b ∧ ∃ ps, s'.heap.get? b = some (tabObj ps) := fun b hb => by
      obtain ⟨p, hp, rfl⟩ := List.mem_map.mp hb
      obtain ⟨ps, q, _⟩ := r.ow.at_ _ (e1 p hp)
      exact ⟨(ht p hp).isCodeTable, ps, q⟩
    refine ⟨.inl ⟨_, _, [], rfl, hr, ReadsW.bool true, hp, fun _ => ⟨List.nodup_nil, fun _ hm => (nomatch hm)⟩⟩, ⟨fun b o q => ?_, fun b o q => ?_⟩, st.os, st.bare (.of_eq hg)⟩
    · by_cases hb : b ∈ tabs.map (·.2)
      · obtain ⟨it, ps, z⟩ := tb b hb
        obtain ⟨p, hp', e⟩ := List.mem_map.mp hb
        have := tabAt p hp'
        rw [e, q] at this; cases this
        exact .inr (.inl ⟨it, rfl, #[], ps, rfl, by rw [Array.empty_append]; exact z⟩)
      · exact .inl (old b o q hb)
    · by_cases hb : b ∈ tabs.map (·.2)
      · obtain ⟨it, ps, z⟩ := tb b hb
        exact ⟨_, z⟩
      · exact ⟨o, old b o q hb⟩
end Mine

end
section
open PySem PySem.W PySem.Builtin PySem.Builtin.ObjectAttr
open PyProof.Rows hiding wpAt wpAt_bind
set_option linter.unusedSectionVars false
set_option maxRecDepth 100000
set_option maxHeartbeats 1000000
set_option linter.unusedVariables false
namespace Mine
variable [aI : Membership Nat Unit]
section
variable {Γ : Fm} {loc : Loc} {own own' : Own} {Q : QV} {QQ : QF}
theorem op_mul_str {x : Str} {n : Int} (h0 : n ≤ 1000) (hm : -1000 ≤ n) (hx : x.length ≤ 1000) (q : Q (.str (Txt.mul x n)) loc own) : Op2 Γ loc own (.str x) (.int n) (binaryOp .Mult) Q := by
  intro h₀ s v u g rel a b
  cases a; cases b
  refine SB.mul ⟨by simp; omega, fun h1 _ => ?_, fun h1 _ => ?_⟩ fun t' k => out_same rel rfl (.str _ _) q
  · have : (x.length : Int) * n ≤ 1000 * 1000 := Int.mul_le_mul (by omega) h0 (by omega) (by decide)
    have := Int.le_ediv_of_mul_le (a := (x.length : Int)) (b := 2 ^ 63 - 1) (c := n) (by omega) (by omega)
    omega
  · have : x.length * n.toNat ≤ 1000 * 1000 := Nat.mul_le_mul hx (by omega)
    unfold Builtin.Str.tooLong
    simp; unfold sizeLine; omega
theorem sub_str {value slice : PySem.Expr} {x : Str} {i : Int} (hs : notSlice slice = true) (ht : ∀ t r, letTemporaryGo value (.str x t) r = pure ()) (h1 : -(x.length : Int) ≤ i) (h2 : i < x.length) (hx : x.length ≤ 1000000) (q : Q (.str (Txt.item x i)) loc own) :
    Sub Γ loc own value slice (.str x) (.int i) Q := by
  intro h₀ s v u g rel a b
  cases a; cases b
  exact item_str (by unfold fitsSsize; simp; omega) h1 h2 (fun _ => out_same rel rfl (.str _ _) q) (subscripted_plain hs) (ht _)
theorem meth_str {x : Str} {name : Str} {i : String} {pos : Pos} {es : List PySem.Expr} (hg : ∀ {M : Model} {A : Around} {E : Value → Shared → Prop} {s : Shared} {t : Tok} {pl : Sem Bool} {R : Value × List Value → Shared → Prop}, R (.builtin i, [.str x t]) s → wpAny M A (getMethod (.str x t) name pl) R E s) (hp : plainArgs es = true)
    (y : EvL Γ loc own pos es fun args loc own => OpN Γ loc own (.str x :: args) (fun vs => call (.builtin i) vs) Q) : Meth Γ loc own (.str x) name pos es Q := by
  intro h₀ s v pl g rel vr
  cases vr
  exact hg (callWith_go (first := [_]) (fd := [.str x]) (.inr (.inl ⟨i, rfl⟩)) hp g rel (.cons (.str _ _) .nil) Stays.refl y)
theorem vrs_strs {h : Heap} : ∀ {vs : List Value} {ys : List Str}, VRs h vs (ys.map .str) → StrsAre vs ys
  | [], [], _ => .nil
  | _ :: _, _ :: _, .cons x y => by cases x; exact .cons _ _ (vrs_strs y)
theorem op_join_list {x : Str} {a : Addr} {ys : List Str} (ha : HasO a (.list (ys.map .str)) own) (hok : (ys.map (·.length)).sum + ys.length * x.length ≤ 16777216) (q : Q (.str (Str.join x ys)) loc own) : OpN Γ loc own [.str x, .raw (.ref a)] (fun vs => call (.builtin "str.join") vs) Q := by
  intro h₀ s vs g rel vr
  cases vr with
  | cons v1 v2 =>
    cases v2 with
    | cons v2 v3 =>
      cases v3; cases v1; cases v2
      obtain ⟨vs, il, r, e⟩ := list_at ha rel
      refine join_list il (vrs_strs r) hok fun t' k => out_same rel rfl (.str _ _) ?_
      rw [show Txt.join x ys = Str.join x ys from StrLaws.glued_eq_join x ys]; exact q
theorem op_mul {a b : Int} (hm : IntMulOk a b) (q : Q (.int (a * b)) loc own) : Op2 Γ loc own (.int a) (.int b) (binaryOp .Mult) Q := by
  intro h₀ s v u g rel x y
  cases x; cases y
  exact PySem.P.mul_int (out_same rel rfl (.int _ _) q) hm
end
end Mine

end
section
open PySem PySem.W PySem.Builtin PySem.Builtin.ObjectAttr
open PyProof.Rows hiding wpAt wpAt_bind
set_option linter.unusedSectionVars false
set_option maxRecDepth 100000
set_option maxHeartbeats 1000000
set_option linter.unusedVariables false
namespace Mine
variable [aI : Membership Nat Unit]
section
variable {Γ : Fm} {loc : Loc} {own own' : Own} {Q : QV} {QQ : QF}
theorem callWith_R {f : Value} {pos : Pos} {es : List PySem.Expr} {h₀ : Heap} {s : Shared} {Qx : QL} {R : Value → Shared → Prop} (hf : Callee Γ.K f) (hp : plainArgs es = true) (g : Gd Γ.K h₀) (rel : Rel h₀ Γ.env.locals loc own s.heap)
    (x : EvL Γ loc own pos es Qx) (k : ∀ ds loc own s' vs, Stays s s' → Rel h₀ Γ.env.locals loc own s'.heap → VRs s'.heap vs ds → Qx ds loc own → wpAny (model Γ.prog Γ.w) Γ.A (call f vs) R Γ.E s') :
    wpAny (model Γ.prog Γ.w) Γ.A (callWith pos f [] (backTo pos (starEach es Γ.env)) []) R Γ.E s := by
  cases es with
  | nil =>
    have z : wpAny (model Γ.prog Γ.w) Γ.A (spliced []) (fun vs s₁ => Γ.K.In s₁.heap ∧ wpAny (model Γ.prog Γ.w) Γ.A (call f ([] ++ vs)) R Γ.E s₁) Γ.E s :=
      x.use g rel fun ds loc own s' vs p' r' v' q => ⟨g.kin.keeps r'.ow.keep, k _ _ _ _ _ p' r' v' q⟩
    rcases hf with hf | ⟨id, rfl⟩ | ⟨T, rfl⟩
    · exact callWith_of rfl (keeps_K hf) (evalArgs_none' z)
    · exact Calls.callWith_builtin rfl (evalArgs_none' (wpAny_mono z (fun _ _ q => q.2) fun _ _ q => q))
    · exact PyProof.Rows.callWith_type rfl (evalArgs_none' (wpAny_mono z (fun _ _ q => q.2) fun _ _ q => q))
  | cons e r =>
    have z : wpAny (model Γ.prog Γ.w) Γ.A (spliced (backTo pos (starEach (e :: r) Γ.env))) (fun vs s₁ => Γ.K.In s₁.heap ∧ wpAny (model Γ.prog Γ.w) Γ.A (call f ([] ++ vs)) R Γ.E s₁) Γ.E s :=
      x.use g rel fun ds loc own s' vs p' r' v' q => ⟨g.kin.keeps r'.ow.keep, k _ _ _ _ _ p' r' v' q⟩
    have hh := plain_head (env := Γ.env) hp
    have ht := plain_any (env := Γ.env) (pos := pos) (plain_tail hp)
    rcases hf with hf | ⟨id, rfl⟩ | ⟨T, rfl⟩
    · exact callWith_K g.kin hf z hh ht
    · have z' := wpAny_mono z (fun _ _ q => q.2) fun _ _ q => q
      exact PyProof.Rows.callWith_method1 z' hh ht
    · have z' := wpAny_mono z (fun _ _ q => q.2) fun _ _ q => q
      rw [hh] at z' ⊢
      refine PyProof.Rows.callWith_type ?_ (Calls.evalArgs_plain z')
      show (false || (backTo pos (starEach r Γ.env)).any (·.1)) = false
      rw [ht]; rfl
noncomputable def ItOp (Γ : Fm) (loc : Loc) (own : Own) (tg : PySem.Expr) (f : Value) (as : List Dv) (Q : List Dv → (Own → Prop) → Loc → Own → Prop) : Prop :=
  ∀ h₀ s vs, Gd Γ.K h₀ → Rel h₀ Γ.env.locals loc own s.heap → VRs s.heap vs as → wpAny (model Γ.prog Γ.w) Γ.A (call f vs) (fun x s₁ => wpAny (model Γ.prog Γ.w) Γ.A (pyIter x) (ItOut Γ h₀ s tg Q) Γ.E s₁) Γ.E s
theorem it_call {id : Str} {p pos : Pos} {es : List PySem.Expr} {f : Value} {tg : PySem.Expr} {Q : List Dv → (Own → Prop) → Loc → Own → Prop} (hf : Callee Γ.K f) (hp : plainArgs es = true)
    (x : Ev Γ loc own (.Name id p) fun d loc own => d = .raw f ∧ EvL Γ loc own pos es fun ds loc own => ItOp Γ loc own tg f ds Q) : It Γ loc own tg (.Call (.Name id p) es [] pos) Q := by
  intro h₀ s g rel
  rw [arm_eval_Call_Name']
  refine wpAny_bind (x.use g rel fun d loc own s1 v p1 r1 v1 ⟨hd, q⟩ => ?_)
  subst hd
  cases v1
  refine callWith_R hf hp g r1 q fun ds loc own s2 vs p2 r2 v2 q2 => ?_
  exact wpAny_mono (q2 h₀ s2 vs g r2 v2) (fun x s3 y => wpAny_mono y (fun it s4 ⟨J, F, ds, H, P, M, loc, own, mo, pe, r, ap, S, p0, si, hH, q⟩ => ⟨J, F, ds, H, P, M, loc, own, mo.pre (p1.trans p2).p, (p1.trans p2).trans pe, r, ap, S, p0, si, hH, q⟩) fun _ _ z => z) fun _ _ z => z

end
end Mine

end
section
open PySem PySem.W PySem.Builtin PySem.Builtin.ObjectAttr
open PyProof.Rows hiding wpAt wpAt_bind
set_option linter.unusedSectionVars false
set_option maxRecDepth 100000
set_option maxHeartbeats 1000000
set_option linter.unusedVariables false
namespace Mine
variable [aI : Membership Nat Unit]
theorem str_ext {a b : Str} (h : a.cps = b.cps) : a = b := by cases a; cases b; cases h; rfl
theorem append_cps (a b : Str) : (a ++ b).cps = a.cps ++ b.cps := rfl
theorem append_empty (a : Str) : a ++ (⟨#[]⟩ : Str) = a := str_ext (by rw [append_cps]; simp)
theorem empty_append (a : Str) : (⟨#[]⟩ : Str) ++ a = a := str_ext (by rw [append_cps]; simp)
theorem append_assoc (a b c : Str) : a ++ b ++ c = a ++ (b ++ c) := str_ext (by simp [append_cps])
theorem len_append (a b : Str) : (a ++ b).length = a.length + b.length := by show (a ++ b).cps.size = _; rw [append_cps]; simp; rfl
noncomputable def cat : List Str → Str
  | [] => ⟨#[]⟩
  | x :: r => x ++ cat r
theorem join_cat : ∀ l : List Str, Str.join ⟨#[]⟩ l = cat l
  | [] => rfl
  | [x] => (append_empty x).symm
  | x :: y :: r => by
    show x ++ (⟨#[]⟩ : Str) ++ Str.join ⟨#[]⟩ (y :: r) = x ++ cat (y :: r)
    rw [append_empty, join_cat]
theorem cat_append (a b : List Str) : cat (a ++ b) = cat a ++ cat b := by
  induction a with
  | nil => exact (empty_append _).symm
  | cons x r ih => show x ++ cat (r ++ b) = x ++ cat r ++ cat b; rw [ih, append_assoc]
theorem cat_len (l : List Str) : (cat l).length = (l.map (·.length)).sum := by
  induction l with
  | nil => rfl
  | cons x r ih => show (x ++ cat r).length = _; rw [len_append, ih]; rfl
noncomputable def txt (ps : List (Str × Str)) : Str := cat (ps.map fun p => p.1 ++ p.2)
theorem txt_append (a b : List (Str × Str)) : txt (a ++ b) = txt a ++ txt b := by rw [txt, List.map_append, cat_append]; rfl
theorem txt_len (ps : List (Str × Str)) : ((txt ps).length : Int) = signs ps := by
  rw [txt, cat_len, signs, List.map_map]
  induction ps with
  | nil => rfl
  | cons p r ih =>
    simp only [List.map_cons, List.sum_cons, Function.comp, len_append] at ih ⊢
    omega
theorem Keeps.push {s s' : Shared} {o : Obj} (k : Keeps s s') : Keeps s { s' with heap := s'.heap.push o } := by
  obtain ⟨h, t, e, q⟩ := k
  subst e
  exact ⟨_, t, rfl, fun b o' z => Heap.get?_push_of_some _ (q b o' z)⟩
noncomputable def MForm (o : PySem.Expr) (name : Str) (apos : Pos) (es : List PySem.Expr) (pos : Pos) (env : Env) (pl : Sem Bool) : Prop :=
  eval (.Call (.Attribute o name apos) es [] pos) env = (do
      let ov ← eval o env
      standAt apos.atName
      let (f, first) ← holding [ov] (getMethod ov name pl)
      callWith pos f first (backTo pos (starEach es env)) [])
section
variable {prog : Program} {w : World} {A : Around} {E : Value → Shared → Prop} {s : Shared} {K : Frag} {env : Env} {m : Str → Option Value}
theorem low_join {gn x y : Str} {tg : Tok} {p1 p2 p3 p4 p5 p6 : Pos} {kt : Nat} {a b : Str} {t u : Tok} (he : ∃ pl, MForm (.Name gn p1) "join" p2 [.Tuple [.Name x p3, .Name y p4] kt p5] p6 env pl) (hk : env.scope.kind = .function) (hl : env.kindOf gn = some .globalImplicit) (hdg : (gn == ("__debug__" : Str)) = false)
    (hx : env.kindOf x = some .local) (hd : (x == ("__debug__" : Str)) = false) (hy : env.kindOf y = some .local) (hd' : (y == ("__debug__" : Str)) = false) (hg : env.globals = mainGlobals)
    (G : Gd K s.heap) (hn : nsIn K mainGlobals gn = some (some (.str ⟨#[]⟩ tg))) (ns : s.heap.Ns env.locals m) (hm : m x = some (.str a t)) (hm' : m y = some (.str b u)) (ha : a.length ≤ 1000) (hb' : b.length ≤ 1000) :
    wpAny (model prog w) A (eval (.Call (.Attribute (.Name gn p1) "join" p2) [.Tuple [.Name x p3, .Name y p4] kt p5] [] p6) env) (fun v s' => (∃ t, v = .str (a ++ b) t) ∧ Keeps s s') E s := by
  obtain ⟨mg, g⟩ := G.glb
  obtain ⟨pl, he⟩ := he
  refine PyProof.Rows.MethodCall_ (pl := pl) ?_ he
  refine Calls.Name_function_global hk hl (Calls.loadGlobal_global (hg ▸ g) (PySem.W.mg_of G.kin g hn) ?_) hdg
  refine GM.join ?_
  refine PyProof.Rows.callWith_method1 ?_ rfl rfl
  refine wpAny_items_cons ?_ rfl
  refine wpAny_Tuple ?_
  refine wpAny_items_cons (wpAny_Name (wpAny_loadName_local hk hx ns hm ?_) hd) rfl
  refine wpAny_items_cons (wpAny_Name (wpAny_loadName_local hk hy ns hm' ?_) hd') rfl
  refine wpAny_items_nil ⟨by show 2 ≤ sizeLine; decide, wpAny_items_nil ?_⟩
  refine join_tuple (items := #[.str a t, .str b u]) (ys := [a, b]) ⟨_, Heap.get?_push_size _ rfl, rfl, _, rfl⟩ (.cons _ _ (.cons _ _ .nil)) ?_ fun t' k => ⟨⟨t', ?_⟩, ?_⟩
  · show a.length + (b.length + 0) + 2 * 0 ≤ _; omega
  · rw [show Txt.join ⟨#[]⟩ [a, b] = Str.join ⟨#[]⟩ [a, b] from StrLaws.glued_eq_join _ _, join_cat]
    show Value.str (a ++ (b ++ ⟨#[]⟩)) t' = _
    rw [append_empty]
  · exact Keeps.toks (Keeps.push Keeps.refl)
end
theorem strVals_eq {n : Nat} {P : Nat → Value → Prop} {l : List (Str × Tok)} {ys : List Str} (hn : n = ys.length) (hP : ∀ i v, P i v → ∃ t, v = .str (ys.getD i ⟨#[]⟩) t) (h : ItemsOf P (strValues l).toArray n) : l.map (·.1) = ys := by
  apply List.ext_getElem?
  intro j
  have hsz : l.length = n := by simpa [strValues] using h.1
  by_cases hj : j < n
  · have hj' : j < l.length := hsz ▸ hj
    have hj2 : j < ys.length := hn ▸ hj
    obtain ⟨u, hv⟩ := hP j _ (h.2 j (.str l[j].1 l[j].2) (by simp [strValues, List.getElem?_eq_getElem hj']))
    injection hv with h1 _
    rw [List.getElem?_map, List.getElem?_eq_getElem hj', List.getElem?_eq_getElem hj2]
    simp only [Option.map_some]
    rw [h1, List.getD_eq_getElem?_getD, List.getElem?_eq_getElem hj2]; rfl
  · rw [List.getElem?_eq_none (by simp; omega), List.getElem?_eq_none (by omega)]
section
variable {Γ : Fm} {loc : Loc} {own own' : Own} {Q : QV} {QQ : QF}
theorem ev_join_gen {iter : PySem.Expr} {xa xb gn : Str} {tg : Tok} {pa pb pt pos p1 p2 p3 p4 p5 p6 q1 q2 q3 : Pos} {kt ku : Nat} {scope : Scope} {c T x C d : Addr} {ps : List (Str × Str)}
    (O : GenOk Γ scope iter xa xb c T) (H : AccK Γ.K C) (hroom : Γ.A.depth < recursionLimit)
    (hi : Ev Γ loc own iter fun e loc' own' => e = .raw (.ref x) ∧ loc' = loc ∧ own' = own) (ha : HasO x (.acc C d (ps.map dpair)) own) (ht : HasO T .tab own)
    (hgs : scope.names.lookup gn = some .globalImplicit) (hgk : Γ.env.kindOf gn = some .globalImplicit) (hdg : (gn == ("__debug__" : Str)) = false) (ng : nsIn Γ.K mainGlobals gn = some (some (.str ⟨#[]⟩ tg)))
    (hda : (xa == ("__debug__" : Str)) = false) (hdb : (xb == ("__debug__" : Str)) = false) (hps : ∀ p ∈ ps, p.1.length ≤ 1000 ∧ p.2.length ≤ 1000) (hpl : ps.length ≤ 1000)
    (hout : ∃ pl, MForm (.Name gn q1) "join" q2 [.GeneratorExp (.Call (.Attribute (.Name gn p1) "join" p2) [.Tuple [.Name xa p3, .Name xb p4] ku p5] [] p6) [⟨.Tuple [.Name xa pa, .Name xb pb] kt pt, iter, [], 0⟩] scope pos] q3 Γ.env pl)
    (hin : ∀ env, ∃ pl, MForm (.Name gn p1) "join" p2 [.Tuple [.Name xa p3, .Name xb p4] ku p5] p6 env pl)
    (q : Q (.str (txt ps)) loc own) :
    Ev Γ loc own (.Call (.Attribute (.Name gn q1) "join" q2) [.GeneratorExp (.Call (.Attribute (.Name gn p1) "join" p2) [.Tuple [.Name xa p3, .Name xb p4] ku p5] [] p6) [⟨.Tuple [.Name xa pa, .Name xb pb] kt pt, iter, [], 0⟩] scope pos] [] q3) Q := by
  intro h₀ s g rel
  obtain ⟨mg, G⟩ := g.glb
  obtain ⟨pl, hout⟩ := hout
  refine PyProof.Rows.MethodCall_ (pl := pl) ?_ hout
  refine Calls.Name_function_global Γ.hk hgk (Calls.loadGlobal_global (Γ.hg ▸ G.keeps rel.ow.keep) (PySem.W.mg_of g.kin G ng) ?_) hdg
  refine GM.join ?_
  refine PyProof.Rows.callWith_method1 ?_ rfl rfl
  refine wpAny_items_cons ?_ rfl
  refine gen_pairs (ps := ps.map fun p => (.str p.1, .str p.2)) (F := fun i v => ∃ t, v = .str ((ps.map fun p => p.1 ++ p.2).getD i ⟨#[]⟩) t) O H hroom g rel hi (by rw [List.map_map]; exact ha) ht ?_ ?_
  · intro cenv A' E' i p va vb s₂ m₂ hsc hg' hb' hA hD hU hp v1 v2 ns ma mb' G2
    rw [List.getElem?_map] at hp
    obtain ⟨p0, hp0, rfl⟩ := Option.map_eq_some_iff.mp hp
    cases v1; cases v2
    have hm := hps _ (List.mem_of_getElem? hp0)
    have hk' : cenv.scope.kind = .function := by rw [hsc]; exact O.kind
    refine wpAny_mono (low_join (hin _) hk' (by show cenv.scope.names.lookup _ = _; rw [hsc]; exact hgs) hdg (by show cenv.scope.names.lookup _ = _; rw [hsc]; exact O.ha) hda (by show cenv.scope.names.lookup _ = _; rw [hsc]; exact O.hb) hdb hg' G2 ng ns ma mb' hm.1 hm.2) (fun v s' ⟨⟨t, e⟩, kk⟩ => ⟨⟨t, ?_⟩, kk⟩) fun _ _ z => z
    rw [e, List.getD_eq_getElem?_getD, List.getElem?_map, hp0]; rfl
  · intro a s₅ fp wr Gn St pp gb r5 back hfp W st
    refine wpAny_items_nil ?_
    refine SC.joinGen (W.of_in1.of_in1) gb.2.1 st hfp gb.2.2 (fun i v ⟨t, e⟩ => ⟨_, t, e⟩) (fun s' l mv hl => ?_) (by rw [List.length_map]; unfold sizeLine; omega)
    rw [strVals_eq (ys := ps.map fun p => p.1 ++ p.2) (by simp) (fun i v z => z) hl]
    refine ⟨joinOk_of ?_, fun t' k => ?_⟩
    · have : ∀ qs : List (Str × Str), (∀ p ∈ qs, p.1.length ≤ 1000 ∧ p.2.length ≤ 1000) → ((qs.map fun p => p.1 ++ p.2).map (·.length)).sum ≤ qs.length * 2000 := by
        intro qs
        induction qs with
        | nil => intro _; exact Nat.le_refl _
        | cons p r ih =>
          intro h
          have h1 := h p (.head _)
          have h2 := ih fun x hx => h x (.tail _ hx)
          simp only [List.map_cons, List.sum_cons, len_append, List.length_cons]
          omega
      have h2 := this ps hps
      have : (⟨#[]⟩ : Str).length = 0 := rfl
      rw [this, Nat.mul_zero]
      omega
    · obtain ⟨p', r'⟩ := back s'.heap fun b o nb e => mv.heap b o nb e
      rw [show Txt.join ⟨#[]⟩ (ps.map fun p => p.1 ++ p.2) = Str.join ⟨#[]⟩ (ps.map fun p => p.1 ++ p.2) from StrLaws.glued_eq_join _ _, join_cat]
      exact ⟨_, _, _, ⟨p', mv.os.trans pp.os, fun h0 => gb.1 _ _ mv.gens (pp.bare h0)⟩, r', .str _ _, q⟩
end
end Mine

end
section
open PySem PySem.W PySem.Builtin PySem.Builtin.ObjectAttr
open PyProof.Rows hiding wpAt wpAt_bind
set_option linter.unusedSectionVars false
set_option maxRecDepth 100000
set_option maxHeartbeats 1000000
set_option linter.unusedVariables false
namespace Mine
variable [aI : Membership Nat Unit]
section
variable {Γ : Fm} {loc : Loc} {own own' : Own} {Q : QV} {QQ : QF}
theorem op_str_acc {x C d f : Addr} {ds : List Dv} (ha : HasO x (.acc C d ds) own) (hs : findIn Γ.K (.ref C) "__str__" = some (some (.ref f))) (hf : typeIn Γ.K (.ref f) = some (.type "function")) (hu : Γ.U + 2 < cLine)
    (c : CallT Γ.prog Γ.w Γ.K Γ.A.in1.in1 own (.ref f) [.raw (.ref x)] fun r own' => ∃ y, r = .str y ∧ Q (.str y) loc own') : OpN Γ loc own [.raw (.ref x)] (fun vs => call (.type "str") vs) Q := by
  intro h₀ s vs g rel vr
  cases vr with
  | cons a b =>
    cases b; cases a
    have hU := Γ.hU
    refine callType_newIn F.called_str (by decide) (F.typeCall_str_1 _) (F.newCall_str_1 _) (fun obj => F.args_object_init_2 obj _) F.entry_str_new
      (S := fun A R s => wpAny (model Γ.prog Γ.w) A.in1 (Builtin.Str.strOf (.ref x)) (fun r s' => R (.ok (.ret r)) s') (fun e s' => R (.error e) s') s) (fun A R s h => ?_) ?_
    · rw [str_new_tree]
      refine wpAny_bind (wpAny_pure ?_)
      refine wpAny_bind (wpAny_of_eq isSubtype_str_str ?_)
      exact wpAny_bind (wpAny_mono h (fun r s' h' => wpAny_pure h') fun _ _ e => e)
    · obtain ⟨ws, k, ho, rr⟩ := rel.ow.at_ _ ha.mem
      have X := g.kin.keeps rel.ow.keep
      have T : Looks (model Γ.prog Γ.w) s.heap (typeOf (.ref x)) (.ref C) := (Looks.ld ho).andThen .now
      unfold Builtin.Str.strOf
      rw [show Builtin.Str.isExactStr (.ref x) = false from rfl]
      refine wpAny_bind (m := cRoomFor _ _) (wpAny_cRoomFor (by simp only [Around.in1_units]; omega) ?_)
      refine wpAny_bind (m := callSpecial? (.ref x) (Str.ofString "__str__")) ?_
      unfold callSpecial? specialOf
      refine wpAny_bind (wpAny_bind (T.here ((looks_findIn X hs).here (wpAny_holding (wpAny_bind ((bind_fn X _ hf).here (wpAny_bind ?_)))))))
      refine wpAny_mono (c.use (Γ := Γ.in1.in1) (loc := loc) (R := fun v s' => Out h₀ Γ.env.locals s Q v s' ∧ ∃ y t, v = .str y t) g rel (.cons (.raw _) .nil) fun r own' s' v p r' v' ⟨y, e, q⟩ => ?_) (fun v s' ⟨z, y, t, e⟩ => ?_) fun _ _ z => z
      · subst e
        cases v'
        exact ⟨⟨_, _, _, p, r', .str _ _, q⟩, _, _, rfl⟩
      · subst e
        refine wpAny_pure ?_
        exact wpAny_pure ⟨typeIs_str _ _ _, z⟩
noncomputable def rangeD (a c : Int) (n : Nat) : List Dv := (List.range n).map fun (k : Nat) => Dv.int (a + (k : Int) * c)
theorem rangeD_len (a c : Int) (n : Nat) : (rangeD a c n).length = n := by simp [rangeD]
theorem rangeD_get {a c : Int} {n k : Nat} {d : Dv} (h : (rangeD a c n)[k]? = some d) : k < n ∧ d = .int (a + k * c) := by
  rw [rangeD, List.getElem?_map] at h
  by_cases hk : k < n
  · rw [List.getElem?_range hk] at h; simp at h; exact ⟨hk, h.symm⟩
  · rw [List.getElem?_eq_none (by simp; omega)] at h; cases h
theorem src_range (hh : Γ.A.handled = none) {tg : PySem.Expr} {it : Addr} {a c : Int} {n : Nat} :
    Src Γ.prog Γ.w Γ.A tg (.ref it) [it] (rangeD a c n) (fun _ => True) (fun k h => IsRangeIter h it (a + k * c) (n - k) c) (fun k _ h => IsRangeIter h it (a + k * c) (n - k) c) where
  mono := fun _ => trivial
  keep := fun {k h h'} p q => (q it (.head _)).trans p
  there := fun {k h} p x hx => by rcases List.mem_cons.mp hx with rfl | hx; exact ⟨_, p⟩; cases hx
  next := fun {k d h₀ L loc own s E R} hd hp rel ap ho _ kk => by
    obtain ⟨hk, rfl⟩ := rangeD_get hd
    refine wpAny_pyNext_range_item hp (by omega) fun h' hi hs => ?_
    have pp : Pers s.heap h' := fun b ws m _ q => (hs.2 b fun z => by subst z; rw [show s.heap.get? b = _ from hp] at q; simp [tupObj] at q).trans q
    refine kk _ _ (.int _ _) ?_ (fun b o nb e => (hs.2 b fun z => nb (z ▸ .head _)).trans e) pp.st
    have e1 : a + ((k + 1 : Nat) : Int) * c = a + k * c + c := by rw [Int.natCast_add, Int.add_mul]; omega
    have e2 : ((n : Int) - ((k + 1 : Nat) : Int)) = n - k - 1 := by omega
    rw [e1, e2]; exact hi
  stop := fun {h₀ L loc own s E R} hp rel ap ho kk => by
    rw [rangeD_len] at hp
    refine wpAny_pyNext_range_end hh hp (by omega) fun h' hs => ?_
    have pp : Pers s.heap h' := fun b ws m _ q => hs b _ (fun z => by subst z; rw [show s.heap.get? b = _ from hp] at q; simp [tupObj] at q) q
    exact kk _ (fun b o nb e => hs b o (fun z => nb (z ▸ .head _)) e) pp.st
  go := fun {k d v s E R} vr hp kk => go_plain hp rfl (by decide) (kk s hp (fun _ _ _ e => e) (Pers.st .refl))
theorem itop_range {tg : PySem.Expr} {a b c : Int} {n : Nat} {Q : List Dv → (Own → Prop) → Loc → Own → Prop} (hc : c ≠ 0) (hn : Builtin.Range.rangeSize a b c = n) (hs : Builtin.Range.small a b c = true) (hp : Builtin.divisionGoesByPylong (b - a) c = false) (q : Q (rangeD a c n) (fun _ => True) loc own) : ItOp Γ loc own tg (.type "range") [.int a, .int b, .int c] Q := by
  intro h₀ s vs g rel vr
  cases vr with
  | cons v1 v2 => cases v2 with
    | cons v2 v3 => cases v3 with
      | cons v3 v4 =>
        cases v4; cases v1; cases v2; cases v3
        refine call_range_3 hc ?_ (.inl hp)
        refine wpAny_pyIter_range (Heap.get?_push_size _ rfl) hs ?_
        rename_i t1 t2 t3
        generalize hh1 : s.heap.push { cls := .type "range", data := .fields #[.int a t1, .int b t2, .int c t3] } = h1
        have ex1 : Ext s.heap h1 := hh1 ▸ Ext.push _
        have ex : Ext h1 (h1.push { cls := .type "range_iterator", data := .fields #[rawInt a, rawInt (Builtin.Range.rangeSize a b c), rawInt c] }) := Ext.push _
        have r1 := rel.ext ex1
        refine ⟨⟨inferInstance⟩, [h1.objs.size], _, _, _, _, loc, own, .refl, ((Ext.pers ex1).trans (Ext.pers ex)).st, r1.ext ex, apart_new r1, src_range (a := a) (c := c) (n := n) Γ.hh, ?_, fun hp rr => wpAny_pyIter_rangeiter hp rr, trivial, q⟩
        have e1 : a + ((0 : Nat) : Int) * c = a := by simp
        have e2 : ((n : Int) - ((0 : Nat) : Int)) = n := by simp
        show IsRangeIter _ _ _ _ _
        rw [e1, e2, ← hn]
        exact Heap.get?_push_size _ rfl
theorem cps_beq (a b : Str) : (a.cps.toList == b.cps.toList) = decide (a = b) := by
  by_cases h : a = b
  · subst h; simp
  · rw [decide_eq_false h]
    exact beq_eq_false_iff_ne.mpr fun e => h (str_ext (Array.toList_inj.mp e))
theorem op_eq_str {a b : Str} (q : Q (.bool (decide (a = b))) loc own) : Op2 Γ loc own (.str a) (.str b) (compareOp .Eq) Q := by
  intro h₀ s v u g rel x y; cases x; cases y
  refine PySem.P.eq_str ?_
  rw [cps_beq]
  exact out_same rel rfl (.bool _) q
theorem op_ne_str {a b : Str} (q : Q (.bool (!decide (a = b))) loc own) : Op2 Γ loc own (.str a) (.str b) (compareOp .NotEq) Q := by
  intro h₀ s v u g rel x y; cases x; cases y
  refine PySem.P.ne_str ?_
  rw [bne, cps_beq]
  exact out_same rel rfl (.bool _) q
theorem PartD.val {h : Heap} {v : Value} {d : Dv} {k : Option Int} (x : PartD d k) (r : VR h v d) : ∃ p : Option (Int × Tok), v = partValue p ∧ p.map (·.1) = k := by
  cases x with
  | none => cases r; exact ⟨Option.none, rfl, rfl⟩
  | int i => cases r; rename_i t; exact ⟨some (i, t), rfl, rfl⟩
theorem sub_str_slice {value slice : PySem.Expr} {x : Str} {sl : Addr} {l u : Dv} {lo hi : Option Int} (hs : HasO sl (.slc l u .none) own) (pl : PartD l lo) (pu : PartD u hi) (hx : x.length ≤ 1000000) (q : Q (.str (Txt.slice x lo hi)) loc own) :
    Sub Γ loc own value slice (.str x) (.raw (.ref sl)) Q := by
  intro h₀ s v w g rel a b
  cases a; cases b
  obtain ⟨vl, vu, vt, os, r1, r2, r3⟩ := rel.ow.at_ _ hs.mem
  cases r3
  obtain ⟨p1, rfl, rfl⟩ := pl.val r1
  obtain ⟨p2, rfl, rfl⟩ := pu.val r2
  obtain ⟨ops, ho⟩ := subscripted_any slice (.str x ‹_›) (.ref sl)
  refine tail_any (typeIs_str _ _ _) F.slot_str_getitem.lookup (wpAny_getItem_str_slice (l := p1) (u := p2) (st := none) ⟨_, os, rfl, rfl⟩ rfl ?_) ho
  exact post_val_or_str ⟨Nat.le_trans (Txt.slice_le x _ _) (by unfold sizeLine; omega), fun t' k => out_same rel rfl (.str _ _) q⟩
theorem draw_list {prog : Program} {w : World} {A : Around} {E : Value → Shared → Prop} {it l : Addr} {items : Array Value} (hne : l ≠ it) : ∀ (n i : Nat) (s : Shared) (Q : List Value → Shared → Prop), s.heap.IsListIter it l i → s.heap.IsList l items → i + n ≤ items.size →
    (∀ h', h'.IsListIter it l (i + n) → Heap.SameBut it s.heap h' → Q ((items.toList.drop i).take n) { s with heap := h' }) → wpAny (model prog w) A (draw (.ref it) n) Q E s
  | 0, i, s, Q, hit, _, _, hQ => by
    show wpAny _ _ (pure []) Q E s
    exact wpAny_pure (by simpa using hQ s.heap hit (Heap.SameBut.refl ..))
  | n + 1, i, s, Q, hit, ht, hle, hQ => by
    have hlt : i < items.size := by omega
    show wpAny _ _ (pyNext (.ref it) >>= _) Q E s
    refine wpAny_bind (wpAny_pyNext_list_item hit ht (x := items[i]) (by simp [hlt]) fun h₁ hit₁ hs₁ => ?_)
    have ht1 : h₁.IsList l items := by obtain ⟨o, a, b⟩ := ht; exact ⟨o, (hs₁.2 l hne).trans a, b⟩
    refine wpAny_bind (wpAny_holding (draw_list hne n (i + 1) _ _ hit₁ ht1 (by omega) fun h₂ hit₂ hs₂ => wpAny_pure ?_))
    have hd : items.toList.drop i = items[i] :: items.toList.drop (i + 1) := by simp [List.drop_eq_getElem_cons, hlt]
    have := hQ h₂ (by rw [show i + (n + 1) = i + 1 + n by omega]; exact hit₂) (hs₁.trans hs₂)
    rw [hd, List.take_succ_cons] at this
    exact this
theorem unpackItems_list {prog : Program} {w : World} {A : Around} {E : Value → Shared → Prop} {s : Shared} {l : Addr} {items : Array Value} {Q : List Value → Shared → Prop} (hh : A.handled = none) (ht : s.heap.IsList l items)
    (hQ : ∀ h', Heap.ExtBut s.heap.objs.size s.heap h' → Q items.toList { s with heap := h' }) : wpAny (model prog w) A (unpackItems (.ref l) items.size none) Q E s := by
  have hlt : l ≠ s.heap.objs.size := by obtain ⟨o, ho, _⟩ := ht; exact Nat.ne_of_lt (Heap.lt_size ho)
  unfold unpackItems
  refine wpAny_bind ?_
  unfold notIterableAtAll
  refine wpAny_bind (wpAny_specialOf ht.typeIs slot_list_iter.lookup ?_)
  refine wpAny_pure ?_
  simp only [Bool.false_eq_true, if_false]
  refine wpAny_bind (wpAny_holding (wpAny_pyIter_list ht ?_))
  have ex : Ext s.heap (s.heap.push { cls := .type "list_iterator", data := .fields #[.ref l, .int 0 0] }) := Ext.push _
  have ht0 : (s.heap.push { cls := .type "list_iterator", data := .fields #[.ref l, .int 0 0] }).IsList l items := by obtain ⟨o, a, b⟩ := ht; exact ⟨o, ex _ _ a, b⟩
  refine wpAny_bind (wpAny_holding (draw_list hlt items.size 0 _ _ ⟨_, Heap.get?_push_size _ rfl, rfl, rfl⟩ ht0 (by omega) fun h₁ hit₁ hs₁ => ?_))
  have hall : List.take items.size (List.drop 0 items.toList) = items.toList := by
    rw [List.drop_zero]; exact List.take_of_length_le (by simp)
  rw [hall]
  rw [if_neg (by simp)]
  have ht₁ : h₁.IsList l items := by obtain ⟨o, a, b⟩ := ht0; exact ⟨o, (hs₁.2 l hlt).trans a, b⟩
  refine wpAny_bind (wpAny_holding (wpAny_pyNext_list_end hh hit₁ ht₁ (by simp) fun h₂ he₂ => ?_))
  simp only [Option.isSome_none, Bool.false_eq_true, if_false]
  exact wpAny_pure (hQ h₂ fun b o hb e => he₂ b o hb (hs₁.extBut b o hb (Heap.get?_push_of_some _ e)))
theorem as_tuple_list {ts : List PySem.Expr} {k : Nat} {pos : Pos} {l : Addr} {ds : List Dv} {Q : Loc → Own → Prop} (ha : HasO l (.list ds) own) (hp : plainArgs ts = true) (hl : ts.length = ds.length) (x : AsL Γ loc own ts ds Q) : As Γ loc own (.Tuple ts k pos) (.raw (.ref l)) Q := by
  intro h₀ s v g rel vr
  cases vr
  obtain ⟨vs, il, r, e⟩ := list_at ha rel
  obtain ⟨l1, l2⟩ := assignEach_len (env := Γ.env) hp
  rw [assign_Tuple]
  refine wpAny_bind (wpAny_standAt ?_)
  unfold unpack
  rw [l1, hl, ← r.length, l2, ← List.size_toArray]
  refine wpAny_bind (wpAny_holding (unpackItems_list Γ.hh il fun h' eb => ?_))
  have ex : Ext s.heap h' := fun b o e => eb b o (Nat.ne_of_lt (Heap.lt_size e)) e
  exact asL_go hp x g (rel.ext ex) (r.mono (Ext.pers ex)) (Ext.pers ex).st
end
end Mine

end
section
open PySem PySem.W PySem.Builtin PySem.Builtin.ObjectAttr
open PyProof.Rows hiding wpAt wpAt_bind
set_option linter.unusedSectionVars false
set_option maxRecDepth 100000
set_option maxHeartbeats 1000000
set_option linter.unusedVariables false
namespace Mine
variable [aI : Membership Nat Unit]
noncomputable def takeS (x : Str) (n : Nat) : Str := ⟨(x.cps.toList.take n).toArray⟩
noncomputable def dropS (x : Str) (n : Nat) : Str := ⟨(x.cps.toList.drop n).toArray⟩
theorem str_list {a b : Str} (h : a.cps.toList = b.cps.toList) : a = b := str_ext (Array.toList_inj.mp h)
theorem app_list (a b : Str) : (a ++ b).cps.toList = a.cps.toList ++ b.cps.toList := by rw [append_cps]; simp
theorem len_list (a : Str) : a.length = a.cps.toList.length := by show a.cps.size = _; simp
theorem slice_idx (lo hi : Option Nat) (len : Nat) : Builtin.Str.strSliceIndices (lo.map Int.ofNat) (hi.map Int.ofNat) 1 len = (List.range ((hi.elim len (min · len)) - (lo.elim 0 (min · len)))).map ((lo.elim 0 (min · len)) + ·) := by
  unfold Builtin.Str.strSliceIndices
  simp only [show (1 : Int) > 0 by decide, if_true]
  have h1 : (match (lo.map Int.ofNat : Option Int) with | none => (0 : Int) | some i => max 0 (min (if i < 0 then i + (len : Int) else i) (len : Int))) = ((lo.elim 0 (min · len) : Nat) : Int) := by
    cases lo with
    | none => rfl
    | some a =>
      show max 0 (min (if (a : Int) < 0 then (a : Int) + (len : Int) else (a : Int)) (len : Int)) = ((min a len : Nat) : Int)
      rw [if_neg (by omega)]; omega
  have h2 : (match (hi.map Int.ofNat : Option Int) with | none => (len : Int) | some i => max 0 (min (if i < 0 then i + (len : Int) else i) (len : Int))) = ((hi.elim len (min · len) : Nat) : Int) := by
    cases hi with
    | none => rfl
    | some a =>
      show max 0 (min (if (a : Int) < 0 then (a : Int) + (len : Int) else (a : Int)) (len : Int)) = ((min a len : Nat) : Int)
      rw [if_neg (by omega)]; omega
  rw [← sliceRange_one]
  congr 1
theorem slice_plain (x : Str) (lo hi : Option Nat) : Txt.slice x (lo.map Int.ofNat) (hi.map Int.ofNat) = ⟨((x.cps.toList.drop (lo.elim 0 (min · x.length))).take ((hi.elim x.length (min · x.length)) - (lo.elim 0 (min · x.length)))).toArray⟩ := by
  unfold Txt.slice
  rw [slice_idx, pick_run]
  split
  · rename_i h
    simp only [List.length_map, List.length_range, Bool.and_eq_true, beq_iff_eq] at h
    have h2 : hi.elim x.length (min · x.length) ≤ x.length := by cases hi <;> simp <;> omega
    have e1 : lo.elim 0 (min · x.length) = 0 ∨ x.length = 0 := by omega
    apply str_list
    have hl := len_list x
    rcases e1 with e1 | e1
    · rw [e1] at h ⊢
      rw [List.drop_zero, List.take_of_length_le (by rw [← hl]; omega)]
    · have : x.cps.toList = [] := List.eq_nil_of_length_eq_zero (by omega)
      simp [this]
  · rfl
theorem slice_to (x : Str) (n : Nat) : Txt.slice x none (some (n : Int)) = takeS x n := by
  have := slice_plain x none (some n)
  simp only [Option.map_none, Option.map_some, Option.elim, List.drop_zero, Nat.sub_zero] at this
  refine this.trans ?_
  apply str_list
  show _ = x.cps.toList.take n
  rw [len_list, ← List.take_eq_take_min]
theorem slice_from (x : Str) (n : Nat) : Txt.slice x (some (n : Int)) none = dropS x n := by
  have := slice_plain x (some n) none
  simp only [Option.map_none, Option.map_some, Option.elim] at this
  refine this.trans ?_
  apply str_list
  show _ = x.cps.toList.drop n
  rw [len_list]
  rcases Nat.le_total n x.cps.toList.length with h | h
  · rw [Nat.min_eq_left h]; exact List.take_of_length_le (by simp)
  · rw [Nat.min_eq_right h, List.drop_of_length_le h]; simp
theorem takeS_app {a b : Str} {n : Nat} (h : a.length = n) : takeS (a ++ b) n = a := str_list (by
  show (a ++ b).cps.toList.take n = _
  rw [app_list, List.take_append_of_le_length (by rw [← len_list]; omega), List.take_of_length_le (by rw [← len_list]; omega)])
section
variable {Γ : Fm} {loc loc1 : Loc} {own own1 : Own}
end
theorem signs_append (a b : List (Str × Str)) : signs (a ++ b) = signs a + signs b := by unfold signs; rw [List.map_append, List.sum_append]
theorem signs_one (p : Str × Str) : signs [p] = p.1.length + p.2.length := by simp [signs]
theorem txt_one (p : Str × Str) : txt [p] = p.1 ++ p.2 := by show p.1 ++ p.2 ++ ⟨#[]⟩ = _; rw [append_empty]
theorem txt_nil : txt [] = ⟨#[]⟩ := rfl
end Mine

end
section
open PySem PySem.W PySem.Builtin PySem.Builtin.ObjectAttr
open PyProof.Rows hiding wpAt wpAt_bind
set_option linter.unusedSectionVars false
set_option maxRecDepth 100000
set_option maxHeartbeats 1000000
set_option linter.unusedVariables false
namespace Mine
variable [aI : Membership Nat Unit]
section
variable {Γ : Fm} {loc : Loc} {own own' : Own} {Q : QV} {QQ : QF}
inductive StoreTo (Γ : Fm) (x : Str) (d : Dv) : Loc → Own → Loc → Own → Prop
  | loc {loc loc' : Loc} {own : Own} : Γ.env.kindOf x = some .local → SetL x d loc loc' → StoreTo Γ x d loc own loc' own
  | cel {loc : Loc} {own own' : Own} {c : Addr} {o : Option Dv} : Γ.env.kindOf x = some .cell → Γ.env.cells.lookup x = some c → Upd c (.cell o) (.cell (some d)) own own' → StoreTo Γ x d loc own loc own'
theorem storeTo_ {x : Str} {d : Dv} {v : Value} {loc' : Loc} {h₀ : Heap} {s : Shared} {R : Unit → Shared → Prop} (rel : Rel h₀ Γ.env.locals loc own s.heap) (u : StoreTo Γ x d loc own loc' own') (vr : VR s.heap v d)
    (k : ∀ s', Stays s s' → Rel h₀ Γ.env.locals loc' own' s'.heap → R () s') : wpAny (model Γ.prog Γ.w) Γ.A (storeName Γ.env x v) R Γ.E s := by
  cases u with
  | loc hl u => exact store_ rel hl u vr k
  | cel hl hc u =>
    rename_i c o
    have old := rel.ow.at_ _ u.mem
    obtain ⟨v₀, hv₀⟩ : ∃ v₀, s.heap.IsCell c v₀ := by
      cases o with
      | none => exact ⟨_, old⟩
      | some d => obtain ⟨v, p, _⟩ := old; exact ⟨_, p⟩
    refine wpAny_storeName_cell Γ.hk hl hc hv₀ fun h' hv' hs => ?_
    have ch : Chg c s.heap h' := ⟨fun b hb => hs.2 b hb, old.some⟩
    exact k _ ch.pers.st (rel.upd u ch ⟨v, hv', vr.mono ch.pers⟩)
theorem ex_assignS {x : Str} {pos' pos : Pos} {e : PySem.Expr} (hs : swapsWith e (some (.Name x pos')) pos.line Γ.env = pure false)
    (y : Ev Γ loc own e fun d loc own => ∃ loc' own', StoreTo Γ x d loc own loc' own' ∧ QQ .next loc' own') : Ex Γ loc own (.Assign [.Name x pos'] e pos) QQ := by
  intro h₀ s g rel
  refine wpAny_Assign_Name (y.use g rel fun d loc own s' v p r vr ⟨loc', own', u, q⟩ => storeTo_ r u vr fun s'' p' r' => ⟨_, _, _, p.trans p', r', .next, q⟩) hs
end

end Mine

end
section
open PySem PySem.W PySem.Builtin PySem.Builtin.ObjectAttr
open PyProof.Rows hiding wpAt wpAt_bind
set_option linter.unusedSectionVars false
set_option maxRecDepth 100000
set_option maxHeartbeats 1000000
set_option linter.unusedVariables false
namespace Mine
variable [aI : Membership Nat Unit]
section
variable {Γ : Fm} {loc : Loc} {own own' : Own} {Q : QV} {QQ : QF}
noncomputable def EvB (Γ : Fm) (loc : Loc) (own : Own) (pos : Pos) (op : BoolOp) (es : List PySem.Expr) (Q : QV) : Prop :=
  ∀ h₀ s, Gd Γ.K h₀ → Rel h₀ Γ.env.locals loc own s.heap → wpAny (model Γ.prog Γ.w) Γ.A (boolOp pos op (evalEach es Γ.env)) (Out h₀ Γ.env.locals s Q) Γ.E s
theorem ev_boolop {op : BoolOp} {es : List PySem.Expr} {pos : Pos} (x : EvB Γ loc own pos op es Q) : Ev Γ loc own (.BoolOp op es pos) Q := fun h₀ s g rel => by
  rw [arm_eval_BoolOp]; exact x h₀ s g rel
theorem evb_last {op : BoolOp} {e : PySem.Expr} {pos : Pos} (x : Ev Γ loc own e Q) : EvB Γ loc own pos op [e] Q := fun h₀ s g rel => x h₀ s g rel
theorem evb_and {e e' : PySem.Expr} {es : List PySem.Expr} {pos : Pos} (x : Ev Γ loc own e fun d loc own => Truth Γ loc own d fun b loc own => if b then EvB Γ loc own pos .And (e' :: es) Q else Q d loc own) : EvB Γ loc own pos .And (e :: e' :: es) Q := fun h₀ s g rel => by
  show wpAny _ _ (eval e Γ.env >>= fun v => standAt pos >>= fun _ => holding [v] (truthy v) >>= fun t => match BoolOp.And, t with | .And, false | .Or, true => pure v | _, _ => boolOp pos .And (evalEach (e' :: es) Γ.env)) _ _ _
  refine wpAny_bind (x.use g rel fun d loc own s1 v p1 r1 v1 q1 => wpAny_bind (wpAny_standAt (wpAny_bind (wpAny_holding (wpAny_mono (q1 h₀ s1 v g r1 v1) (fun b s2 z => ?_) fun _ _ z => z)))))
  obtain ⟨loc2, own2, p2, r2, q2⟩ := z
  cases b
  · exact wpAny_pure ⟨_, _, _, p1.trans p2, r2, v1.mono p2.p, by simpa using q2⟩
  · simp only [if_true] at q2
    exact wpAny_mono (q2 h₀ s2 g r2) (fun _ _ z => z.pers (p1.trans p2)) fun _ _ z => z
theorem evb_or {e e' : PySem.Expr} {es : List PySem.Expr} {pos : Pos} (x : Ev Γ loc own e fun d loc own => Truth Γ loc own d fun b loc own => if b then Q d loc own else EvB Γ loc own pos .Or (e' :: es) Q) : EvB Γ loc own pos .Or (e :: e' :: es) Q := fun h₀ s g rel => by
  show wpAny _ _ (eval e Γ.env >>= fun v => standAt pos >>= fun _ => holding [v] (truthy v) >>= fun t => match BoolOp.Or, t with | .And, false | .Or, true => pure v | _, _ => boolOp pos .Or (evalEach (e' :: es) Γ.env)) _ _ _
  refine wpAny_bind (x.use g rel fun d loc own s1 v p1 r1 v1 q1 => wpAny_bind (wpAny_standAt (wpAny_bind (wpAny_holding (wpAny_mono (q1 h₀ s1 v g r1 v1) (fun b s2 z => ?_) fun _ _ z => z)))))
  obtain ⟨loc2, own2, p2, r2, q2⟩ := z
  cases b
  · simp only [Bool.false_eq_true, if_false] at q2
    exact wpAny_mono (q2 h₀ s2 g r2) (fun _ _ z => z.pers (p1.trans p2)) fun _ _ z => z
  · exact wpAny_pure ⟨_, _, _, p1.trans p2, r2, v1.mono p2.p, by simpa using q2⟩
theorem ev_mono {e : PySem.Expr} {Q' : QV} (x : Ev Γ loc own e Q) (m : ∀ d loc own, Q d loc own → Q' d loc own) : Ev Γ loc own e Q' := fun h₀ s g rel =>
  wpAny_mono (x h₀ s g rel) (fun _ _ z => by obtain ⟨d, l, o, a, b, c, e⟩ := z; exact ⟨d, l, o, a, b, c, m _ _ _ e⟩) fun _ _ z => z
theorem ev_and2 {e e' : PySem.Expr} {pos : Pos} (x : Ev Γ loc own e fun d loc own => ∃ b, d = .bool b ∧ if b then Ev Γ loc own e' Q else Q (.bool false) loc own) : Ev Γ loc own (.BoolOp .And [e, e'] pos) Q :=
  ev_boolop (evb_and (ev_mono x fun d loc own z => by
    obtain ⟨b, rfl, q⟩ := z
    refine truth_bool ?_
    cases b
    · simpa using q
    · simp only [if_true] at q ⊢; exact evb_last q))
theorem ev_or2 {e e' : PySem.Expr} {pos : Pos} (x : Ev Γ loc own e fun d loc own => ∃ b, d = .bool b ∧ if b then Q (.bool true) loc own else Ev Γ loc own e' Q) : Ev Γ loc own (.BoolOp .Or [e, e'] pos) Q :=
  ev_boolop (evb_or (ev_mono x fun d loc own z => by
    obtain ⟨b, rfl, q⟩ := z
    refine truth_bool ?_
    cases b
    · simp only [Bool.false_eq_true, if_false] at q ⊢; exact evb_last q
    · simpa using q))
theorem ev_not {e : PySem.Expr} {pos : Pos} (x : Ev Γ loc own e fun d loc own => Truth Γ loc own d fun b loc own => Q (.bool (!b)) loc own) : Ev Γ loc own (.UnaryOp .Not e pos) Q := fun h₀ s g rel => by
  rw [arm_eval_UnaryOp]
  refine wpAny_bind (x.use g rel fun d loc own s1 v p1 r1 v1 q1 => wpAny_bind (wpAny_standAt (wpAny_holding ?_)))
  show wpAny _ _ (holding [v] (truthy v >>= fun b => pure (Value.bool (!b)))) _ _ _
  refine wpAny_holding (wpAny_bind (wpAny_mono (q1 h₀ s1 v g r1 v1) (fun b s2 z => ?_) fun _ _ z => z))
  obtain ⟨loc2, own2, p2, r2, q2⟩ := z
  exact wpAny_pure ⟨_, _, _, p1.trans p2, r2, .bool _, q2⟩
theorem truth_str {a : Str} {Q : Bool → Loc → Own → Prop} (hl : a.length ≤ 1000000) (q : Q (decide (a.length ≠ 0)) loc own) : Truth Γ loc own (.str a) Q := by
  intro h₀ s v g rel vr
  cases vr
  refine PySem.P.truthy_str (by omega) ?_
  rw [show ((a.length : Int) != 0) = decide (a.length ≠ 0) by
    by_cases h : a.length = 0
    · simp [h]
    · simp [h]]
  exact ⟨_, _, Pers.st .refl, rel, q⟩
theorem truth_acc {x C d f : Addr} {ds : List Dv} {Q : Bool → Loc → Own → Prop} (ha : HasO x (.acc C d ds) own) (hb : findIn Γ.K (.ref C) "__bool__" = some none) (hs : findIn Γ.K (.ref C) "__len__" = some (some (.ref f))) (hf : typeIn Γ.K (.ref f) = some (.type "function"))
    (c : CallT Γ.prog Γ.w Γ.K Γ.A.in1 own (.ref f) [.raw (.ref x)] fun r own' => ∃ n : Int, r = .int n ∧ 0 ≤ n ∧ n < 2 ^ 63 ∧ Q (decide (n ≠ 0)) loc own') : Truth Γ loc own (.raw (.ref x)) Q := by
  intro h₀ s v g rel vr
  cases vr
  obtain ⟨ws, k, ho, rr⟩ := rel.ow.at_ _ ha.mem
  have X := g.kin.keeps rel.ow.keep
  have T : Looks (model Γ.prog Γ.w) s.heap (typeOf (.ref x)) (.ref C) := (Looks.ld ho).andThen .now
  have key : wpAny (model Γ.prog Γ.w) Γ.A (runValue (.builtin "len" ⟨[.ref x], []⟩)) (fun r s' => ∃ n t, r = .int n t ∧ OutU h₀ Γ.env.locals s (Q (decide (n ≠ 0))) s') Γ.E s := by
    refine wpAny_runValue (codeAny_builtin entry_len ?_)
    rw [Around.under_plainId plain_len _]
    unfold Builtin.«len»
    refine wpAny_bind (m := oneArg "len" _) (wpAny_pure ?_)
    refine wpAny_bind (m := callSpecial? (.ref x) (Str.ofString "__len__")) ?_
    unfold callSpecial? specialOf
    refine wpAny_bind (wpAny_bind (T.here ((looks_findIn X hs).here (wpAny_holding (wpAny_bind ((bind_fn X _ hf).here (wpAny_bind ?_)))))))
    refine (c.use (Γ := Γ.in1) (loc := loc) g rel (.cons (.raw _) .nil) fun r own' s' v p r' v' z => ?_)
    obtain ⟨n, e, h0, h1, q⟩ := z
    subst e
    cases v'
    refine wpAny_pure ?_
    refine wpAny_bind (wpAny_holding (wpAny_pure ?_))
    refine wpAny_bind (wpAny_letGo ?_)
    show wpAny _ _ (if n < 0 then _ else _) _ _ _
    rw [if_neg (by omega)]
    show wpAny _ _ (if n ≥ 2 ^ 63 then _ else _) _ _ _
    rw [if_neg (by omega)]
    exact wpAny_bind (wpAny_mkInt (wpAny_pure ⟨n, _, rfl, _, _, p.trans (Pers.st .refl), r', q⟩))
  have sb : Looks (model Γ.prog Γ.w) s.heap (specialOf (.ref x) (Str.ofString "__bool__")) none := T.andThen (looks_findIn X hb)
  have sl : Looks (model Γ.prog Γ.w) s.heap (specialOf (.ref x) (Str.ofString "__len__")) (some (.ref f)) := T.andThen (looks_findIn X hs)
  unfold truthy
  refine wpAny_bind (m := callSpecial? (.ref x) (Str.ofString "__bool__")) ?_
  unfold callSpecial?
  refine wpAny_bind (sb.here (wpAny_pure ?_))
  refine wpAny_bind (sl.here ?_)
  rw [if_neg (by simp)]
  refine wpAny_bind (wpAny_mono key (fun r s' z => ?_) fun _ _ z => z)
  obtain ⟨n, t, rfl, q⟩ := z
  refine wpAny_pure ?_
  rw [show (n != 0) = decide (n ≠ 0) by
    by_cases h : n = 0
    · subst h; rfl
    · rw [decide_eq_true h]; exact bne_iff_ne.mpr h]
  exact q
theorem op_isspace {x : Str} (q : Q (.bool (Txt.isspace x)) loc own) : OpN Γ loc own [.str x] (fun vs => call (.builtin "str.isspace") vs) Q := by
  intro h₀ s vs g rel vr
  cases vr with
  | cons a b => cases b; cases a; exact SC.isspace (out_same rel rfl (.bool _) q)
theorem gm_isspace {x : Str} {M : Model} {A : Around} {E : Value → Shared → Prop} {s : Shared} {t : Tok} {pl : Sem Bool} {R : Value × List Value → Shared → Prop} : R (.builtin "str.isspace", [.str x t]) s → wpAny M A (getMethod (.str x t) "isspace" pl) R E s := fun h => GM.isspace h
end
noncomputable def whiteAll (x : Str) : Bool := x.cps.toList.all Unicode.isSpace
theorem isspace_white {x : Str} (h : x.length ≠ 0) : Txt.isspace x = whiteAll x := by
  unfold Txt.isspace whiteAll
  rw [show decide (x.length > 0) = true from decide_eq_true (by omega), Bool.true_and, Array.all_toList]
theorem signs_nn' (ps : List (Str × Str)) : 0 ≤ signs ps := by rw [← txt_len]; omega
theorem signs_top' {ps : List (Str × Str)} (h : ∀ p ∈ ps, p.1.length ≤ 1000 ∧ p.2.length ≤ 1000) : signs ps ≤ ps.length * 2000 := by
  induction ps with
  | nil => decide
  | cons p r ih =>
    have h1 := h p (.head _)
    have h2 := ih fun x hx => h x (.tail _ hx)
    rw [show p :: r = [p] ++ r from rfl, signs_append, signs_one]
    simp only [List.length_append, List.length_singleton]
    omega
theorem whiteAll_nil {ps : List (Str × Str)} (h : signs ps = 0) : whiteAll (txt ps) = true := by
  have h1 := txt_len ps
  have h2 := len_list (txt ps)
  have : (txt ps).cps.toList = [] := List.eq_nil_of_length_eq_zero (by omega)
  unfold whiteAll; rw [this]; rfl
theorem pickL_clip {α : Type} (ds : List α) (i : Int) : pickL ds (some i) none none = ds.drop (clipAt ds.length i) := by
  rw [pickL_plain]
  simp only [Option.elim]
  rw [List.take_of_length_le (by rw [List.length_drop]; exact Nat.le_refl _)]
theorem clip_le (n : Nat) (i : Int) : clipAt n i ≤ n := by have := clipAt_cast n i; omega
theorem putS_clip (ds : List Dv) (i : Int) (es : List Dv) : putS ds (some i) none es = ds.take (clipAt ds.length i) ++ es := by
  unfold putS
  have h : sliceBounds (some i) none none ds.length = ((clipAt ds.length i : Int), (ds.length : Int), 1) := by
    rw [sliceBounds_plain]; rfl
  rw [h]
  have h1 := clip_le ds.length i
  simp only [Int.toNat_natCast]
  rw [show (max (clipAt ds.length i : Int) (ds.length : Int)).toNat = ds.length by omega, List.drop_length, List.append_nil]
theorem callee_b {K : Frag} {id : String} : Callee K (.builtin id) := .inr (.inl ⟨_, rfl⟩)
theorem callee_t {K : Frag} {T : String} : Callee K (.type T) := .inr (.inr ⟨_, rfl⟩)
theorem callee_k {K : Frag} {f : Value} (h : keepIn K f = true) : Callee K f := .inl h
theorem boot_str : bootBuiltins "str" = some (.type "str") := by kernel_rfl
theorem boot_range : bootBuiltins "range" = some (.type "range") := by kernel_rfl
theorem boot_zip : bootBuiltins "zip" = some (.type "zip") := by kernel_rfl
noncomputable def popD (ds : List Dv) : Dv := ds.getLast?.getD (.tup [.str "", .str ""])
noncomputable def Fits (ps : List (Str × Str)) : Prop := ∀ p ∈ ps, p.1.length ≤ 1000 ∧ p.2.length ≤ 1000
noncomputable def forBodies : List Stmt → List (List Stmt)
  | [] => []
  | .For _ _ b _ _ :: r => b :: forBodies r
  | _ :: r => forBodies r
end Mine

end
section
open PySem PySem.W PySem.Builtin PySem.Builtin.ObjectAttr
open PyProof.Rows hiding wpAt wpAt_bind
set_option linter.unusedSectionVars false
set_option maxRecDepth 100000
set_option maxHeartbeats 1000000
set_option linter.unusedVariables false
namespace Mine
variable [aI : Membership Nat Unit]
noncomputable def Pk (a b : Own) : Prop := ∃ is : List Nat, is.Nodup ∧ pickO is b = a
section
variable {Γ : Fm} {loc loc1 : Loc} {own own1 : Own} {Q : QV} {QQ : QF}
theorem callT_pk {prog : Program} {w : World} {K : Frag} {A : Around} {f : Value} {ds : List Dv} {Q : Dv → Own → Prop} (x : CallT prog w K A own f ds fun d own => ∃ o', Pk o' own ∧ Q d o') : CallT prog w K A own f ds Q :=
  fun h₀ s vs g ok vr => codeAny_mono (x h₀ s vs g ok vr) fun r s' z => by
    obtain ⟨v, d, own', e, p, o, v', o', ⟨is, hi, rfl⟩, q⟩ := z
    exact ⟨v, d, _, e, p, o.pick hi, v', q⟩
end
theorem cmpPair : Cmp dpair 1 := cmpP cmpStr cmpStr
end Mine

end
section
open PySem PySem.W PySem.Builtin PySem.Builtin.ObjectAttr
open PyProof.Rows hiding wpAt wpAt_bind
open PySem.SeqAt
set_option linter.unusedSectionVars false
set_option maxRecDepth 100000
set_option maxHeartbeats 1000000
set_option linter.unusedVariables false
namespace Mine
variable [aI : Membership Nat Unit]
section
variable {Γ : Fm} {loc : Loc} {own own' : Own} {Q : QV} {QQ : QF}
theorem sub_list_neg {value slice : PySem.Expr} {a : Addr} {ds : List Dv} {k : Int} {d : Dv} (ha : HasO a (.list ds) own) (hs : notSlice slice = true) (h0 : k < 0) (h1 : -(ds.length : Int) ≤ k) (hk : ds[(k + ds.length).toNat]? = some d) (hl : ds.length ≤ 1000000) (q : Q d loc own) :
    Sub Γ loc own value slice (.raw (.ref a)) (.int k) Q := by
  intro h₀ s v u g rel x y
  cases x; cases y
  obtain ⟨vs, il, r, e⟩ := list_at ha rel
  obtain ⟨v, hv, vr⟩ := r.get' hk
  exact tail_any il.typeIs slot_list_getitem.lookup (wpAny_getItem_list_neg il h0 (by rw [List.size_toArray]; omega) (by omega) (by rw [List.size_toArray, e, List.getElem?_toArray]; exact hv) (out_same rel rfl vr q)) (subscripted_plain hs)
end
end Mine

end
section
open PySem PySem.W PySem.Builtin PySem.Builtin.ObjectAttr
open PyProof.Rows hiding wpAt wpAt_bind
set_option linter.unusedSectionVars false
set_option maxRecDepth 100000
set_option maxHeartbeats 1000000
set_option linter.unusedVariables false
namespace Mine
variable [aI : Membership Nat Unit]
section
variable {Γ : Fm} {loc : Loc} {own own' : Own} {Q : QV} {QQ : QF}
theorem addr_ne {a b : Nat} (h : @LT.lt Nat _ a b ∨ @LT.lt Nat _ b a) : @Ne Addr a b := fun z => by
  have z : @Eq Nat a b := z
  omega
theorem iter_ne {h : Heap} {i l a : Addr} {k : Nat} {vs : List Value} {n : Nat} (hi : h.IsListIter i l k) (q : h.get? a = some (tupObj vs n)) : a ≠ i := fun z => by
  subst z; obtain ⟨o, ho, hc, _⟩ := hi; rw [ho] at q; cases q; simp at hc
end
end Mine

end
section
open PySem PySem.W PySem.Builtin PySem.Builtin.ObjectAttr
open PyProof.Rows hiding wpAt wpAt_bind
set_option linter.unusedSectionVars false
set_option maxRecDepth 100000
set_option maxHeartbeats 1000000
set_option linter.unusedVariables false
namespace Mine
variable [aI : Membership Nat Unit]
section
variable {Γ : Fm} {loc : Loc} {own own' : Own} {Q : QV} {QQ : QF}
theorem src_acc (hh : Γ.A.handled = none) {tg : PySem.Expr} {it x C d : Addr} {ds : List Dv} (hl : x ≠ it) : Src Γ.prog Γ.w Γ.A tg (.ref it) [it] ds (fun own => HasO x (.acc C d ds) own) (fun k h => h.IsListIter it x k) (fun k _ h => h.IsListIter it x k) where
  mono := fun h => .there h
  keep := fun {k h h'} ⟨o, a, b⟩ q => ⟨o, (q it (.head _)).trans a, b⟩
  there := fun {k h} ⟨o, a, b⟩ c hc => by rcases List.mem_cons.mp hc with rfl | hc; exact ⟨o, a⟩; cases hc
  next := fun {k d h₀ L loc own s E R} hd hp rel ap ho _ kk => by
    obtain ⟨vs, n, hx, r⟩ := rel.ow.at_ _ ho.mem
    obtain ⟨v, hv, vr⟩ := r.get' hd
    refine seq_next hp hx rfl hv fun h' hi hs => ?_
    have pp : Pers s.heap h' := fun a vs n _ q => (hs.2 a fun z => iter_ne hp (z ▸ q) rfl).trans q
    exact kk v _ (vr.mono pp) hi (fun b o n e => (hs.2 b fun z => n (z ▸ .head _)).trans e) pp.st
  stop := fun {h₀ L loc own s E R} hp rel ap ho kk => by
    obtain ⟨vs, n, hx, r⟩ := rel.ow.at_ _ ho.mem
    refine seq_stop hh hp hx rfl (by rw [List.getElem?_eq_none_iff, r.length]; exact Nat.le_refl _) fun h' hs => ?_
    have pp : Pers s.heap h' := fun a vs n _ q => hs a _ (iter_ne hp q) q
    exact kk _ (fun b o n e => hs b o (fun z => n (z ▸ .head _)) e) pp.st
  go := fun {k d v s E R} vr hp kk => by
    obtain ⟨o, ho, hc, hd⟩ := id hp
    exact go_plain ho hc (by decide) (kk s hp (fun _ _ _ e => e) (Pers.st .refl))
theorem it_acc {tg e : PySem.Expr} {Q : List Dv → (Own → Prop) → Loc → Own → Prop} (x : Ev Γ loc own e fun d loc own => ∃ a C c ds, d = .raw (.ref a) ∧ AccK Γ.K C ∧ HasO a (.acc C c ds) own ∧ Q ds (fun own => HasO a (.acc C c ds) own) loc own) : It Γ loc own tg e Q := by
  intro h₀ s g rel
  refine x.use g rel fun d loc own s1 v p1 r1 v1 ⟨a, C, c, ds, hd, H, ha, q⟩ => ?_
  subst hd
  cases v1
  obtain ⟨vs, n, hx, r⟩ := r1.ow.at_ _ ha.mem
  refine acc_iter H (g.kin.keeps r1.ow.keep) hx ?_
  have ex : Ext s1.heap (s1.heap.push { cls := .type "list_iterator", data := .fields #[.ref a, .int 0 0] }) := Ext.push _
  have hne : a ≠ s1.heap.objs.size := Nat.ne_of_lt (Heap.lt_size hx)
  exact ⟨⟨inferInstance⟩, _, ds, _, _, _, loc, own, .refl, p1.trans (Ext.pers ex).st, r1.ext ex, apart_new r1, src_acc Γ.hh hne, ⟨_, Heap.get?_push_size _ rfl, rfl, rfl⟩, fun hp rr => wpAny_pyIter_listiter hp rr, ha, q⟩
end
end Mine

end
section
open PySem PySem.W PySem.Builtin PySem.Builtin.ObjectAttr
open PyProof.Rows hiding wpAt wpAt_bind
set_option linter.unusedSectionVars false
set_option maxRecDepth 100000
set_option maxHeartbeats 1000000
set_option linter.unusedVariables false
namespace Mine
variable [aI : Membership Nat Unit]
noncomputable def plainVal : PySem.Expr → Bool
  | .ListComp .. => false
  | .SetComp .. => false
  | .DictComp .. => false
  | _ => true
theorem swaps_plain {e : PySem.Expr} {t : Option PySem.Expr} {line : Nat} {env : Env} (h : plainVal e = true) : swapsWith e t line env = pure false := by
  cases e <;> first | rfl | cases h
noncomputable def ifThen : List Stmt → List Stmt
  | .If _ a _ _ :: _ => a
  | _ => []
theorem Pk.head {a b r : Own} (is : List Nat) (hi : is.Nodup) (hb : ∀ i ∈ is, i < b.length) (e : pickO is b = a) : Pk (a ++ r) (b ++ r) := by
  refine ⟨is ++ (List.range r.length).map (· + b.length), ?_, ?_⟩
  · rw [List.nodup_append]
    refine ⟨hi, ?_, ?_⟩
    · rw [List.nodup_iff_pairwise_ne]
      rw [List.pairwise_map]
      exact List.nodup_range.imp fun h z => h (Nat.add_right_cancel z)
    · intro x hx y hy z
      obtain ⟨q, _, rfl⟩ := List.mem_map.mp hy
      have := hb x hx
      omega
  · unfold pickO at e ⊢
    rw [List.filterMap_append]
    congr 1
    · rw [← e]
      refine fm_congr fun i hx => ?_
      rw [List.getElem?_append_left (hb i hx)]
    · rw [List.filterMap_map]
      have : ∀ r : Own, (List.range r.length).filterMap (fun i => r[i]?) = r := fun r => by
        induction r with
        | nil => rfl
        | cons a r ih =>
          rw [List.length_cons, List.range_succ_eq_map, List.filterMap_cons, List.filterMap_map]
          show a :: _ = _
          congr 1
      refine Eq.trans (fm_congr fun i hx => ?_) (this r)
      show (b ++ r)[i + b.length]? = r[i]?
      rw [List.getElem?_append_right (Nat.le_add_left _ _), Nat.add_sub_cancel]
end Mine

end
section
open PySem PySem.W PySem.Builtin PySem.Builtin.ObjectAttr
open PyProof.Rows hiding wpAt wpAt_bind
open PySem.SeqAt
set_option linter.unusedSectionVars false
set_option maxRecDepth 100000
set_option maxHeartbeats 1000000
set_option linter.unusedVariables false
namespace Mine
variable [aI : Membership Nat Unit]
section
variable {Γ : Fm} {loc : Loc} {own own' : Own} {Q : QV} {QQ : QF}
theorem raw_inv {h : Heap} {v u : Value} (x : VR h v (.raw u)) : v = u := by cases x; rfl
end
end Mine

end
section
open PySem PySem.W PySem.Builtin PySem.Builtin.ObjectAttr
open PyProof.Rows hiding wpAt wpAt_bind
set_option linter.unusedSectionVars false
set_option maxRecDepth 100000
set_option maxHeartbeats 1000000
set_option linter.unusedVariables false
namespace Mine
variable [aI : Membership Nat Unit]
section
variable {Γ : Fm} {loc : Loc} {own own' : Own} {Q : QV} {QQ : QF}
end
theorem pick_int {l : List Int} {k : Int} (h0 : 0 ≤ k) (h1 : k < l.length) : ∃ i, l[k.toNat]? = some i ∧ (l.map Dv.int)[k.toNat]? = some (.int i) := by
  have h : k.toNat < l.length := by omega
  exact ⟨l[k.toNat], List.getElem?_eq_getElem h, by rw [List.getElem?_map, List.getElem?_eq_getElem h]; rfl⟩
end Mine

end
section
open PySem PySem.W PySem.Builtin PySem.Builtin.ObjectAttr
open PyProof.Rows hiding wpAt wpAt_bind
set_option linter.unusedSectionVars false
set_option maxRecDepth 100000
set_option maxHeartbeats 1000000
set_option linter.unusedVariables false
namespace Mine
variable [aI : Membership Nat Unit]
section
variable {Γ : Fm} {loc : Loc} {own own' : Own} {Q : QV} {QQ : QF}
theorem ex_returnN {pos : Pos} (q : QQ (.ret .none) loc own) : Ex Γ loc own (.Return none pos) QQ := by
  intro h₀ s g rel
  exact wpAny_Return_none ⟨_, _, _, Pers.refl.st, rel, .ret .none, q⟩
end
end Mine

end
section
open PySem PySem.W PySem.Builtin PySem.Builtin.ObjectAttr
open PyProof.Rows hiding wpAt wpAt_bind
set_option linter.unusedSectionVars false
set_option maxRecDepth 100000
set_option maxHeartbeats 1000000
set_option linter.unusedVariables false
namespace Mine
variable [aI : Membership Nat Unit]
structure InsK (K : Frag) (C : Addr) (cd : ClassData) : Prop where
  st : StoreK K C cd
  ga : findIn K (.ref C) "__getattribute__" = some (some (.builtin "object.__getattribute__"))
  gt : findIn K (.ref C) "__getattr__" = some none
theorem canon_oga : (Manifest.canonical "object.__getattribute__" != "object.__getattribute__") = false := by decide +kernel
section
variable {prog : Program} {w : World} {A : Around} {E : Value → Shared → Prop} {K : Frag} {C d a : Addr} {cd : ClassData}
theorem getattr_inst {s : Shared} {name : Str} {e : Dv} {l : List (Str × Dv)} {R : Value → Shared → Prop} {expr : Bool} (H : InsK K C cd) (X : K.In s.heap) (hx : s.heap.get? a = some (instObj C d)) (hd : OR s.heap d (.idict l))
    (ht : findIn K (.ref C) name = some none) (hl : l.lookup name = some e)
    (k : ∀ v, handedIn v = true → VR s.heap v e → R v { s with toks := s.toks + 1 }) (hr : ∀ v, VR s.heap v e → handedIn v = true) : wpAny (model prog w) A (getAttr (.ref a) name expr) R E s := by
  obtain ⟨es, m, D, en⟩ := hd
  obtain ⟨v, hv, vr⟩ := lookIn_ents en name hl (.type "dict") m
  have I : InstAt s.heap a (instObj C d) C (some { cls := .type "dict", data := .dict es.toArray m }) := ⟨hx, rfl, rfl, D⟩
  have hf : findObj K C (some { cls := .type "dict", data := .dict es.toArray m }) name = some (.value v) := by
    unfold findObj
    rw [H.st.cls, Option.bind_some, ht, Option.bind_some]
    simp only [Option.bind_some]
    unfold W.ownOf
    rw [H.st.dict]
    simp only [if_true, hv, Option.bind_some]
  exact get_value X I H.ga hf (hr _ vr) (k v (hr _ vr) vr)
end
section
variable {Γ : Fm} {loc : Loc} {own own' : Own} {Q : QV} {QQ : QF}
inductive AttrOfI (Γ : Fm) (name : Str) (e : Dv) (R : Prop) (v : Dv) (own : Own) : Prop
  | mk (cd : ClassData) (a C d : Addr) (l : List (Str × Dv)) : v = .raw (.ref a) → InsK Γ.K C cd → HasO a (.inst C d) own → HasO d (.idict l) own → findIn Γ.K (.ref C) name = some none → l.lookup name = some e → plainDv e = true → R → AttrOfI Γ name e R v own
inductive AttrToI (Γ : Fm) (name : Str) (e : Dv) (R : Own → Prop) (v : Dv) (own : Own) : Prop
  | mk (cd : ClassData) (a C d : Addr) (l l' : List (Str × Dv)) (own' : Own) : v = .raw (.ref a) → StoreK Γ.K C cd → HasO a (.inst C d) own → findIn Γ.K (.ref C) name = some none → SetL name e l l' → l.length ≤ 1000 → Upd d (.idict l) (.idict l') own own' → R own' → AttrToI Γ name e R v own
theorem ev_attrI {o : PySem.Expr} {name : Str} {pos : Pos} (hb : attributeBase o name Γ.env (eval o Γ.env) = eval o Γ.env)
    (x : Ev Γ loc own o fun v loc own => ∃ e, AttrOfI Γ name e (Q e loc own) v own) : Ev Γ loc own (.Attribute o name pos) Q := by
  intro h₀ s g rel
  rw [arm_eval_Attribute, hb]
  refine wpAny_bind (x.use g rel fun v loc own s1 vv p1 r1 v1 ⟨e, cd, a, C, d, l, hv, H, ha, hd, hf, hl, hp, q⟩ => ?_)
  subst hv
  cases v1
  refine wpAny_bind (wpAny_standAt (wpAny_bind (wpAny_holding (getattr_inst H (g.kin.keeps r1.ow.keep) (r1.ow.at_ _ ha.mem) (r1.ow.at_ _ hd.mem) hf hl (fun v hv vr => ?_) fun v vr => handed_plain hp vr))))
  exact wpAny_bind (wpAny_letTemporaryGo (wpAny_pure ⟨_, _, _, p1.trans (Pers.st .refl), r1, vr, q⟩))
theorem as_attrI {o : PySem.Expr} {name : Str} {pos : Pos} {e : Dv} {Q : Loc → Own → Prop}
    (x : Ev Γ loc own o fun v loc own => AttrToI Γ name e (Q loc) v own) : As Γ loc own (.Attribute o name pos) e Q := by
  intro h₀ s v g rel vr
  rw [arm_assign_Attribute]
  refine wpAny_bind (wpAny_holding (x.use g rel fun ov loc own s1 vo p1 r1 v1 ⟨cd, a, C, d, l, l', own', e1, S, ha, hf, sl, hl, up, q⟩ => ?_))
  subst e1
  cases v1
  refine wpAny_bind (wpAny_standAt (wpAny_bind (wpAny_holding ?_)))
  have ho : s1.heap.get? a = some { cls := .ref C, dict := some d, data := .plain } := r1.ow.at_ _ ha.mem
  have hd := r1.ow.at_ _ up.mem
  have had : a ≠ d := by
    rintro rfl
    obtain ⟨es, k, z, _⟩ := hd
    rw [ho] at z; simp at z
  refine setattr_ S (g.kin.keeps r1.ow.keep) ho rfl (by simp) rfl had hd hf sl hl (vr.mono p1.p) fun s2 ch on ho2 hg2 => ?_
  exact wpAny_release ⟨_, _, p1.trans (ch.pers.st ho2 hg2), r1.upd up ch on, q⟩
theorem meth_fnI {a C d f : Addr} {l : List (Str × Dv)} {name : Str} {pos : Pos} {es : List PySem.Expr} {cd : ClassData} (H : InsK Γ.K C cd) (ha : HasO a (.inst C d) own) (hd : HasO d (.idict l) own) (hn : l.lookup name = none)
    (hf : findIn Γ.K (.ref C) name = some (some (.ref f))) (ht : typeIn Γ.K (.ref f) = some (.type "function")) (hk : keepIn Γ.K (.ref f) = true) (hp : plainArgs es = true)
    (x : EvL Γ loc own pos es fun args loc own => OpN Γ loc own (.raw (.ref a) :: args) (fun vs => call (.ref f) vs) Q) : Meth Γ loc own (.raw (.ref a)) name pos es Q := by
  intro h₀ s v pl g rel vr
  cases vr
  have ho : s.heap.get? a = some { cls := .ref C, dict := some d, data := .plain } := rel.ow.at_ _ ha.mem
  refine getMethod_inst (g.kin.keeps rel.ow.keep) ho rfl rfl (rel.ow.at_ _ hd.mem) hn H.ga canon_oga H.gt hf ht rfl ?_
  exact callWith_go (first := [.ref a]) (fd := [.raw (.ref a)]) (.inl hk) hp g rel (.cons (.raw _) .nil) Pers.refl.st x
end
theorem callT_makeI {prog : Program} {w : World} {K : Frag} {A : Around} {own : Own} {C fI : Addr} {ds : List Dv} {Q : Dv → Own → Prop} (hm : makesIn K C = true) (hi : findIn K (.ref C) "__init__" = some (some (.ref fI)))
    (hf : typeIn K (.ref fI) = some (.type "function"))
    (x : ∀ A' x dx, A'.handled = A.handled → A'.depth = A.depth + 1 → A'.units = A.units + 1 → CallT prog w K A' ((x, .inst C dx) :: (dx, .idict []) :: own) (.ref fI) (.raw (.ref x) :: ds) fun d own' => d = .none ∧ Q (.raw (.ref x)) own') : CallT prog w K A own (.ref C) ds Q := by
  intro h₀ s vs g ok vr
  obtain ⟨h, gs, dr, t, os⟩ := s
  have X : K.In h := g.kin.keeps ok.keep
  have ex1 : Ext h (h.push emptyDict) := Ext.push _
  have ex2 : Ext (h.push emptyDict) ((h.push emptyDict).push (instObj C h.objs.size)) := Ext.push _
  have ok1 : OwnOk h₀ ((h.objs.size, .idict []) :: own) (h.push emptyDict) := ok.more ex1 (get_size_none _) ⟨[], 0, Heap.get?_push_size _ rfl, .nil⟩
  have ok2 : OwnOk h₀ (((h.push emptyDict).objs.size, .inst C h.objs.size) :: (h.objs.size, .idict []) :: own) ((h.push emptyDict).push (instObj C h.objs.size)) := ok1.more ex2 (get_size_none _) (Heap.get?_push_size _ rfl)
  rw [Heap.size_push] at ok2
  have hp : Pers h ((h.push emptyDict).push (instObj C h.objs.size)) := Ext.pers (ex1.trans ex2)
  refine make_core (makes_of X hm) (looks_findIn X hi) (fun self => bind_fn X self hf) (.inl rfl) ?_
  refine codeAny_mono (x (A.under (.builtin "type.__call__" ⟨.ref C :: vs, []⟩)) (h.objs.size + 1) h.objs.size rfl (by show A.depth + _ = _; rw [tc_weight]) (by show A.units + _ = _; rw [tc_units]) h₀ ⟨(h.push emptyDict).push (instObj C h.objs.size), gs, dr, t, os⟩ (.ref (h.objs.size + 1) :: vs) g ok2 (.cons (.raw _) (vr.mono hp))) fun r s' ⟨v, d, own', e, p, o', v', hd, q⟩ => ?_
  subst e hd
  cases v'
  exact ⟨rfl, _, _, own', rfl, Stays.trans (b := ⟨(h.push emptyDict).push (instObj C h.objs.size), gs, dr, t, os⟩) hp.st p, o', .raw _, q⟩
end Mine

end
section
open PySem PySem.W PySem.Builtin PySem.Builtin.ObjectAttr
open PySem.SeqAt
open PyProof.Rows hiding wpAt wpAt_bind
set_option linter.unusedSectionVars false
set_option maxRecDepth 100000
set_option maxHeartbeats 1000000
set_option linter.unusedVariables false
namespace Mine
variable [aI : Membership Nat Unit]
section
variable {Γ : Fm} {loc : Loc} {own own' : Own} {Q : QV} {QQ : QF}
theorem ex_break {pos : Pos} (q : QQ .brk loc own) : Ex Γ loc own (.Break pos) QQ := fun h₀ s g rel => wpAny_Break ⟨_, _, _, Pers.refl.st, rel, .brk, q⟩
theorem ex_continue {pos : Pos} (q : QQ .cont loc own) : Ex Γ loc own (.Continue pos) QQ := fun h₀ s g rel => wpAny_Continue ⟨_, _, _, Pers.refl.st, rel, .cont, q⟩
noncomputable def signsD (x : Str) : List Dv := x.cps.toList.map fun c => .str ⟨#[c]⟩
theorem signsD_get {x : Str} {k : Nat} {d : Dv} (h : (signsD x)[k]? = some d) : ∃ c, x.cps[k]? = some c ∧ d = .str ⟨#[c]⟩ := by
  unfold signsD at h
  rw [List.getElem?_map] at h
  cases q : x.cps.toList[k]? with
  | none => rw [q] at h; cases h
  | some c => rw [q] at h; cases h; exact ⟨c, by rw [← Array.getElem?_toList]; exact q, rfl⟩
theorem signsD_len (x : Str) : (signsD x).length = x.cps.size := by unfold signsD; simp
noncomputable def StrIt (h : Heap) (it : Addr) (x : Str) (t : Tok) (k : Nat) : Prop := h.IsStrIter it "str_ascii_iterator" x t k ∨ h.IsStrIter it "str_iterator" x t k
theorem StrIt.obj {h : Heap} {it : Addr} {x : Str} {t : Tok} {k : Nat} (s : StrIt h it x t k) : ∃ o ty, h.get? it = some o ∧ o.cls = .type ty ∧ ty ≠ "tuple" ∧ (["enumerate", "zip", "dict_itemiterator", "dict_reverseitemiterator", "odict_iterator", "itertools.zip_longest", "itertools.pairwise"].contains ty) = false := by
  rcases s with ⟨o, a, b, c⟩ | ⟨o, a, b, c⟩
  · exact ⟨o, _, a, b, by decide, by decide⟩
  · exact ⟨o, _, a, b, by decide, by decide⟩
theorem StrIt.ne {h : Heap} {it a : Addr} {x : Str} {t : Tok} {k : Nat} {vs : List Value} {n : Nat} (s : StrIt h it x t k) (q : h.get? a = some (tupObj vs n)) : a ≠ it := by
  rintro rfl
  obtain ⟨o, ty, ho, hc, hn, _⟩ := s.obj
  rw [q] at ho; cases ho
  simp only [tupObj, Value.type.injEq] at hc
  exact hn hc.symm
theorem src_str (hh : Γ.A.handled = none) {tg : PySem.Expr} {it : Addr} {x : Str} {t : Tok} : Src Γ.prog Γ.w Γ.A tg (.ref it) [it] (signsD x) (fun _ => True) (fun k h => StrIt h it x t k) (fun k _ h => StrIt h it x t k) where
  mono := fun h => h
  keep := fun {k h h'} p q => by
    rcases p with ⟨o, a, b⟩ | ⟨o, a, b⟩
    · exact .inl ⟨o, (q it (.head _)).trans a, b⟩
    · exact .inr ⟨o, (q it (.head _)).trans a, b⟩
  there := fun {k h} p c hc => by
    rcases List.mem_cons.mp hc with rfl | hc
    · obtain ⟨o, _, ho, _⟩ := p.obj; exact ⟨o, ho⟩
    · cases hc
  next := fun {k d h₀ L loc own s E R} hd hp rel ap ho _ kk => by
    obtain ⟨c, hc, rfl⟩ := signsD_get hd
    have pp : ∀ h', Heap.SameBut it s.heap h' → Pers s.heap h' := fun h' hs a vs n _ q => (hs.2 a (hp.ne q)).trans q
    rcases hp with hp | hp
    · exact wpAny_pyNext_ascii_item hp hc fun h' hi hs => kk _ _ (.str _ _) (.inl hi) (fun b o n e => (hs.2 b fun z => n (z ▸ .head _)).trans e) ((pp h' hs).st)
    · exact wpAny_pyNext_wide_item hp hc fun h' hi hs => kk _ _ (.str _ _) (.inr hi) (fun b o n e => (hs.2 b fun z => n (z ▸ .head _)).trans e) ((pp h' hs).st)
  stop := fun {h₀ L loc own s E R} hp rel ap ho kk => by
    have hx : x.cps[(signsD x).length]? = none := by rw [signsD_len]; simp
    have pp : ∀ h', Heap.ExtBut it s.heap h' → Pers s.heap h' := fun h' hs a vs n _ q => hs a _ (hp.ne q) q
    rcases id hp with hp' | hp'
    · exact wpAny_pyNext_ascii_end hh hp' hx fun h' hs => kk _ (fun b o n e => hs b o (fun z => n (z ▸ .head _)) e) (pp h' hs).st
    · exact wpAny_pyNext_wide_end hh hp' hx fun h' hs => kk _ (fun b o n e => hs b o (fun z => n (z ▸ .head _)) e) (pp h' hs).st
  go := fun {k d v s E R} vr hp kk => by
    obtain ⟨o, ty, ho, hc, _, hT⟩ := hp.obj
    exact go_plain ho hc hT (kk s hp (fun _ _ _ e => e) (Pers.st .refl))
theorem it_str {tg e : PySem.Expr} {Q : List Dv → (Own → Prop) → Loc → Own → Prop} (x : Ev Γ loc own e fun d loc own => ∃ y, d = .str y ∧ Q (signsD y) (fun _ => True) loc own) : It Γ loc own tg e Q := by
  intro h₀ s g rel
  refine x.use g rel fun d loc own s1 v p1 r1 v1 ⟨y, hd, q⟩ => ?_
  subst hd
  cases v1
  rename_i t
  have fin : ∀ o, StrIt (s1.heap.push o) s1.heap.objs.size y t 0 → ItOut Γ h₀ s tg Q (.ref s1.heap.objs.size) { s1 with heap := s1.heap.push o } := fun o st => by
    have ex : Ext s1.heap (s1.heap.push o) := Ext.push _
    exact ⟨⟨inferInstance⟩, _, signsD y, _, _, _, loc, own, .refl, p1.trans (Ext.pers ex).st, r1.ext ex, apart_new r1, src_str Γ.hh, st, fun hp rr => by
      rcases hp with hp | hp
      · exact wpAny_pyIter_striter_ascii hp rr
      · exact wpAny_pyIter_striter_wide hp rr, trivial, q⟩
  cases ha : y.cps.all (· < 128)
  · exact wpAny_pyIter_wide ha (fin _ (.inr ⟨_, Heap.get?_push_size _ rfl, rfl, rfl⟩))
  · exact wpAny_pyIter_ascii ha (fin _ (.inl ⟨_, Heap.get?_push_size _ rfl, rfl, rfl⟩))
end
section
variable {prog : Program} {w : World} {A : Around} {E : Value → Shared → Prop} {K : Frag} {C d a : Addr} {s : Shared}
theorem acc_getitem {vs : List Value} {n : Nat} {k : Int} {t : Tok} {v : Value} {R : Value → Shared → Prop} (H : AccK K C) (X : K.In s.heap) (hx : s.heap.get? a = some (accObj C d vs n)) (h0 : 0 ≤ k) (hfit : k < 2 ^ 63) (hv : vs[k.toNat]? = some v)
    (q : R v s) : wpAny (model prog w) A (getItem (.ref a) (.int k t)) R E s := by
  have T : Looks (model prog w) s.heap (typeOf (.ref a)) (.ref C) := (Looks.ld hx).andThen .now
  have hsub : Looks (model prog w) s.heap (isInstance (.ref a) (.type "list")) true := T.andThen (looks_mroIn X H.sub)
  unfold getItem callSpecial?
  refine wpAny_holding (wpAny_bind (seqKey_acc H X hx ?_))
  refine wpAny_bind (wpAny_bind (wpAny_bind (T.here ((looks_findIn X H.gi).here ?_))))
  refine wpAny_holding (wpAny_bind (wpAny_of_eq (slot_list_getitem.bind _) ?_))
  refine wpAny_bind (call_bi gi_kind.symm gi_split slot_list_getitem.plain entry_list_getitem (args_list_getitem _ _) hsub ?_)
  show wpAny _ _ (Builtin.List.listSubscript? (.int k t) >>= _) _ _ s
  refine wpAny_bind (wpAny_listSubscript_int (fitsIndex_of h0 hfit) ?_)
  clear hfit
  obtain ⟨j, rfl⟩ := Int.eq_ofNat_of_zero_le h0
  have hx' : vs.toArray[j]? = some v := by rw [List.getElem?_toArray]; exact hv
  show wpAny _ _ ((seqItemAt a j >>= fun r => pure (r.map (j, ·))) >>= _) _ _ s
  refine wpAny_bind (wpAny_bind (wpAny_seqItemAt hx rfl (wpAny_pure ?_)))
  rw [hx']
  first
    | exact wpAny_bind (wpAny_pure (wpAny_pure ⟨v, rfl, wpAny_pure (wpAny_pure q)⟩))
    | exact wpAny_pure ⟨v, rfl, wpAny_pure (wpAny_pure q)⟩
theorem setItem_list_neg {l : Addr} {items : Array Value} {k : Int} {t : Tok} {v : Value} {Q : Unit → Shared → Prop} (hl : s.heap.IsList l items) (h0 : k < 0) (h1 : -(items.size : Int) ≤ k) (hfit : -(2 ^ 63) ≤ k)
    (hQ : Q () { s with heap := s.heap.update l (Obj.mapSeq (·.setIfInBounds (k + items.size).toNat v)) }) :
    wpAny (model prog w) A (setItem (.ref l) (.int k t) v) Q E s := by
  obtain ⟨o, ho, hc, ne, hd⟩ := id hl
  unfold setItem
  try with_reducible refine wpAny_holding ?_
  first | refine wpAny_bind (wpAny_pure ?_) | skip
  refine wpAny_bind (wpAny_sequenceKey hl.typeIs (by decide) ?_)
  refine wpAny_bind (wpAny_callSpecial?_slot (name := Str.ofString "__setitem__") hl.typeIs slot_list_setitem
    (wpAny_call_entry slot_list_setitem hl.typeIs entry_list_setitem ?_ (args_list_setitem _ _ _)))
  show wpAny _ _ (Builtin.List.listSubscript? (.int k t) >>= _) _ _ s
  refine wpAny_bind (wpAny_listSubscript_int (fitsIndex_neg h0 hfit) ?_)
  clear hfit
  have hidx := seqIndex_neg h0 h1
  obtain ⟨j, rfl⟩ : ∃ j : Nat, k = Int.negSucc j := by
    cases k with
    | ofNat n => exact absurd h0 (Int.not_lt.mpr (Int.natCast_nonneg n))
    | negSucc n => exact ⟨n, rfl⟩
  have hj : (Int.negSucc j + items.size).toNat < items.size := by omega
  have hx' : items[(Int.negSucc j + items.size).toNat]? = some items[(Int.negSucc j + items.size).toNat] := Array.getElem?_eq_getElem hj
  show wpAny _ _ ((Builtin.List.listItems (.ref l) >>= fun xs => pure ((seqIndex? (Int.negSucc j) xs.size).bind fun i => xs[i]?.map (i, ·))) >>= _) _ _ s
  refine wpAny_bind (wpAny_bind ?_)
  show wpAny _ _ (seqItems? (.ref l) >>= _) _ _ s
  refine wpAny_bind (wpAny_seqItems ho hd (wpAny_pure (wpAny_pure ?_)))
  rw [hidx]
  simp only [Option.bind_some, hx', Option.map_some]
  show wpAny _ _ (setSeqItemAt l _ v >>= _) _ _ s
  refine wpAny_bind (wpAny_setSeqItemAt ho hd ?_)
  first
    | exact wpAny_bind (wpAny_pure (wpAny_pure ⟨.none, rfl, wpAny_pure hQ⟩))
    | exact wpAny_pure ⟨.none, rfl, wpAny_pure hQ⟩
theorem setItem_list_pos {l : Addr} {items : Array Value} {k : Int} {t : Tok} {v : Value} {Q : Unit → Shared → Prop} (hl : s.heap.IsList l items) (h0 : 0 ≤ k) (hfit : k < 2 ^ 63) (hn : k < items.size)
    (hQ : Q () { s with heap := s.heap.update l (Obj.mapSeq (·.setIfInBounds k.toNat v)) }) :
    wpAny (model prog w) A (setItem (.ref l) (.int k t) v) Q E s := by
  obtain ⟨o, ho, hc, ne, hd⟩ := id hl
  unfold setItem
  try with_reducible refine wpAny_holding ?_
  first | refine wpAny_bind (wpAny_pure ?_) | skip
  refine wpAny_bind (wpAny_sequenceKey hl.typeIs (by decide) ?_)
  refine wpAny_bind (wpAny_callSpecial?_slot (name := Str.ofString "__setitem__") hl.typeIs slot_list_setitem
    (wpAny_call_entry slot_list_setitem hl.typeIs entry_list_setitem ?_ (args_list_setitem _ _ _)))
  show wpAny _ _ (Builtin.List.listSubscript? (.int k t) >>= _) _ _ s
  refine wpAny_bind (wpAny_listSubscript_int (fitsIndex_of h0 hfit) ?_)
  clear hfit
  obtain ⟨j, rfl⟩ := Int.eq_ofNat_of_zero_le h0
  have hj : j < items.size := by omega
  have hx' : items[j]? = some items[j] := Array.getElem?_eq_getElem hj
  show wpAny _ _ ((seqItemAt l j >>= fun r => pure (r.map (j, ·))) >>= _) _ _ s
  refine wpAny_bind (wpAny_bind (wpAny_seqItemAt ho hd (wpAny_pure ?_)))
  rw [hx']
  show wpAny _ _ (setSeqItemAt l j v >>= _) _ _ s
  refine wpAny_bind (wpAny_setSeqItemAt ho hd ?_)
  first
    | exact wpAny_bind (wpAny_pure (wpAny_pure ⟨.none, rfl, wpAny_pure hQ⟩))
    | exact wpAny_pure ⟨.none, rfl, wpAny_pure hQ⟩
theorem VRs.set {h : Heap} {v : Value} {d : Dv} (vr : VR h v d) : ∀ {vs : List Value} {ds : List Dv} (j : Nat), VRs h vs ds → VRs h (vs.set j v) (ds.set j d)
  | _, _, _, .nil => .nil
  | _, _, 0, .cons a b => .cons vr b
  | _, _, j + 1, .cons a b => .cons a (VRs.set vr j b)
end
section
variable {Γ : Fm} {loc : Loc} {own own' : Own} {Q : QV} {QQ : QF}
theorem sub_acc {value slice : PySem.Expr} {a C d : Addr} {ds : List Dv} {k : Int} {e : Dv} (H : AccK Γ.K C) (ha : HasO a (.acc C d ds) own) (hs : notSlice slice = true) (h0 : 0 ≤ k) (hk : ds[k.toNat]? = some e) (hl : ds.length ≤ 1000000) (q : Q e loc own) :
    Sub Γ loc own value slice (.raw (.ref a)) (.int k) Q := by
  intro h₀ s v w g rel x y
  cases x; cases y
  obtain ⟨vs, n, ho, r⟩ := rel.ow.at_ _ ha.mem
  obtain ⟨v, hv, vr⟩ := r.get' hk
  have hlt : k.toNat < ds.length := by obtain ⟨z, _⟩ := List.getElem?_eq_some_iff.mp hk; exact z
  have X := g.kin.keeps rel.ow.keep
  have T : Looks (model Γ.prog Γ.w) s.heap (typeOf (.ref a)) (.ref C) := (Looks.ld ho).andThen .now
  unfold subscriptTail getitemInPython
  refine wpAny_bind (wpAny_bind (wpAny_bind (T.here ((looks_findIn X H.gi).here (wpAny_pure ?_)))))
  rw [subscripted_plain hs]
  refine wpAny_bind (wpAny_operating (acc_getitem H X ho h0 (by omega) hv ?_))
  exact wpAny_bind (wpAny_letTemporaryGo (wpAny_pure ⟨_, _, _, Stays.refl, rel, vr, q⟩))
theorem ex_aug_last {o i value : PySem.Expr} {tpos pos : Pos} 
    (x : Ev Γ loc own o fun v loc own => Ev Γ loc own i fun k loc own => ∃ a ys y, v = .raw (.ref a) ∧ k = .int (-1) ∧ HasO a (.list ((ys ++ [y]).map Dv.str)) own ∧ ys.length ≤ 100000 ∧
      Ev Γ loc own value fun d loc own => ∃ z own', d = .str z ∧ y.length + z.length ≤ 1000000 ∧ Upd a (.list ((ys ++ [y]).map Dv.str)) (.list ((ys ++ [y ++ z]).map Dv.str)) own own' ∧ QQ .next loc own')
    (hi : ∀ ov iv new, augStore i ov iv new = (do holding [new, ov, iv] (setItem ov iv new); release [new, ov, iv] []; pure .next) := by intros; rfl) : Ex Γ loc own (.AugAssign (.Subscript o i tpos) .Add value pos) QQ := by
  intro h₀ s g rel
  refine wpAny_AugAssign_SubscriptAny (x.use g rel fun ov _ _ s1 vo p1 r1 v1 q1 => q1.use g r1 fun iv loc own s2 vi p2 r2 v2 ⟨a, ys, y, e1, e2, ha, hl, q2⟩ => ?_) hi
  subst e1 e2
  cases v1; cases v2
  obtain ⟨vs, n, ho, r⟩ := r2.ow.at_ _ ha.mem
  have hln := r.length
  obtain ⟨u, hu, vu⟩ := r.get' (k := ys.length) (d := .str y) (by simp)
  simp at hln
  refine wpAny_getItem_list_neg ⟨_, ho, rfl, n, rfl⟩ (by decide) (by simp; omega) (by decide) (x := u) ?_ ?_
  · rw [List.size_toArray, List.getElem?_toArray, show ((-1 : Int) + (vs.length : Int)).toNat = ys.length by omega]; exact hu
  cases vu
  refine q2.use g r2 fun d loc own s3 vz p3 r3 v3 ⟨z, own', e3, hz, up, q⟩ => ?_
  subst e3
  cases v3
  refine SBL.iadd (fun t' tk _ => ?_) (by unfold PySem.sizeLine; omega)
  obtain ⟨vs', n', ho', r'⟩ := r3.ow.at_ _ up.mem
  have hln' := r'.length
  simp at hln'
  refine setItem_list_neg ⟨_, ho', rfl, n', rfl⟩ (by decide) (by simp; omega) (by decide) ?_
  rw [List.size_toArray, show ((-1 : Int) + (vs'.length : Int)).toNat = ys.length by omega]
  have hres := seq_upd (K := Γ.K) (ws := vs'.set ys.length (.str (y ++ z) t')) (f := fun xs => xs.setIfInBounds ys.length (.str (y ++ z) t')) r3 up .list ho' rfl (by intro _ _ z; simp at z) (by simp)
    (by
      have := VRs.set (VR.str (h := s3.heap) (y ++ z) t') ys.length r'
      rwa [show ((ys ++ [y]).map Dv.str).set ys.length (.str (y ++ z)) = (ys ++ [y ++ z]).map Dv.str by simp] at this) (fun h' ws k es e z ds' v => ⟨es, k, by rw [e, z], v⟩)
  exact ⟨_, _, _, (p1.trans p2).trans (p3.trans hres.1.st), hres.2, .next, q⟩
end
end Mine

end
section
open PySem PySem.W PySem.Builtin PySem.Builtin.ObjectAttr
open PySem.SeqAt
open PyProof.Rows hiding wpAt wpAt_bind
set_option linter.unusedSectionVars false
set_option maxRecDepth 100000
set_option maxHeartbeats 1000000
set_option linter.unusedVariables false
namespace Mine
variable [aI : Membership Nat Unit]
section
variable {prog : Program} {w : World} {A : Around} {E : Value → Shared → Prop} {R : Result → Shared → Prop} {I : Addr} {fp wr : List Addr} {n : Nat} {P : Nat → Value → Prop} {St : Nat → Heap → Prop}
end
section
variable {prog : Program} {w : World} {A : Around} {E : Value → Shared → Prop} {s : Shared}
end
section
variable {Γ : Fm} {loc : Loc} {own own' : Own} {Q : QV} {QQ : QF}
theorem rows_eqAt {α : Type} [DecidableEq α] {e : α → Dv} {n : Nat} (c : Cmp e n) {A : Around} {s : Shared} {xs ys : List α} {vs ws : List Value} {k k' : Nat} {x y : Addr} (hu : A.units + (n + 1) < cLine) (hx : s.heap.get? x = some (lstObj vs k)) (hy : s.heap.get? y = some (lstObj ws k')) (r : VRs s.heap vs (xs.map e)) (r' : VRs s.heap ws (ys.map e)) :
    EqAt A s (.ref x) (.ref y) (decide (xs = ys)) := by
  by_cases h : x = y
  · subst h
    rw [hx] at hy
    have hh : vs = ws := by simpa using congrArg (fun o : Option Obj => o.map fun o => match o.data with | .seq a _ => a.toList | _ => []) hy
    subst hh
    rw [c.rows_inj r r', decide_eq_true rfl]
    exact EqAt.same _
  · obtain ⟨ef, he, hq⟩ := c.rows_eq (A := A) (s := s) hu r r'
    by_cases hs : vs.toArray.size = ws.toArray.size
    · have z := RcAt.lists (A := A) (s := s) ⟨_, hx, rfl, _, rfl⟩ ⟨_, hy, rfl, _, rfl⟩ hs (by omega) he
      rw [← hq, ← hs, Nat.min_self]
      simpa using EqAt.of_refs h z
    · have z := RcAt.lists_lengths (A := A) (s := s) (l := x) (b := y) ⟨_, hx, rfl, _, rfl⟩ ⟨_, hy, rfl, _, rfl⟩ (by simpa using hs) (by omega)
      rw [← hq, show (vs.toArray.size == ws.toArray.size) = false by simpa using hs, Bool.and_false]
      exact EqAt.of_refs h z
noncomputable def RowsAt {α : Type} (e : α → Dv) (own : Own) (as : List Addr) (xss : List (List α)) : Prop := as.length = xss.length ∧ ∀ (i : Nat) (x : Addr) (xs : List α), as[i]? = some x → xss[i]? = some xs → HasO x (.list (xs.map e)) own
theorem op_eq_rows {α : Type} [DecidableEq α] {e : α → Dv} {n : Nat} (c : Cmp e n) {as bs : List Addr} {xss yss : List (List α)} {a b : Addr} (ha : HasO a (.list (as.map fun x => .raw (.ref x))) own) (hb : HasO b (.list (bs.map fun x => .raw (.ref x))) own) (hx : RowsAt e own as xss) (hy : RowsAt e own bs yss)
    (hu : Γ.U + (n + 2) < cLine) (q : Q (.bool (decide (xss = yss))) loc own) : Op2 Γ loc own (.raw (.ref a)) (.raw (.ref b)) (compareOp .Eq) Q := by
  intro h₀ s v u g rel x y
  cases x; cases y
  have hU := Γ.hU
  obtain ⟨vs, k, o, r⟩ := rel.ow.at_ _ ha.mem
  obtain ⟨vs', k', o', r'⟩ := rel.ow.at_ _ hb.mem
  have l1 := r.length
  have l2 := r'.length
  rw [List.length_map] at l1 l2
  obtain ⟨hx1, hx2⟩ := hx
  obtain ⟨hy1, hy2⟩ := hy
  have fin : Out h₀ Γ.env.locals s Q (.bool (decide (xss = yss))) s := ⟨_, _, _, Pers.refl.st, rel, .bool _, q⟩
  by_cases hs : vs.toArray.size = vs'.toArray.size
  · have hs' : as.length = bs.length := by simpa [l1, l2] using hs
    have ef : ∀ j (h1 : j < vs.toArray.size) (h2 : j < vs'.toArray.size), EqAt Γ.A.in1 s vs.toArray[j] vs'.toArray[j] (decide (xss[j]? = yss[j]?)) := fun j h1 h2 => by
      have j1 : j < as.length := by rw [← l1]; simpa using h1
      have j2 : j < bs.length := by rw [← l2]; simpa using h2
      obtain ⟨d, hd, vd⟩ := r.get (k := j) (v := vs[j]'(by omega)) (by simp)
      obtain ⟨d', hd', vd'⟩ := r'.get (k := j) (v := vs'[j]'(by omega)) (by simp)
      rw [List.getElem?_map, List.getElem?_eq_getElem j1] at hd
      rw [List.getElem?_map, List.getElem?_eq_getElem j2] at hd'
      cases hd; cases hd'
      have ax := hx2 j _ _ (List.getElem?_eq_getElem j1) (List.getElem?_eq_getElem (by omega))
      have ay := hy2 j _ _ (List.getElem?_eq_getElem j2) (List.getElem?_eq_getElem (by omega))
      obtain ⟨vx, kx, ox, rx⟩ := rel.ow.at_ _ ax.mem
      obtain ⟨vy, ky, oy, ry⟩ := rel.ow.at_ _ ay.mem
      have e1 : vs.toArray[j] = .ref as[j] := by
        have : vs[j]'(by omega) = .ref as[j] := raw_inv vd
        simpa using this
      have e2 : vs'.toArray[j] = .ref bs[j] := by
        have : vs'[j]'(by omega) = .ref bs[j] := raw_inv vd'
        simpa using this
      rw [e1, e2, List.getElem?_eq_getElem (show j < xss.length by omega), List.getElem?_eq_getElem (show j < yss.length by omega)]
      simp only [Option.some.injEq]
      exact rows_eqAt c (by simp only [Around.in1_units]; omega) ox oy rx ry
    have z := RcAt.lists (A := Γ.A) (s := s) ⟨_, o, rfl, _, rfl⟩ ⟨_, o', rfl, _, rfl⟩ hs (by omega) ef
    refine z _ _ _ _ ?_
    have : (List.range vs.toArray.size).all (fun j => decide (xss[j]? = yss[j]?)) = decide (xss = yss) := by
      rw [Bool.eq_iff_iff]
      simp only [List.all_eq_true, List.mem_range, decide_eq_true_eq]
      constructor
      · intro h
        apply List.ext_getElem?
        intro j
        by_cases hj : j < vs.toArray.size
        · exact h j hj
        · have : vs.length ≤ j := by simpa using hj
          rw [List.getElem?_eq_none (by omega), List.getElem?_eq_none (by omega)]
      · intro h j _; rw [h]
    rw [this]; exact fin
  · have z := RcAt.lists_lengths (A := Γ.A) (s := s) (l := a) (b := b) ⟨_, o, rfl, _, rfl⟩ ⟨_, o', rfl, _, rfl⟩ (by simpa using hs) (by omega)
    refine z _ _ _ _ ?_
    have hne : xss ≠ yss := fun h => by
      rw [h] at hx1
      simp [l1, l2] at hs
      omega
    rw [decide_eq_false hne] at fin
    exact fin
end
end Mine

end
section
open PySem PySem.W PySem.Builtin PySem.Builtin.ObjectAttr
open PyProof.Rows hiding wpAt wpAt_bind
set_option linter.unusedSectionVars false
set_option maxRecDepth 100000
set_option maxHeartbeats 1000000
set_option linter.unusedVariables false
namespace Mine
variable [aI : Membership Nat Unit]
noncomputable def oneSp : Str × Str := ((" " : Str), ("" : Str))
noncomputable def nilP : Str × Str := (("" : Str), ("" : Str))
theorem iteY {c : Prop} [Decidable c] {a b : Prop} (h : c) (x : a) : if c then a else b := by rw [if_pos h]; exact x
theorem iteN {c : Prop} [Decidable c] {a b : Prop} (h : ¬c) (x : b) : if c then a else b := by rw [if_neg h]; exact x
structure FS where
  rows : List Str
  n : Int
  ps : List (Str × Str)
noncomputable def lastP (ps : List (Str × Str)) : Str × Str := ps.getLast?.getD nilP
noncomputable def midP (ps : List (Str × Str)) : List (Str × Str) := if lastP ps = oneSp then ps.dropLast else ps.dropLast ++ [lastP ps]
noncomputable def nlRows (rows : List Str) (n : Int) (ms : List (Str × Str)) : List Str :=
  if 0 < n + signs ms then (if n = 0 ∧ whiteAll (txt ms) = true ∧ rows ≠ [] then rows.dropLast ++ [rows.getLast?.getD "" ++ txt ms] else rows ++ [txt ms]) else rows
noncomputable def FS.nl (s : FS) : FS := ⟨nlRows s.rows s.n (midP s.ps), 0, []⟩
structure FS.Ok (s : FS) : Prop where
  n0 : 0 ≤ s.n
  n1 : s.n ≤ 1000
  fits : Fits s.ps
  len : s.ps.length ≤ 100
  rl : s.rows.length ≤ 1000
  sz : (cat s.rows).length + (txt s.ps).length ≤ 400000
theorem cat_mem {l : List Str} {x : Str} (h : x ∈ l) : x.length ≤ (cat l).length := by
  induction l with
  | nil => cases h
  | cons y l ih =>
    show _ ≤ (y ++ cat l).length
    rw [len_append]
    rcases List.mem_cons.mp h with rfl | h
    · omega
    · have := ih h; omega
theorem last_of {ps : List (Str × Str)} (h : ps ≠ []) : ps.dropLast ++ [lastP ps] = ps := by
  unfold lastP
  rw [List.getLast?_eq_some_getLast h]
  exact List.dropLast_concat_getLast h
theorem lastP_nil : lastP [] = nilP := rfl
theorem mid_txt (ps : List (Str × Str)) : txt (midP ps) = txt ps ∨ (lastP ps = oneSp ∧ txt (midP ps) ++ " " = txt ps) := by
  unfold midP
  by_cases hn : ps = []
  · subst hn
    refine .inl ?_
    rw [lastP_nil, if_neg (by decide +kernel)]
    kernel_rfl
  · split
    · rename_i h
      refine .inr ⟨h, ?_⟩
      have := last_of hn
      rw [← this, txt_append, txt_one, h, List.dropLast_concat]
      show _ = txt ps.dropLast ++ ((" " : Str) ++ ("" : Str))
      rw [show ((" " : Str) ++ ("" : Str)) = (" " : Str) by kernel_rfl]
    · rw [last_of hn]; exact .inl rfl
theorem mid_len {ps : List (Str × Str)} : (midP ps).length ≤ ps.length + 1 := by
  unfold midP; split <;> simp <;> omega
theorem mid_fits {ps : List (Str × Str)} (h : Fits ps) : Fits (midP ps) := by
  intro p hp
  by_cases hn : ps = []
  · subst hn
    have : p = nilP := by
      unfold midP at hp
      rw [lastP_nil, if_neg (by decide +kernel)] at hp
      simpa using hp
    subst this
    exact ⟨by decide +kernel, by decide +kernel⟩
  · have : p ∈ ps := by
      unfold midP at hp
      split at hp
      · exact List.dropLast_subset _ hp
      · rw [last_of hn] at hp; exact hp
    exact h p this
theorem mid_sz (ps : List (Str × Str)) : (txt (midP ps)).length ≤ (txt ps).length := by
  rcases mid_txt ps with h | ⟨_, h⟩
  · rw [h]; exact Nat.le_refl _
  · rw [← h, len_append]; exact Nat.le_add_right _ _
theorem FS.Ok.row {s : FS} (h : s.Ok) : ∀ r ∈ s.rows, r.length ≤ 400000 := fun r hr => by have := cat_mem hr; have := h.sz; omega
theorem FS.Ok.mid {s : FS} (h : s.Ok) : (txt (midP s.ps)).length ≤ 400000 := by have := mid_sz s.ps; have := h.sz; omega
noncomputable def hit (ps : List (Str × Str)) (c i : Nat) : Bool := (Unicode.isSpace c && decide (((ps.getD i nilP).1).cps[0]? = some c)) || decide (((ps.getD (i - 1) nilP).2).cps.toList.getLast? = some c)
noncomputable def lastHit (ps : List (Str × Str)) (c : Nat) : Nat → Option Nat
  | 0 => none
  | k + 1 => if hit ps c (k + 1) then some (k + 1) else lastHit ps c k
noncomputable def placeOf (ps : List (Str × Str)) : List Nat → Option Nat
  | [] => none
  | c :: r => match lastHit ps c (ps.length - 1) with
    | some i => some i
    | none => placeOf ps r
noncomputable def FS.add (wd : Int) (sg : Str) (s : FS) (p : Str × Str) : FS :=
  if s.n + signs (s.ps ++ [p]) ≤ wd then ⟨s.rows, s.n, s.ps ++ [p]⟩ else
  match placeOf (s.ps ++ [p]) sg.cps.toList with
  | some i => ⟨s.rows ++ [txt ((s.ps ++ [p]).take i)], 0, (s.ps ++ [p]).drop i⟩
  | none => if 0 < s.n then ⟨nlRows s.rows s.n (midP s.ps), 0, [(if p.1.length = 0 then (" " : Str) else p.1, p.2)]⟩ else ⟨s.rows, s.n, s.ps ++ [p]⟩
theorem lastHit_le {ps : List (Str × Str)} {c : Nat} : ∀ {k i : Nat}, lastHit ps c k = some i → 1 ≤ i ∧ i ≤ k
  | 0, _, h => by cases h
  | k + 1, i, h => by
    unfold lastHit at h
    split at h
    · cases h; omega
    · have := lastHit_le h; omega
theorem placeOf_le {ps : List (Str × Str)} : ∀ {sg : List Nat} {i : Nat}, placeOf ps sg = some i → 1 ≤ i ∧ i ≤ ps.length - 1
  | [], _, h => by cases h
  | c :: r, i, h => by
    unfold placeOf at h
    split at h
    · rename_i j hj; cases h; exact lastHit_le hj
    · exact placeOf_le h
theorem popD_map (ps : List (Str × Str)) : popD (ps.map dpair) = dpair (lastP ps) := by
  unfold popD lastP
  rw [List.getLast?_map]
  cases ps.getLast? <;> rfl
theorem nl_aug {ys : List Str} {y : Str} {n : Int} {ms : List (Str × Str)} (h0 : 0 < n + signs ms) (hn : n = 0) (hw : whiteAll (txt ms) = true) : nlRows (ys ++ [y]) n ms = ys ++ [y ++ txt ms] := by
  unfold nlRows
  rw [if_pos h0, if_pos ⟨hn, hw, by simp⟩]
  simp
theorem nl_app {rows : List Str} {n : Int} {ms : List (Str × Str)} (h0 : 0 < n + signs ms) (h : ¬(n = 0 ∧ whiteAll (txt ms) = true ∧ rows ≠ [])) : nlRows rows n ms = rows ++ [txt ms] := by
  unfold nlRows
  rw [if_pos h0, if_neg h]
theorem nl_no {rows : List Str} {n : Int} {ms : List (Str × Str)} (h0 : ¬ 0 < n + signs ms) : nlRows rows n ms = rows := by
  unfold nlRows
  rw [if_neg h0]
section
variable {Γ : Fm} {loc : Loc} {own own' : Own}
theorem tst_mono {e : PySem.Expr} {Q Q' : Bool → Loc → Own → Prop} (x : Tst Γ loc own e Q) (m : ∀ b loc own, Q b loc own → Q' b loc own) : Tst Γ loc own e Q' := fun h₀ s g rel =>
  wpAny_mono (x h₀ s g rel) (fun b s' ⟨loc, own, p, r, q⟩ => ⟨loc, own, p, r, m _ _ _ q⟩) fun _ _ z => z
theorem exs_mono2 {sts : List Stmt} {QQ QQ' : QF} (x : Exs Γ loc own sts QQ) (m : ∀ fl loc own, QQ fl loc own → QQ' fl loc own) : Exs Γ loc own sts QQ' := fun h₀ s g rel =>
  wpAny_mono (x h₀ s g rel) (fun b s' ⟨f, loc, own, p, r, fr, q⟩ => ⟨f, loc, own, p, r, fr, m _ _ _ q⟩) fun _ _ z => z
end
end Mine

end
section
open PySem PySem.W PySem.Builtin PySem.Builtin.ObjectAttr
open PyProof.Rows hiding wpAt wpAt_bind
set_option linter.unusedSectionVars false
set_option maxRecDepth 100000
set_option maxHeartbeats 1000000
set_option linter.unusedVariables false
namespace Mine
variable [aI : Membership Nat Unit]
theorem range_down {a : Nat} (h : a < 200) : Builtin.Range.rangeSize (a : Int) 0 (-1) = a ∧ Builtin.Range.small (a : Int) 0 (-1) = true ∧ Builtin.divisionGoesByPylong (0 - (a : Int)) (-1) = false := by
  have : ∀ a : Fin 200, Builtin.Range.rangeSize ((a : Nat) : Int) 0 (-1) = (a : Nat) ∧ Builtin.Range.small ((a : Nat) : Int) 0 (-1) = true ∧ Builtin.divisionGoesByPylong (0 - ((a : Nat) : Int)) (-1) = false := by decide +kernel
  exact this ⟨a, h⟩
theorem place_cons (ps : List (Str × Str)) (c : Nat) (r : List Nat) : placeOf ps (c :: r) = match lastHit ps c (ps.length - 1) with
    | some i => some i
    | none => placeOf ps r := rfl
noncomputable def hitF (a : Str) (c : Nat) : Bool := decide (a.cps[0]? = some c)
noncomputable def hitL (b : Str) (c : Nat) : Bool := decide (b.cps.toList.getLast? = some c)
theorem hit_eq (ps : List (Str × Str)) (c i : Nat) : hit ps c i = ((Unicode.isSpace c && hitF (ps.getD i nilP).1 c) || hitL (ps.getD (i - 1) nilP).2 c) := rfl
theorem sign_inj {a b : Nat} : ((⟨#[a]⟩ : Str) = ⟨#[b]⟩) ↔ a = b := by
  constructor
  · intro h
    have := congrArg (fun s : Str => s.cps.toList) h
    simpa using this
  · rintro rfl; rfl
theorem item_first {a : Str} {c : Nat} (h : a.length ≠ 0) : decide (Txt.item a 0 = ⟨#[c]⟩) = hitF a c := by
  have hl : 0 < a.cps.size := by
    have : a.length = a.cps.size := rfl
    omega
  rw [item_meets (n := a.cps[0]) (Int.le_refl 0) (by simp)]
  unfold hitF
  rw [Array.getElem?_eq_getElem hl]
  simp only [sign_inj, Option.some.injEq]
theorem hitF_nil {a : Str} {c : Nat} (h : a.length = 0) : hitF a c = false := by
  have hl : a.cps.size = 0 := h
  unfold hitF
  rw [Array.getElem?_eq_none (by omega)]
  simp
theorem last_nat (n : Nat) (h : n ≠ 0) : ((n : Int) - 1).toNat = n - 1 ∧ n - 1 < n ∧ 0 ≤ (n : Int) - 1 ∧ (n : Int) - 1 < n ∧ (-1 : Int) + n = (n : Int) - 1 ∧ -(n : Int) ≤ -1 := by omega
theorem item_last {b : Str} {c : Nat} (h : b.length ≠ 0) : decide (Txt.item b (-1) = ⟨#[c]⟩) = hitL b c := by
  obtain ⟨z1, z2, z3, z4, z5, z6⟩ := last_nat b.length h
  have e := eq_of_beq (item_closes_neg (x := b) (i := -1) (j := (b.length : Int) - 1) (by decide) z6 z5.symm)
  rw [e]
  unfold hitL
  have : b.cps.toList.getLast? = some (b.cps.getD ((b.length : Int) - 1).toNat 0) := by
    rw [z1, List.getLast?_eq_getElem?]
    rw [Array.length_toList, Array.getElem?_toList]
    have z2 : b.cps.size - 1 < b.cps.size := z2
    show b.cps[b.cps.size - 1]? = some (b.cps.getD (b.cps.size - 1) 0)
    rw [Array.getElem?_eq_getElem z2, Array.getD, dif_pos z2]
    rfl
  rw [this]
  simp only [sign_inj, Option.some.injEq]
theorem hitL_nil {a : Str} {c : Nat} (h : a.length = 0) : hitL a c = false := by
  have hl : a.cps.size = 0 := h
  unfold hitL
  have : a.cps.toList = [] := by
    apply List.eq_nil_of_length_eq_zero
    simpa using hl
  rw [this]
  simp
theorem isspace_sign (c : Nat) : Txt.isspace (⟨#[c]⟩ : Str) = Unicode.isSpace c := by
  rw [isspace_white (by show (1 : Nat) ≠ 0; decide)]
  show ([c].all Unicode.isSpace) = _
  simp
end Mine

end
section
open PySem PySem.W PySem.Builtin PySem.Builtin.ObjectAttr
open PyProof.Rows hiding wpAt wpAt_bind
set_option linter.unusedSectionVars false
set_option maxRecDepth 100000
set_option maxHeartbeats 1000000
set_option linter.unusedVariables false
namespace Mine
variable [aI : Membership Nat Unit]
theorem cat_one (l : List Str) (x : Str) : (cat (l ++ [x])).length = (cat l).length + x.length := by
  rw [cat_append, len_append]
  show _ + (x ++ (⟨#[]⟩ : Str)).length = _
  rw [append_empty]
theorem nlRows_sz (rows : List Str) (n : Int) (ms : List (Str × Str)) : (cat (nlRows rows n ms)).length ≤ (cat rows).length + (txt ms).length ∧ (nlRows rows n ms).length ≤ rows.length + 1 := by
  unfold nlRows
  split
  · split
    · rename_i h
      obtain ⟨ys, y, rfl⟩ : ∃ ys y, rows = ys ++ [y] := ⟨_, _, (List.dropLast_concat_getLast h.2.2).symm⟩
      rw [List.dropLast_concat, List.getLast?_concat, Option.getD_some, cat_one, cat_one, len_append]
      simp
      omega
    · rw [cat_one]; simp
  · exact ⟨Nat.le_add_right _ _, Nat.le_succ _⟩
structure OkK (k : Nat) (s : FS) : Prop where
  n0 : 0 ≤ s.n
  n1 : s.n ≤ 1000
  fits : Fits s.ps
  len : s.ps.length ≤ k
  rl : s.rows.length ≤ k
  sz : (cat s.rows).length + (txt s.ps).length ≤ 2001 * k
theorem OkK.ok {k : Nat} {s : FS} (h : OkK k s) (hk : k ≤ 100) : s.Ok := ⟨h.n0, h.n1, h.fits, Nat.le_trans h.len hk, by have := h.rl; omega, by have := h.sz; omega⟩
theorem txt_snoc (ps : List (Str × Str)) (p : Str × Str) : (txt (ps ++ [p])).length = (txt ps).length + (p.1.length + p.2.length) := by rw [txt_append, txt_one, len_append, len_append]
theorem txt_parts (ps : List (Str × Str)) (i : Nat) : (txt (ps.take i)).length + (txt (ps.drop i)).length = (txt ps).length := by
  rw [← len_append, ← txt_append, List.take_append_drop]
theorem OkK.add {k : Nat} {s : FS} {p : Str × Str} (wd : Int) (sg : Str) (h : OkK k s) (hp : p.1.length ≤ 1000 ∧ p.2.length ≤ 1000) : OkK (k + 1) (s.add wd sg p) := by
  obtain ⟨n0, n1, hf, hl, hr, hz⟩ := h
  have hfq : Fits (s.ps ++ [p]) := fun r hr => by
    rcases List.mem_append.mp hr with hr | hr
    · exact hf r hr
    · rw [List.mem_singleton.mp hr]; exact hp
  have ht := txt_snoc s.ps p
  have hql : (s.ps ++ [p]).length = s.ps.length + 1 := by simp
  unfold FS.add
  split
  · exact ⟨n0, n1, hfq, by show (s.ps ++ [p]).length ≤ _; omega, by show s.rows.length ≤ _; omega, by show (cat s.rows).length + (txt (s.ps ++ [p])).length ≤ _; omega⟩
  · split
    · rename_i i hi
      have hq := txt_parts (s.ps ++ [p]) i
      refine ⟨Int.le_refl 0, (show (0 : Int) ≤ 1000 by decide), fun r hr => hfq r (List.mem_of_mem_drop hr), ?_, ?_, ?_⟩
      · show ((s.ps ++ [p]).drop i).length ≤ _
        rw [List.length_drop]; omega
      · show (s.rows ++ [_]).length ≤ _
        simp; omega
      · show (cat (s.rows ++ [txt ((s.ps ++ [p]).take i)])).length + (txt ((s.ps ++ [p]).drop i)).length ≤ _
        rw [cat_one]; omega
    · split
      · have hn := nlRows_sz s.rows s.n (midP s.ps)
        have hm := mid_sz s.ps
        have h1 : (" " : Str).length = 1 := by kernel_rfl
        refine ⟨Int.le_refl 0, (show (0 : Int) ≤ 1000 by decide), fun r hr => ?_, by show 1 ≤ _; omega, by show (nlRows _ _ _).length ≤ _; omega, ?_⟩
        · have : r = (if p.1.length = 0 then (" " : Str) else p.1, p.2) := by simpa using hr
          subst this
          refine ⟨?_, hp.2⟩
          show (if p.1.length = 0 then (" " : Str) else p.1).length ≤ 1000
          split
          · omega
          · exact hp.1
        · show (cat (nlRows _ _ _)).length + (txt [_]).length ≤ _
          rw [txt_one, len_append]
          have : (if p.1.length = 0 then (" " : Str) else p.1).length ≤ p.1.length + 1 := by
            split
            · omega
            · omega
          show (cat (nlRows _ _ _)).length + ((if p.1.length = 0 then (" " : Str) else p.1).length + p.2.length) ≤ _
          omega
      · exact ⟨n0, n1, hfq, by show (s.ps ++ [p]).length ≤ _; omega, by show s.rows.length ≤ _; omega, by show (cat s.rows).length + (txt (s.ps ++ [p])).length ≤ _; omega⟩
theorem okK0 {n : Int} (h0 : 0 ≤ n) (h1 : n ≤ 1000) : OkK 0 ⟨[], n, []⟩ := ⟨h0, h1, fun _ h => (by cases h), Nat.le_refl _, Nat.le_refl _, by show (cat []).length + (txt []).length ≤ 0; decide +kernel⟩
theorem OkK.nl {k : Nat} {s : FS} (h : OkK k s) : OkK (k + 1) s.nl := by
  have hn := nlRows_sz s.rows s.n (midP s.ps)
  have hm := mid_sz s.ps
  have hz := h.sz
  have hr := h.rl
  refine ⟨Int.le_refl 0, (by decide : (0 : Int) ≤ 1000), fun _ h => (by cases h), Nat.zero_le _, by show (nlRows _ _ _).length ≤ _; omega, ?_⟩
  show (cat (nlRows _ _ _)).length + (txt []).length ≤ _
  have : (txt []).length = 0 := by kernel_rfl
  omega
noncomputable def feedAll (wd : Int) (sg : Str) (s : FS) (cs : List (Str × Str)) : FS := cs.foldl (FS.add wd sg) s
theorem feed_ok {wd : Int} {sg : Str} : ∀ {cs : List (Str × Str)} {k : Nat} {s : FS}, OkK k s → Fits cs → OkK (k + cs.length) (feedAll wd sg s cs)
  | [], _, _, h, _ => h
  | c :: cs, k, s, h, hf => by
    have := feed_ok (wd := wd) (sg := sg) (cs := cs) (h.add wd sg (hf c (.head _))) fun p hp => hf p (.tail _ hp)
    rw [show k + (c :: cs).length = k + 1 + cs.length by simp; omega]
    exact this
theorem feed_snoc (wd : Int) (sg : Str) (s : FS) (cs : List (Str × Str)) (c : Str × Str) : feedAll wd sg s (cs ++ [c]) = (feedAll wd sg s cs).add wd sg c := by
  unfold feedAll; rw [List.foldl_append]; rfl
noncomputable def trimP (ps : List (Str × Str)) : List (Str × Str) := if ps.getLast? = some oneSp then ps.dropLast else ps
end Mine

end
section
open PySem PySem.W PySem.Builtin PySem.Builtin.ObjectAttr
open PyProof.Rows hiding wpAt wpAt_bind
set_option linter.unusedSectionVars false
set_option maxRecDepth 100000
set_option maxHeartbeats 1000000
set_option linter.unusedVariables false
namespace Mine
variable [aI : Membership Nat Unit]
noncomputable def Sp (a b : Own) : Prop := ∃ c : Own, a.Perm c ∧ c.Sublist b
theorem Sp.refl {a : Own} : Sp a a := ⟨a, .refl a, List.Sublist.refl a⟩
theorem Sp.of_sub {a b : Own} (s : a.Sublist b) : Sp a b := ⟨a, .refl a, s⟩
theorem Sp.of_perm {a b : Own} (s : a.Perm b) : Sp a b := ⟨b, s, List.Sublist.refl b⟩
theorem Sp.mem {a b : Own} (k : Sp a b) : ∀ p ∈ a, p ∈ b := fun p hp => by
  obtain ⟨c, h1, h2⟩ := k
  exact h2.subset (h1.subset hp)
theorem Sp.has {a b : Own} (k : Sp a b) {x : Addr} {o : AObj} (h : HasO x o a) : HasO x o b := .of_mem (k.mem _ h.mem)
theorem Rel.sp {h₀ h : Heap} {L : Addr} {loc loc1 : Loc} {own own1 : Own} (r : Rel h₀ L loc own h) (a : loc1.Sublist loc) (b : Sp own1 own) : Rel h₀ L loc1 own1 h := by
  obtain ⟨c, h1, h2⟩ := b
  have r' := r.both a h2
  exact ⟨r'.ow.perm h1.symm, ⟨r'.lc.ns, r'.lc.fresh, fun p hp => r'.lc.off p (h1.subset hp), r'.lc.nd⟩⟩
section
variable {Γ : Fm} {loc loc1 : Loc} {own own1 : Own} {Q : QV} {QQ : QF}
theorem exs_sp {sts : List Stmt} (a : loc1.Sublist loc) (b : Sp own1 own) (x : Exs Γ loc1 own1 sts QQ) : Exs Γ loc own sts QQ := fun h₀ s g rel => x h₀ s g (rel.sp a b)
theorem as_sp {tg : PySem.Expr} {d : Dv} {Q : Loc → Own → Prop} (a : loc1.Sublist loc) (b : Sp own1 own) (x : As Γ loc1 own1 tg d Q) : As Γ loc own tg d Q := fun h₀ s v g rel vr => x h₀ s v g (rel.sp a b) vr
theorem callT_sp {prog : Program} {w : World} {K : Frag} {A : Around} {f : Value} {ds : List Dv} {Q : Dv → Own → Prop} (x : CallT prog w K A own f ds fun d own => ∃ o', Sp o' own ∧ Q d o') : CallT prog w K A own f ds Q :=
  fun h₀ s vs g ok vr => codeAny_mono (x h₀ s vs g ok vr) fun r s' ⟨v, d, own', e, p, o, v', o', ⟨c, h1, h2⟩, q⟩ => ⟨v, d, o', e, p, (o.sub h2).perm h1.symm, v', q⟩
end
noncomputable abbrev ChL := List (Addr × (Str × Str))
noncomputable abbrev chA (q : Addr × (Str × Str)) : Addr × AObj := (q.1, .list [.str q.2.1, .str q.2.2])
noncomputable def chO (zs : ChL) : Own := zs.map chA
noncomputable abbrev chP (zs : ChL) : List (Str × Str) := zs.map fun q => q.2
noncomputable abbrev chR (zs : ChL) : List Dv := zs.map fun q => .raw (.ref q.1)
theorem chO_has {zs : ChL} {q : Addr × (Str × Str)} (h : q ∈ zs) : (chA q) ∈ chO zs := List.mem_map_of_mem h
theorem chR_len (zs : ChL) : (chR zs).length = zs.length := List.length_map _
theorem chR_zip (zs : ChL) : chR zs = (zs.map (·.1)).map fun a => Dv.raw (.ref a) := by rw [List.map_map]; rfl
end Mine

end
section
open PySem PySem.W PySem.Builtin PySem.Builtin.ObjectAttr
open PyProof.Rows hiding wpAt wpAt_bind
set_option linter.unusedSectionVars false
set_option maxRecDepth 100000
set_option maxHeartbeats 1000000
set_option linter.unusedVariables false
namespace Mine
variable [aI : Membership Nat Unit]
theorem Sp.perm {a a' b : Own} (p : a'.Perm a) (h : Sp a b) : Sp a' b := by
  obtain ⟨c, h1, h2⟩ := h
  exact ⟨c, p.trans h1, h2⟩
theorem Sp.sub {a a' b : Own} (p : a'.Sublist a) (h : Sp a b) : Sp a' b := by
  obtain ⟨c, h1, h2⟩ := h
  obtain ⟨d, h3, h4⟩ := List.exists_perm_sublist p h1
  exact ⟨d, h3.symm, h4.trans h2⟩
section
variable {Γ : Fm} {loc loc1 : Loc} {own own1 : Own} {Q : QV} {QQ : QF}
theorem ev_sp {e : PySem.Expr} (a : loc1.Sublist loc) (b : Sp own1 own) (x : Ev Γ loc1 own1 e Q) : Ev Γ loc own e Q := fun h₀ s g rel => x h₀ s g (rel.sp a b)
end
theorem nl_nl (s : FS) : s.nl.nl = s.nl := by
  unfold FS.nl
  have h : nlRows (nlRows s.rows s.n (midP s.ps)) 0 (midP []) = nlRows s.rows s.n (midP s.ps) := by
    have : midP [] = [nilP] := by
      unfold midP
      rw [lastP_nil, if_neg (by decide +kernel)]; rfl
    rw [this]
    refine nl_no ?_
    have : signs [nilP] = 0 := by rw [signs_one]; decide +kernel
    rw [this]; decide
  simp only [h]
end Mine

end
section
open PySem PySem.W PySem.Builtin PySem.Builtin.ObjectAttr
open PyProof.Rows hiding wpAt wpAt_bind
set_option linter.unusedSectionVars false
set_option maxRecDepth 100000
set_option maxHeartbeats 1000000
set_option linter.unusedVariables false
namespace Mine
variable [aI : Membership Nat Unit]
noncomputable def wsCode : Array Nat := #[14, 4, 0, 1, 4294967295, 17, 0, 24, 11, 1, 4294967295, 13, 6, 16, 32, 16, 9, 0, 1, 17, 1, 1]
noncomputable def wsb (c : Nat) : Bool := c == 32 || c == 9
theorem acc_ws (c : Nat) (seen : Sre.Seen) : ∃ seen', Sre.accepts wsCode 11 c seen = .ok (wsb c, seen') := by
  have h0 : Sre.accepts wsCode 11 c seen = if c == 32 then .ok (true, seen.add 16) else if c == 9 then .ok (true, (seen.add 16).add 16) else .ok (false, ((seen.add 16).add 16).add 0) := by kernel_rfl
  rw [h0]
  unfold wsb
  by_cases h1 : (c == 32) = true
  · exact ⟨_, by rw [if_pos h1, h1, Bool.true_or]⟩
  · rw [if_neg h1, Bool.eq_false_iff.mpr h1, Bool.false_or]
    by_cases h2 : (c == 9) = true
    · exact ⟨_, by rw [if_pos h2, h2]⟩
    · exact ⟨_, by rw [if_neg h2, Bool.eq_false_iff.mpr h2]⟩
noncomputable def wsLen (l : List Nat) (p : Nat) : Nat := ((l.drop p).takeWhile wsb).length
theorem ws_le (l : List Nat) (p : Nat) : wsLen l p ≤ l.length - p := by
  unfold wsLen
  have := (List.takeWhile_sublist (l := l.drop p) wsb).length_le
  rw [List.length_drop] at this
  exact this
theorem ws_at {l : List Nat} {p : Nat} (h : p < l.length) : wsLen l p = if wsb l[p] then wsLen l (p + 1) + 1 else 0 := by
  unfold wsLen
  rw [List.drop_eq_getElem_cons h, List.takeWhile_cons]
  split <;> simp
theorem run_ws {l : List Nat} : ∀ (n p found : Nat) (seen : Sre.Seen), p + n = l.length → ∃ seen', Sre.run wsCode l.toArray 11 n p found seen = .ok (found + wsLen l p, seen')
  | 0, p, found, seen, h => ⟨seen, by
      have : wsLen l p = 0 := by have := ws_le l p; omega
      rw [this]; rfl⟩
  | n + 1, p, found, seen, h => by
    have hp : p < l.length := by omega
    obtain ⟨s1, h1⟩ := acc_ws (l.toArray.getD p 0) seen
    have hg : l.toArray.getD p 0 = l[p] := by simp [Array.getD, hp]
    obtain ⟨s2, h2⟩ := run_ws (l := l) n (p + 1) (found + 1) s1 (by omega)
    have e : Sre.run wsCode l.toArray 11 (n + 1) p found seen = (do
      let (yes, seen) ← Sre.accepts wsCode 11 (l.toArray.getD p 0) seen
      if yes then Sre.run wsCode l.toArray 11 n (p + 1) (found + 1) seen else pure (found, seen)) := rfl
    rw [e, h1, hg, ws_at hp]
    show ∃ s, (if wsb l[p] then _ else _) = _
    by_cases hw : wsb l[p] = true
    · rw [if_pos hw, h2, if_pos hw]
      exact ⟨s2, by rw [show found + 1 + wsLen l (p + 1) = found + (wsLen l (p + 1) + 1) by omega]⟩
    · rw [if_neg hw, if_neg hw]
      exact ⟨s1, rfl⟩
noncomputable abbrev MS (text : Array Nat) (lim ls start pc pos handed : Nat) (om : Bool) (marks : Array (Option Nat)) (lm li : Int) (fr : List Sre.Frame) (wt : Nat) (ans : Option Bool) (seen : Sre.Seen) (oc : Option Sre.Outcome) : Sre.M :=
  { code := wsCode, text := text, lim := lim, start := start, lastStart := ls, wholeText := false, mustAdvance := false, pc := pc, pos := pos, handed := handed, outermost := om, marks := marks, lastmark := lm, lastindex := li, loops := #[], inner := none, frames := fr, weight := wt, answer := ans, seen := seen, outcome := oc }
noncomputable abbrev f0 (s : Nat) (om : Bool) : Sre.Frame := { wait := .nextStart, pc := 5, pos := s, outermost := om }
section
variable {text : Array Nat} {lim ls s p p' h : Nat} {om : Bool} {a b : Option Nat} {mk : Array (Option Nat)} {fr : List Sre.Frame} {wt : Nat} {seen : Sre.Seen} {lm li : Int}
theorem st_mark0 : Sre.M.step (MS text lim ls s 5 s h om #[a, b] (-1) (-1) fr wt none seen none) = MS text lim ls s 7 s h om #[some s, b] 0 (-1) fr wt none (seen.add 17) none := by kernel_rfl
theorem st_rep : Sre.M.step (MS text lim ls s 7 p h om #[a, b] 0 (-1) fr wt none seen none) =
    (if ((1 : Nat) : Int) > (lim : Int) - p then MS text lim ls s 7 p h om #[a, b] 0 (-1) fr wt (some false) (seen.add 24) none
     else match Sre.run wsCode text 11 (min 4294967295 ((lim : Int) - p).toNat) p 0 ((seen.add 24).add 13) with
       | .error why => (MS text lim ls s 7 p h om #[a, b] 0 (-1) fr wt none (seen.add 24) none).stick why
       | .ok (n, seen) => if n < 1 then MS text lim ls s 7 p h om #[a, b] 0 (-1) fr wt (some false) seen none
         else (MS text lim ls s 7 (p + n) h om #[a, b] 0 (-1) fr wt none seen none).afterRun .giveBack n { lastmark := 0, lastindex := -1, whole := false, marks := #[] }) := by kernel_rfl
theorem st_mark1 : Sre.M.step (MS text lim ls s 19 p h om #[a, b] 0 (-1) fr wt none seen none) = MS text lim ls s 21 p h om #[a, some p] 1 1 fr wt none (seen.add 17) none := by kernel_rfl
theorem st_succ : Sre.M.step (MS text lim ls s 21 p h om #[a, b] 1 1 fr wt none seen none) = MS text lim ls s 21 p p om #[a, b] 1 1 fr wt (some true) (seen.add 1) none := by cases om <;> kernel_rfl
theorem st_no : Sre.M.step (MS text lim ls s p p' h om mk lm li [f0 s om] 1 (some false) seen none) =
    if s < ls then MS text lim ls (s + 1) 5 (s + 1) (s + 1) false mk (-1) (-1) [f0 (s + 1) false] 1 none seen none else MS text lim ls s 5 s h om mk lm li [] 0 (some false) seen none := by kernel_rfl
theorem st_end (yes : Bool) : Sre.M.step (MS text lim ls s p p' h om mk lm li [] wt (some yes) seen none) = MS text lim ls s p p' h om mk lm li [] wt (some yes) seen (some (if yes then .matched else .failed)) := by kernel_rfl
noncomputable abbrev g0 (p n : Nat) (om : Bool) : Sre.Frame := { wait := .giveBack, pc := 7, pos := p, outermost := om, count := n, kept := { lastmark := 0, lastindex := -1, whole := false, marks := #[] } }
theorem after_run {n : Nat} : (MS text lim ls s 7 p h om #[a, b] 0 (-1) [f0 s om] 1 none seen none).afterRun .giveBack n { lastmark := 0, lastindex := -1, whole := false, marks := #[] } =
    MS text lim ls s 19 p p om #[a, b] 0 (-1) [g0 p n om, f0 s om] 2 none seen none := by kernel_rfl
theorem st_yes1 {n : Nat} : Sre.M.step (MS text lim ls s 21 p h om mk lm li [g0 p' n om, f0 s om] 2 (some true) seen none) = MS text lim ls s 7 p' h om mk lm li [f0 s om] 1 (some true) seen none := by kernel_rfl
theorem st_yes2 : Sre.M.step (MS text lim ls s 7 p h om mk lm li [f0 s om] 1 (some true) seen none) = MS text lim ls s 5 s h om mk lm li [] 0 (some true) seen none := by kernel_rfl
theorem fs_eq : Sre.forSearch wsCode text 1 p lim false = if (decide (p > lim) || decide (lim - p < 1)) = true then MS text lim 0 p 5 p p true #[none, none] (-1) (-1) [] 0 (some false) (({} : Sre.Seen).add 14) none
    else MS text lim lim p 5 p p true #[none, none] (-1) (-1) [f0 p true] 1 none (({} : Sre.Seen).add 14) none := by kernel_rfl
end
noncomputable def Runs (k : Nat) (m m' : Sre.M) : Prop := ∀ n, Sre.M.runFor (k + n) m = Sre.M.runFor n m'
theorem Runs.one {m m' : Sre.M} (h : m.outcome = none) (e : m.step = m') : Runs 1 m m' := fun n => by
  rw [Nat.add_comm]
  show (if m.outcome.isSome then m else Sre.M.runFor n m.step) = _
  rw [h, e]; rfl
theorem Runs.then {i j : Nat} {a b c : Sre.M} (h : Runs i a b) (k : Runs j b c) : Runs (i + j) a c := fun n => by rw [Nat.add_assoc, h, k]
theorem run_end {m : Sre.M} (h : m.outcome.isSome = true) : ∀ n, Sre.M.runFor n m = m
  | 0 => rfl
  | n + 1 => by
    show (if m.outcome.isSome then m else _) = _
    rw [if_pos h]
theorem run_add : ∀ (i j : Nat) (m : Sre.M), Sre.M.runFor (i + j) m = Sre.M.runFor j (Sre.M.runFor i m)
  | 0, j, m => by rw [Nat.zero_add]; rfl
  | i + 1, j, m => by
    rw [Nat.add_right_comm]
    show (if m.outcome.isSome then m else Sre.M.runFor (i + j) m.step) = Sre.M.runFor j (if m.outcome.isSome then m else Sre.M.runFor i m.step)
    split
    · rename_i h; exact (run_end h j).symm
    · exact run_add i j _
noncomputable def nwLen (l : List Nat) (p : Nat) : Nat := ((l.drop p).takeWhile fun c => !wsb c).length
theorem nw_at {l : List Nat} {p : Nat} (h : p < l.length) : nwLen l p = if wsb l[p] then 0 else nwLen l (p + 1) + 1 := by
  unfold nwLen
  rw [List.drop_eq_getElem_cons h, List.takeWhile_cons]
  cases wsb l[p] <;> simp
theorem nw_le (l : List Nat) (p : Nat) : nwLen l p ≤ l.length - p := by
  unfold nwLen
  have := (List.takeWhile_sublist (l := l.drop p) fun c => !wsb c).length_le
  rw [List.length_drop] at this
  exact this
noncomputable def Found (l : List Nat) (p : Nat) (m : Sre.M) : Prop :=
  if wsLen l (p + nwLen l p) = 0 then m.outcome = some .failed
  else m.outcome = some .matched ∧ m.start = p + nwLen l p ∧ m.handed = p + nwLen l p + wsLen l (p + nwLen l p) ∧ m.lastmark = 1 ∧ m.marks = #[some (p + nwLen l p), some (p + nwLen l p + wsLen l (p + nwLen l p))]
theorem Found.some {l : List Nat} {p : Nat} {m : Sre.M} (h : Found l p m) : m.outcome.isSome = true := by
  unfold Found at h
  split at h
  · rw [h]; rfl
  · rw [h.1]; rfl
theorem search_go {l : List Nat} (hl : l.length ≤ 4294967295) : ∀ (k s : Nat) (om : Bool) (a b : Option Nat) (seen : Sre.Seen), s + k = l.length →
    ∃ n m', Runs n (MS l.toArray l.length l.length s 5 s s om #[a, b] (-1) (-1) [f0 s om] 1 none seen none) m' ∧ n ≤ 4 * k + 8 ∧ Found l s m' := by
  intro k
  induction k with
  | zero =>
    intro s om a b seen hs
    have hs : s = l.length := by omega
    subst hs
    have h1 : nwLen l l.length = 0 := by have := nw_le l l.length; omega
    have h2 : wsLen l l.length = 0 := by have := ws_le l l.length; omega
    refine ⟨4, MS l.toArray l.length l.length l.length 5 l.length l.length om #[some l.length, b] 0 (-1) [] 0 (some false) ((seen.add 17).add 24) (some .failed),
      .then (i := 1) (j := 3) (.one rfl st_mark0) (.then (i := 1) (j := 2) (b := MS l.toArray l.length l.length l.length 7 l.length l.length om #[some l.length, b] 0 (-1) [f0 l.length om] 1 (some false) ((seen.add 17).add 24) none) (.one rfl ?_)
        (.then (i := 1) (j := 1) (b := MS l.toArray l.length l.length l.length 5 l.length l.length om #[some l.length, b] 0 (-1) [] 0 (some false) ((seen.add 17).add 24) none) (.one rfl ?_) (.one rfl (st_end false)))), by omega, ?_⟩
    · rw [st_rep, if_pos (by omega)]
    · rw [st_no, if_neg (Nat.lt_irrefl _)]
    · unfold Found
      rw [h1, Nat.add_zero, if_pos h2]
  | succ k ih =>
    intro s om a b seen hs
    have hp : s < l.length := by omega
    obtain ⟨seen2, hr⟩ := run_ws (l := l) (l.length - s) s 0 (((seen.add 17).add 24).add 13) (by omega)
    have hm : min 4294967295 ((l.length : Int) - (s : Int)).toNat = l.length - s := by omega
    rw [Nat.zero_add] at hr
    by_cases hw : wsb l[s] = true
    · have h1 : nwLen l s = 0 := by rw [nw_at hp, if_pos hw]
      have h2 : wsLen l s = wsLen l (s + 1) + 1 := by rw [ws_at hp, if_pos hw]
      refine ⟨7, _, .then (.one rfl st_mark0) (.then (j := 5) (.one rfl (m' := MS l.toArray l.length l.length s 19 (s + wsLen l s) (s + wsLen l s) om #[some s, b] 0 (-1) [g0 (s + wsLen l s) (wsLen l s) om, f0 s om] 2 none seen2 none) ?_)
        (.then (j := 4) (.one rfl st_mark1) (.then (j := 3) (.one rfl st_succ) (.then (j := 2) (.one rfl st_yes1) (.then (j := 1) (.one rfl st_yes2) (.one rfl (st_end true))))))), by omega, ?_⟩
      · rw [st_rep, if_neg (by omega), hm, hr]
        show (if wsLen l s < 1 then _ else _) = _
        rw [if_neg (by omega), after_run]
      · unfold Found
        rw [h1, Nat.add_zero, if_neg (by omega)]
        exact ⟨rfl, rfl, rfl, rfl, rfl⟩
    · have h1 : nwLen l s = nwLen l (s + 1) + 1 := by rw [nw_at hp, if_neg hw]
      have h2 : wsLen l s = 0 := by rw [ws_at hp, if_neg hw]
      obtain ⟨n, m', r, hn, hf⟩ := ih (s + 1) false (some s) b seen2 (by omega)
      refine ⟨3 + n, m', .then (i := 3) (.then (i := 1) (j := 2) (.one rfl st_mark0) (.then (i := 1) (j := 1) (.one rfl (m' := MS l.toArray l.length l.length s 7 s s om #[some s, b] 0 (-1) [f0 s om] 1 (some false) seen2 none) ?_) (.one rfl ?_))) r, by omega, ?_⟩
      · rw [st_rep, if_neg (by omega), hm, hr]
        show (if wsLen l s < 1 then _ else _) = _
        rw [if_pos (by omega)]
      · rw [st_no, if_pos hp]
      · unfold Found at hf ⊢
        rw [h1, show s + (nwLen l (s + 1) + 1) = s + 1 + nwLen l (s + 1) by omega]
        exact hf
theorem search_ws {l : List Nat} (hl : l.length ≤ 4294967295) {p : Nat} (hp : p ≤ l.length) : ∃ n m', Runs n (Sre.forSearch wsCode l.toArray 1 p l.length false) m' ∧ n ≤ 4 * l.length + 8 ∧ Found l p m' := by
  rw [fs_eq]
  by_cases h : p < l.length
  · rw [if_neg (by simp; omega)]
    obtain ⟨n, m', r, hn, hf⟩ := search_go hl (l.length - p) p true none none (({} : Sre.Seen).add 14) (by omega)
    exact ⟨n, m', r, by omega, hf⟩
  · have e : p = l.length := by omega
    subst e
    rw [if_pos (by simp)]
    have h1 : nwLen l l.length = 0 := by have := nw_le l l.length; omega
    have h2 : wsLen l l.length = 0 := by have := ws_le l l.length; omega
    refine ⟨1, _, .one rfl (st_end false), by omega, ?_⟩
    unfold Found
    rw [h1, Nat.add_zero, if_pos h2]; rfl
end Mine

end
section
open PySem PySem.W PySem.Builtin PySem.Builtin.ObjectAttr
open PyProof.Rows hiding wpAt wpAt_bind
open PySem.Builtin.Re
set_option linter.unusedSectionVars false
set_option maxRecDepth 100000
set_option maxHeartbeats 1000000
set_option linter.unusedVariables false
namespace Mine
variable [aI : Membership Nat Unit]
section
variable {M : Model} {A : Around} {E : Value → Shared → Prop} {s : Shared}
theorem drive : ∀ (turns n : Nat) (m m' : Sre.M), Runs n m m' → m'.outcome.isSome = true → n ≤ 4 * turns → 0 < turns → ∀ (Q : Sre.M → Shared → Prop) (s : Shared), Q m' s → wpAny M A (reDrive turns m) Q E s
  | 0, _, _, _, _, _, _, h => absurd h (Nat.lt_irrefl 0)
  | turns + 1, n, m, m', r, ho, hn, _ => fun Q s q => by
    have h4 := r 4
    have hme : ∀ k, Sre.M.runFor (n + k) m = m' := fun k => by rw [r k, run_end ho]
    show wpAny M A (if (Sre.M.runFor 4 m).outcome.isSome then pure (Sre.M.runFor 4 m) else do rule "sre.turn"; reDrive turns (Sre.M.runFor 4 m)) Q E s
    by_cases hs : (Sre.M.runFor 4 m).outcome.isSome = true
    · rw [if_pos hs]
      have : Sre.M.runFor 4 m = m' := by
        rw [← run_end hs n, ← run_add, Nat.add_comm, hme]
      rw [this]
      exact wpAny_pure q
    · rw [if_neg hs]
      have hn4 : 4 < n := by
        rcases Nat.lt_or_ge 4 n with h | h
        · exact h
        · exfalso
          have e := hme (4 - n)
          rw [show n + (4 - n) = 4 by omega] at e
          rw [e] at hs
          exact hs ho
      refine wpAny_bind (wpAny_rule ?_)
      refine drive turns (n - 4) (Sre.M.runFor 4 m) m' (fun k => ?_) ho (by omega) (by omega) Q s q
      rw [← run_add, show 4 + (n - 4 + k) = n + k by omega]
      exact r k
theorem for_inv {α σ : Type} {body : α → σ → Sem (ForInStep σ)} {Q : σ → Shared → Prop} (I : Nat → σ → Shared → Prop) : ∀ (l : List α) (i : Nat) (st : σ) (s : Shared), I i st s →
    (∀ j x st s', l[j]? = some x → I (i + j) st s' → wpAny M A (body x st) (fun r s'' => ∃ st', r = .yield st' ∧ I (i + j + 1) st' s'') E s') →
    (∀ st s', I (i + l.length) st s' → Q st s') → wpAny M A (forIn l st body) Q E s
  | [], i, st, s, hI, _, done => by
    rw [List.forIn_nil]
    exact wpAny_pure (done st s (by simpa using hI))
  | x :: vs, i, st, s, hI, step, done => by
    rw [List.forIn_cons]
    refine wpAny_bind (wpAny_mono (step 0 x st s (by simp) hI) (fun r s' h' => ?_) fun _ _ e => e)
    obtain ⟨st', rfl, hI'⟩ := h'
    show wpAny M A (forIn vs st' body) Q E s'
    refine for_inv I vs (i + 1) st' s' hI' (fun j y st s'' hy hJ => ?_) fun st s'' hd => done st s'' ?_
    · have e : i + (j + 1) = i + 1 + j := by omega
      have h1 := step (j + 1) y st s'' (by simpa using hy) (by rw [e]; exact hJ)
      rw [e] at h1
      exact h1
    · have e : i + (x :: vs).length = i + 1 + vs.length := by rw [List.length_cons]; omega
      rw [e]
      exact hd
theorem to_end {n : Nat} {m m' : Sre.M} (r : Runs n m m') (ho : m'.outcome.isSome = true) (hn : n ≤ 2 ^ 60) {Q : Option Sre.M → Shared → Prop}
    (q : (m'.outcome = some .matched → Q (some m') s) ∧ (m'.outcome = some .failed → Q none s)) (hnm : m'.outcome = some .matched ∨ m'.outcome = some .failed) : wpAny M A (reRunToEnd m) Q E s := by
  unfold reRunToEnd
  refine wpAny_bind (drive _ n m m' r ho (Nat.le_trans hn (by decide)) (by decide) _ _ ?_)
  refine wpAny_bind (for_inv (fun _ _ s' => s' = s) _ 0 _ s rfl (fun j x st s' _ hs => ?_) fun st s' hs => ?_)
  · subst hs
    cases m'.seen.has x
    · exact wpAny_pure ⟨_, rfl, rfl⟩
    · exact wpAny_bind (wpAny_rule (wpAny_pure ⟨_, rfl, rfl⟩))
  · subst hs
    rcases hnm with h | h
    · rw [h]; exact wpAny_pure (q.1 h)
    · rw [h]; exact wpAny_pure (q.2 h)
theorem next_found {l : List Nat} (hl : l.length ≤ 4294967295) {p : Nat} (hp : p ≤ l.length) {t : ReTarget} (h1 : t.code = wsCode) (h2 : t.text = l.toArray) (h3 : t.groups = 1) (h4 : t.lim = l.length) {Q : Option Sre.M → Shared → Prop}
    (q0 : wsLen l (p + nwLen l p) = 0 → Q none s)
    (q1 : wsLen l (p + nwLen l p) ≠ 0 → ∀ m : Sre.M, m.start = p + nwLen l p → m.handed = p + nwLen l p + wsLen l (p + nwLen l p) → m.lastmark = 1 → m.marks = #[some (p + nwLen l p), some (p + nwLen l p + wsLen l (p + nwLen l p))] → Q (some m) s) :
    wpAny M A (reNextFound t p false) Q E s := by
  unfold reNextFound
  rw [h1, h2, h3, h4]
  obtain ⟨n, m', r, hn, hf⟩ := search_ws hl hp
  refine to_end r hf.some (by omega) ⟨fun ho => ?_, fun ho => ?_⟩ ?_
  · unfold Found at hf
    split at hf
    · rw [hf] at ho; cases ho
    · rename_i hw
      exact q1 hw m' hf.2.1 hf.2.2.1 hf.2.2.2.1 hf.2.2.2.2
  · unfold Found at hf
    split at hf
    · rename_i hw; exact q0 hw
    · rw [hf.1] at ho; cases ho
  · unfold Found at hf
    split at hf
    · exact .inr hf
    · exact .inl hf.1
end
end Mine

end
section
open PySem PySem.W PySem.Builtin PySem.Builtin.ObjectAttr
open PyProof.Rows hiding wpAt wpAt_bind
open PySem.Builtin.Re
set_option linter.unusedSectionVars false
set_option maxRecDepth 100000
set_option maxHeartbeats 1000000
set_option linter.unusedVariables false
namespace Mine
variable [aI : Membership Nat Unit]
noncomputable def sl (l : List Nat) (a b : Nat) : Str := ⟨l.toArray.extract a b⟩
noncomputable def partsAt (l : List Nat) : Nat → Nat → List Str
  | 0, p => [sl l p l.length]
  | n + 1, p => if wsLen l (p + nwLen l p) = 0 then [sl l p l.length] else sl l p (p + nwLen l p) :: sl l (p + nwLen l p) (p + nwLen l p + wsLen l (p + nwLen l p)) :: partsAt l n (p + nwLen l p + wsLen l (p + nwLen l p))
noncomputable def wsVals : Array Value := wsCode.map fun n : Nat => .int (n : Int) 0
theorem strs_app : ∀ {vs ws : List Value} {xs ys : List Str}, StrsAre vs xs → StrsAre ws ys → StrsAre (vs ++ ws) (xs ++ ys)
  | _, _, _, _, .nil, h => h
  | _, _, _, _, .cons y t a, h => .cons y t (strs_app a h)
theorem strs_len : ∀ {vs : List Value} {xs : List Str}, StrsAre vs xs → vs.length = xs.length
  | _, _, .nil => rfl
  | _, _, .cons y t a => by rw [List.length_cons, List.length_cons, strs_len a]
section
variable {M : Model} {A : Around} {E : Value → Shared → Prop} {s : Shared}
theorem named_1 (v : Value) : reNamed "re.Pattern.split" "split" ["string", "maxsplit"] 1 [v] [] = pure [some v, none] := by kernel_rfl
theorem raw_items {c : Addr} {oc : Obj} {e : Nat} (hc : s.heap.get? c = some oc) (hcd : oc.data = .seq wsVals e) {Q : Array Int → Shared → Prop} (q : Q (wsVals.map reRawOf) s) : wpAny M A (reRawItems (.ref c)) Q E s := by
  unfold reRawItems seqItems?
  refine wpAny_bind (wpAny_bind (wpAny_load hc ?_))
  rw [hcd]
  refine wpAny_pure (wpAny_pure ?_)
  exact q
theorem target_ws {p c : Addr} {o oc : Obj} {x : Str} {t : Tok} {y : Value} {t1 t2 t3 e : Nat} (ho : s.heap.get? p = some o) (hd : o.data = .fields #[y, .int 32 t1, .int 1 t2, .none, .none, .ref c, .int 0 t3])
    (hc : s.heap.get? c = some oc) (hcd : oc.data = .seq wsVals e) {Q : ReTarget → Shared → Prop}
    (q : ∀ t' : ReTarget, t'.code = wsCode → t'.text = x.cps → t'.kind = 0 → t'.groups = 1 → t'.lim = x.cps.size → Q t' s) : wpAny M A (reWholeTarget (.ref p) (.str x t)) Q E s := by
  unfold reWholeTarget
  refine wpAny_bind (wpAny_fieldsOf ho hd ?_)
  refine wpAny_bind (wpAny_of_eq (a := (x.cps, 0)) rfl ?_)
  refine wpAny_bind (wpAny_of_eq (a := ()) rfl ?_)
  refine wpAny_bind (raw_items hc hcd ?_)
  refine wpAny_pure (q _ ?_ rfl rfl rfl rfl)
  kernel_rfl
structure SpI (l : List Nat) (D : List Str) (s : Shared) (k : Nat) (out : Array Value) (start last : Nat) (must over : Bool) (s' : Shared) (done : List Str) : Prop where
  tk : ∃ tk, s' = { s with toks := tk }
  le : last ≤ l.length
  items : StrsAre out.toList done
  len : done.length ≤ 2 * k
  ended : over = true → done ++ [sl l last l.length] = D
  on : over = false → start = last ∧ must = false ∧ k ≤ last ∧ done ++ partsAt l (2 * l.length + 3 - k) last = D
noncomputable abbrev SpL (l : List Nat) (D : List Str) (s : Shared) (k : Nat) (st : Array Value × Nat × Nat × Bool × Int × Bool) (s' : Shared) : Prop := ∃ done, SpI l D s k st.1 st.2.1 st.2.2.1 st.2.2.2.1 st.2.2.2.2.2 s' done
theorem split_ws {p c : Addr} {o oc : Obj} {x : Str} {t : Tok} {y : Value} {t1 t2 t3 e : Nat} (ho : s.heap.get? p = some o) (hd : o.data = .fields #[y, .int 32 t1, .int 1 t2, .none, .none, .ref c, .int 0 t3])
    (hc : s.heap.get? c = some oc) (hcd : oc.data = .seq wsVals e) (hx : x.cps.size ≤ 1000000) {Q : Value → Shared → Prop}
    (q : ∀ vs tk, StrsAre vs (partsAt x.cps.toList (2 * x.cps.size + 3) 0) → Q (.ref s.heap.objs.size) { s with heap := s.heap.push { cls := .type "list", data := .seq vs.toArray }, toks := tk }) :
    wpAny M A («re.Pattern.split» ⟨[.ref p, .str x t], []⟩) (fun fin s' => ∃ v, fin = .done (.ret v) ∧ Q v s') E s := by
  unfold «re.Pattern.split»
  refine wpAny_bind (wpAny_of_eq (named_1 _) ?_)
  refine wpAny_bind (wpAny_of_eq (a := 0) rfl ?_)
  refine wpAny_bind (target_ws ho hd hc hcd fun t' h1 h2 h3 h4 h5 => ?_)
  obtain ⟨l, rfl⟩ : ∃ l : List Nat, x = ⟨l.toArray⟩ := ⟨x.cps.toList, by cases x; rfl⟩
  have hlen : (⟨l.toArray⟩ : Str).cps.size = l.length := by simp
  have h2 : t'.text = l.toArray := h2
  have h5 : t'.lim = l.length := by rw [h5, hlen]
  have hmm : reMostMatches t' = 2 * l.length + 3 := by unfold reMostMatches; rw [h2]; simp
  rw [hlen] at q hx
  have q : ∀ vs tk, StrsAre vs (partsAt l (2 * l.length + 3) 0) → Q (.ref s.heap.objs.size) { s with heap := s.heap.push { cls := .type "list", data := .seq vs.toArray }, toks := tk } := q
  have hslice : ∀ (a b : Nat) {Q : Value → Shared → Prop} {s : Shared}, Q (.str (sl l a b) s.toks) { s with toks := s.toks + 1 } → wpAny M A (reSlice t'.text t'.kind a b) Q E s := fun a b {Q s} h => by
    unfold reSlice
    rw [h3, h2]
    refine wpAny_mkStr h ?_
    show (l.toArray.extract a b).size ≤ 2 ^ 24
    rw [Array.size_extract, List.size_toArray]
    omega
  rw [hmm]
  obtain ⟨D, hD⟩ : ∃ D, D = partsAt l (2 * l.length + 3) 0 := ⟨_, rfl⟩
  rw [← hD] at q
  refine wpAny_bind (for_inv (SpL l D s) _ 0 _ s ⟨[], ⟨s.toks, rfl⟩, Nat.zero_le _, .nil, Nat.le_refl _, (fun h => by cases h), fun _ => ⟨rfl, rfl, Nat.le_refl _, hD.symm⟩⟩ (fun j x st s' hj hs => ?_) fun st s' hs => ?_)
  · obtain ⟨out, start, last, must, n, over⟩ := st
    obtain ⟨done, ⟨tk, rfl⟩, hla, hd, hdl, ho1, ho2⟩ := hs
    dsimp only at hla hd ho1 ho2 ⊢
    rw [Nat.zero_add] at hdl ho2 ⊢
    have hj : j < 2 * l.length + 3 := by
      have := (List.getElem?_eq_some_iff.mp hj).1
      simpa using this
    cases over with
    | true => exact wpAny_pure ⟨_, rfl, done, ⟨tk, rfl⟩, hla, hd, by omega, fun _ => ho1 rfl, fun h => by cases h⟩
    | false =>
      obtain ⟨rfl, rfl, hjl, hp⟩ := ho2 rfl
      rw [show 2 * l.length + 3 - j = 2 * l.length + 3 - (j + 1) + 1 by omega] at hp
      unfold partsAt at hp
      refine wpAny_bind (next_found (l := l) (p := start) (by omega) hla h1 h2 h4 h5 (fun hw => ?_) fun hw m m1 m2 m3 m4 => ?_)
      · rw [if_pos hw] at hp
        exact wpAny_pure ⟨_, rfl, done, ⟨tk, rfl⟩, hla, hd, by omega, fun _ => hp, fun h => by cases h⟩
      · rw [if_neg hw] at hp
        refine wpAny_bind (hslice _ _ ?_)
        rw [h4, m1]
        refine wpAny_bind (for_inv (σ := Array Value) (fun k st s' => (∃ tk, s' = { s with toks := tk }) ∧ ((k = 0 ∧ st = out.push (.str (sl l start (start + nwLen l start)) tk)) ∨ (k = 1 ∧ ∃ t2, st = (out.push (.str (sl l start (start + nwLen l start)) tk)).push (.str (sl l (start + nwLen l start) (start + nwLen l start + wsLen l (start + nwLen l start))) t2)))) _ 0 _ _ ⟨⟨_, rfl⟩, .inl ⟨rfl, rfl⟩⟩ (fun j' x' st s' hj' hs => ?_) fun st s' hs => ?_)
        · have hj0 : j' = 0 := by
            have := (List.getElem?_eq_some_iff.mp hj').1
            simpa using this
          subst hj0
          have hx0 : x' = 0 := by simpa using hj'.symm
          subst hx0
          obtain ⟨⟨tk', rfl⟩, hs⟩ := hs
          rcases hs with ⟨_, rfl⟩ | ⟨h, _⟩
          · refine wpAny_bind ?_
            unfold reMachineGroup
            rw [m3, m4, if_neg (by decide)]
            show wpAny M A (if start + nwLen l start + wsLen l (start + nwLen l start) < start + nwLen l start then reWrongSpan else reSlice t'.text t'.kind _ _) _ E _
            rw [if_neg (by omega)]
            refine hslice _ _ (wpAny_pure ⟨_, rfl, ⟨_, rfl⟩, .inr ⟨rfl, _, rfl⟩⟩)
          · cases h
        · obtain ⟨⟨tk', rfl⟩, hs⟩ := hs
          rcases hs with ⟨h, _⟩ | ⟨_, t2, rfl⟩
          · cases h
          · have hw1 := ws_le l (start + nwLen l start)
            have hw2 := nw_le l start
            have he : m.handed = start + nwLen l start + wsLen l (start + nwLen l start) := m2
            refine wpAny_pure ⟨_, rfl, done ++ [sl l start (start + nwLen l start), sl l (start + nwLen l start) (start + nwLen l start + wsLen l (start + nwLen l start))], ⟨tk', rfl⟩, ?_, ?_, ?_, (fun h => by cases h), fun _ => ⟨rfl, ?_, ?_, ?_⟩⟩
            · show m.handed ≤ l.length
              omega
            · show StrsAre ((out.push _).push _).toList _
              rw [Array.toList_push, Array.toList_push, List.append_assoc]
              exact strs_app hd (.cons _ _ (.cons _ _ .nil))
            · rw [List.length_append]
              show done.length + 2 ≤ _
              omega
            · show (m.handed == start + nwLen l start) = false
              rw [m2, beq_eq_false_iff_ne]
              omega
            · show j + 1 ≤ m.handed
              omega
            · show _ ++ partsAt l _ m.handed = _
              rw [m2, ← hp, List.append_assoc]; rfl
  · obtain ⟨out, start, last, must, n, over⟩ := st
    obtain ⟨done, ⟨tk, rfl⟩, hla, hd, hdl, ho1, ho2⟩ := hs
    dsimp only at hla hd ho1 ho2 ⊢
    rw [Nat.zero_add, List.length_range] at hdl ho2
    cases over with
    | false => have := (ho2 rfl).2.2.1; omega
    | true =>
      rw [if_neg (by decide), h5]
      refine wpAny_bind (hslice _ _ ?_)
      have hsv : StrsAre (out.push (.str (sl l last l.length) tk)).toList D := by
        rw [← ho1 rfl, Array.toList_push]
        exact strs_app hd (.cons _ _ .nil)
      have hsl : (out.push (.str (sl l last l.length) tk)).toList.length ≤ 4 * l.length + 7 := by
        rw [Array.toList_push, List.length_append, strs_len hd]
        show done.length + 1 ≤ _
        omega
      refine wpAny_bind (wpAny_newList ?_ (Nat.le_trans hsl (by unfold sizeLine; omega)))
      exact wpAny_pure ⟨_, rfl, q _ _ hsv⟩
end
end Mine

end
section
open PySem PySem.W PySem.Builtin PySem.Builtin.ObjectAttr
open PyProof.Rows hiding wpAt wpAt_bind
open PySem.Builtin.Re
set_option linter.unusedSectionVars false
set_option maxRecDepth 100000
set_option maxHeartbeats 1000000
set_option linter.unusedVariables false
namespace Mine
variable [aI : Membership Nat Unit]
noncomputable def PatK (K : Frag) (p : Addr) : Prop := ∃ c y t1 t2 t3 e sl sl2, K.lookup p = some ⟨.type "re.Pattern", none, .fields #[y, .int 32 t1, .int 1 t2, .none, .none, .ref c, .int 0 t3], sl⟩ ∧ K.lookup c = some ⟨.type "tuple", none, .seq wsVals e, sl2⟩
theorem pat_getattribute : typeLookup (.type "re.Pattern") "__getattribute__" = pure (some (.builtin "object.__getattribute__")) := by rw [typeLookup_type, builtinLookup_eq_fast]; kernel_rfl
theorem canon_obj_getattribute : (Manifest.canonical "object.__getattribute__" != "object.__getattribute__") = false := by decide +kernel
theorem pat_getattr_none : typeLookup (.type "re.Pattern") "__getattr__" = pure none := by rw [typeLookup_type, builtinLookup_eq_fast]; kernel_rfl
theorem pat_split : typeLookup (.type "re.Pattern") "split" = pure (some (.builtin "re.Pattern.split")) := by rw [typeLookup_type, builtinLookup_eq_fast]; kernel_rfl
theorem type_split : typeOf (.builtin "re.Pattern.split") = pure (.type "method_descriptor") := by show builtinType _ = _; rw [builtinType_eq_fast]; kernel_rfl
theorem split_kind : builtinKind "re.Pattern.split" = some .method := by decide +kernel
theorem split_split : splitId "re.Pattern.split" = some ("re.Pattern", "split") := by decide +kernel
theorem split_plain : plainId "re.Pattern.split" = true := by decide +kernel
theorem split_entry : entryFor table "re.Pattern.split" = some Builtin.«re.Pattern.split» := entryFor_of_tree (by kernel_rfl)
theorem split_args (a b : Value) : argsOk "re.Pattern.split" ⟨[a, b], []⟩ := by unfold argsOk; kernel_rfl
section
variable {Γ : Fm} {loc : Loc} {own own' : Own} {Q : QV} {QQ : QF}
theorem meth_split {p : Addr} (H : PatK Γ.K p) {pos : Pos} {es : List PySem.Expr} (hp : plainArgs es = true)
    (x : EvL Γ loc own pos es fun args loc own => OpN Γ loc own (.raw (.ref p) :: args) (fun vs => call (.builtin "re.Pattern.split") vs) Q) : Meth Γ loc own (.raw (.ref p)) "split" pos es Q := by
  intro h₀ s v pl g rel vr
  cases vr
  obtain ⟨c, y, t1, t2, t3, e, sl, sl2, H1, H2⟩ := H
  have X : Γ.K.In s.heap := g.kin.keeps rel.ow.keep
  have ho := X _ _ H1
  have hT : s.TypeIs (.ref p) "re.Pattern" := ⟨_, ho, rfl⟩
  unfold getMethod
  refine wpAny_bind (wpAny_specialOf hT pat_getattribute ?_)
  show wpAny _ _ (if (Manifest.canonical "object.__getattribute__" != "object.__getattribute__") = true then _ else _) _ _ s
  rw [canon_obj_getattribute, if_neg Bool.false_ne_true]
  refine wpAny_bind (wpAny_specialOf hT pat_getattr_none ?_)
  refine wpAny_bind (wpAny_specialOf hT pat_split ?_)
  refine wpAny_bind (wpAny_of_eq type_split ?_)
  refine wpAny_bind (wpAny_load ho ?_)
  refine wpAny_bind (wpAny_rule (wpAny_pure ?_))
  exact callWith_go (first := [.ref p]) (fd := [.raw (.ref p)]) (.inr (.inl ⟨_, rfl⟩)) hp g rel (.cons (.raw _) .nil) Pers.refl.st x
theorem strs_vrs {h : Heap} : ∀ {vs : List Value} {ys : List Str}, StrsAre vs ys → VRs h vs (ys.map .str)
  | _, _, .nil => .nil
  | _, _, .cons y t a => .cons (.str y t) (strs_vrs a)
noncomputable def partsOf (x : Str) : List Str := partsAt x.cps.toList (2 * x.cps.size + 3) 0
theorem op_split {p : Addr} (H : PatK Γ.K p) {x : Str} (hx : x.length ≤ 1000000) (q : ∀ a, Q (.raw (.ref a)) loc ((a, .list ((partsOf x).map .str)) :: own)) : OpN Γ loc own [.raw (.ref p), .str x] (fun vs => call (.builtin "re.Pattern.split") vs) Q := by
  intro h₀ s vs g rel vr
  cases vr with
  | cons v1 v2 =>
    cases v2 with
    | cons v2 v3 =>
      cases v3; cases v1; cases v2
      obtain ⟨c, y, t1, t2, t3, e, sl, sl2, H1, H2⟩ := H
      have X : Γ.K.In s.heap := g.kin.keeps rel.ow.keep
      have ho := X _ _ H1
      refine call_bi (.inl split_kind) split_split split_plain split_entry (split_args _ _) (((Looks.ld ho).andThen .now).andThen (Looks.of_pure (by show isSubtype (.type "re.Pattern") (.type "re.Pattern") = _; rw [isSubtype_type]; kernel_rfl))) ?_
      refine split_ws ho rfl (X _ _ H2) rfl hx fun vs tk hs => ?_
      have ex : Ext s.heap (s.heap.push { cls := .type "list", data := .seq vs.toArray }) := Ext.push _
      refine ⟨_, _, _, (Ext.pers ex).st, rel.more (o := .list ((partsOf x).map .str)) ex (get_size_none _) ⟨vs, 0, by rw [Heap.get?_push_size _ rfl], strs_vrs hs⟩, .raw _, q _⟩
end
end Mine

end
section
open PySem PySem.W PySem.Builtin PySem.Builtin.ObjectAttr PySem.Calls
open PyProof.Rows hiding wpAt wpAt_bind
set_option linter.unusedSectionVars false
set_option maxRecDepth 100000
set_option maxHeartbeats 1000000
set_option linter.unusedVariables false
namespace Mine
variable [aI : Membership Nat Unit]
noncomputable def IterO (l : Addr) (k : Nat) (o : Obj) : Prop := o.cls = .type "list_iterator" ∧ o.data = .fields #[.ref l, .int k 0]
theorem entry_iter1 : entryFor table "iter" = some Builtin.«iter» := entryFor_of_fast (by kernel_rfl)
theorem args_iter1 (a : Value) : argsOk "iter" ⟨[a], []⟩ := by unfold argsOk; kernel_rfl
section
variable {Γ : Fm} {loc : Loc} {own own' : Own} {Q : QV} {QQ : QF}
theorem op_iter {l : Addr} {ds : List Dv} (hl : HasO l (.list ds) own) (q : ∀ i, Q (.raw (.ref i)) loc ((i, .any (IterO l 0)) :: own)) : OpN Γ loc own [.raw (.ref l)] (fun vs => call (.builtin "iter") vs) Q := by
  intro h₀ s vs g rel vr
  cases vr with
  | cons v1 v2 =>
    cases v2; cases v1
    obtain ⟨vs, il, r, e⟩ := list_at hl rel
    refine call_function_entry (by decide +kernel) (by decide +kernel) entry_iter1 (args_iter1 _) ?_
    unfold Builtin.«iter»
    refine wpAny_bind (m := someArgs "iter" 1 2 _) (wpAny_of_eq (a := [Value.ref l]) (by kernel_rfl) ?_)
    show wpAny _ _ (pyIter (.ref l) >>= _) _ _ _
    refine wpAny_bind (wpAny_pyIter_list il ?_)
    have ex : Ext s.heap (s.heap.push { cls := .type "list_iterator", data := .fields #[.ref l, .int 0 0] }) := Ext.push _
    exact wpAny_pure ⟨_, rfl, _, _, _, (Ext.pers ex).st, rel.more (o := .any (IterO l 0)) ex (get_size_none _) ⟨_, Heap.get?_push_size _ rfl, ⟨rfl, rfl⟩, fun vs n e => by simp [tupObj] at e⟩, .raw _, q _⟩
theorem op_mul_list2 {l : Addr} {d : Dv} (hl : HasO l (.list [d]) own) (q : ∀ a, Q (.raw (.ref a)) loc ((a, .list [d, d]) :: own)) : Op2 Γ loc own (.raw (.ref l)) (.int 2) (binaryOp .Mult) Q := by
  intro h₀ s v u g rel x y
  cases x; cases y
  rename_i u
  obtain ⟨vs, k, ho, r⟩ := rel.ow.at_ _ hl.mem
  obtain ⟨v, rfl⟩ : ∃ v, vs = [v] := List.length_eq_one_iff.mp (by rw [r.length]; rfl)
  refine wpAny_binaryOp_repeat_ref (T := "list") (U := "int") (by decide) ⟨_, ho, rfl⟩ (fun s' => typeIs_int s' 2 u) noFill_list_mul F.fills_int_mul F.slot_int_rmul repeat_list F.slot_int_index.lookup
    (call_meets F.slot_int_rmul (typeIs_int s 2 u) F.entry_int_rmul (F.args_int_rmul_2 _ _) (int___rmul___int_list 2 u l [v].toArray k)
      ⟨ho, rfl, ⟨_, ho, rfl⟩, call_meets F.slot_list_mul ⟨_, ho, rfl⟩ F.entry_list_mul (F.args_list_mul_2 _ _)
        (AutoListH.list___mul___list_int_3 l [v].toArray k 2 u (by decide) (by show ¬ (1 * 2 > (2 ^ 63 - 1) / 8); decide) (by simp [Builtin.List.listTooLong, sizeLine]))
        ⟨ho, ?_⟩⟩)
  cases r with
  | cons r1 r2 =>
    have ex : Ext s.heap (s.heap.push { cls := .type "list", data := .seq (List.foldl (fun x1 x2 => x1 ++ x2) #[] (List.replicate (if [v].toArray.isEmpty = true then 0 else (2 : Int).toNat) [v].toArray)) }) := Ext.push _
    exact ⟨_, _, _, (Ext.pers ex).st, rel.more (o := .list [d, d]) ex (get_size_none _) ⟨[v, v], 0, by rw [Heap.get?_push_size _ rfl]; rfl, .cons (r1.mono (Ext.pers ex)) (.cons (r1.mono (Ext.pers ex)) .nil)⟩, .raw _, q _⟩
theorem it_call_star {id : Str} {p pos p' : Pos} {e : PySem.Expr} {T : String} {tg : PySem.Expr} {Q : List Dv → (Own → Prop) → Loc → Own → Prop}
    (x : Ev Γ loc own (.Name id p) fun d loc own => d = .raw (.type T) ∧ Ev Γ loc own e fun d loc own => ∃ l ds, d = .raw (.ref l) ∧ HasO l (.list ds) own ∧ ds.length ≤ 1000 ∧ ItOp Γ loc own tg (.type T) ds Q)
    (he : starEach [.Starred e p'] Γ.env = [(true, eval e Γ.env)] := by rfl) : It Γ loc own tg (.Call (.Name id p) [.Starred e p'] [] pos) Q := by
  intro h₀ s g rel
  rw [arm_eval_Call_Name']
  refine wpAny_bind (x.use g rel fun d loc own s1 v p1 r1 v1 ⟨hd, y⟩ => ?_)
  subst hd
  cases v1
  rw [he]
  refine ks_call (P := fun _ => True) rfl (fun h _ => ⟨.machine, .inr (.inl rfl), .now⟩) (ks_lone ?_)
  refine y.use g r1 fun dd loc own s3 v p3 r3 v3 ⟨l, ds, e1, hl, hn, z⟩ => ?_
  subst e1
  cases v3
  obtain ⟨vs, k, ho, r⟩ := r3.ow.at_ _ hl.mem
  have hT' : s3.TypeIs (.ref l) "list" := ⟨_, ho, rfl⟩
  unfold StarOf notIterableAtAll
  refine wpAny_bind (wpAny_specialOf hT' slot_list_iter.lookup (wpAny_pure ⟨rfl, ?_⟩))
  refine wpAny_collect_seq l (.inl rfl) ho rfl rfl (fun h' hk' => ?_) (by rw [List.size_toArray, r.length]; unfold sizeLine; omega)
  have r4 := r3.ext hk'
  refine ⟨trivial, ?_⟩
  exact wpAny_mono (z h₀ { s3 with heap := h' } vs g r4 (r.mono (Ext.pers hk'))) (fun x s4 y => wpAny_mono y (fun it s5 ⟨J, F, ds, H, P, M, loc, own, mo, pe, r, ap, S, p0, si, hH, q⟩ => ⟨J, F, ds, H, P, M, loc, own, mo.pre ((p1.trans p3).trans (Ext.pers hk').st).p, ((p1.trans p3).trans (Ext.pers hk').st).trans pe, r, ap, S, p0, si, hH, q⟩) fun _ _ z => z) fun _ _ z => z
end
end Mine

end
section
open PySem PySem.W PySem.Builtin PySem.Builtin.ObjectAttr PySem.Calls
open PyProof.Rows hiding wpAt wpAt_bind
set_option linter.unusedSectionVars false
set_option maxRecDepth 100000
set_option maxHeartbeats 1000000
set_option linter.unusedVariables false
namespace Mine
variable [aI : Membership Nat Unit]
structure Zip1 (z TI TO i l : Addr) : Prop where
  TIz : TI ≠ z
  TOz : TO ≠ z
  iz : i ≠ z
  TITO : TI ≠ TO
  TIi : TI ≠ i
  TOi : TO ≠ i
  lz : l ≠ z
  lTO : l ≠ TO
  li : l ≠ i
section
variable {prog : Program} {w : World} {A : Around} {E : Value → Shared → Prop} {s : Shared}
theorem zip1_item {z TI TO i l : Addr} {k : Nat} {xs : Array Value} {x y a b : Value} {Q : Value → Shared → Prop} (D : Zip1 z TI TO i l)
    (hz : IsZip s.heap z TI TO .none) (hTI : IsPair s.heap TI (.ref i) (.ref i)) (hTO : IsPair s.heap TO a b)
    (h1 : s.heap.IsListIter i l k) (hl : s.heap.IsList l xs) (hx : xs[k]? = some x) (hy : xs[k + 1]? = some y)
    (hQ : ∀ h', IsZip h' z TI TO (rawInt s.heap.objs.size) → IsPair h' TO x y → h'.IsListIter i l (k + 2) → IsPair h' s.heap.objs.size x y →
      (∀ c o, c ≠ z → c ≠ TO → c ≠ i → s.heap.get? c = some o → h'.get? c = some o) → Q (.ref s.heap.objs.size) { s with heap := h' }) :
    wpAny (model prog w) A (Builtin.«zip.__next__» ⟨[.ref z], []⟩) (fun fin s' => ∃ v, fin = .done (.ret v) ∧ Q v s') E s := by
  show wpAny _ _ (field (.ref z) 2 >>= _) _ _ _
  refine wpAny_bind (wpAny_field hz rfl (x := .bool false) rfl ?_)
  show wpAny _ _ (field (.ref z) 3 >>= _) _ _ _
  refine wpAny_bind (wpAny_field hz rfl (x := .ref TI) rfl ?_)
  refine wpAny_bind (wpAny_seqItems hTI rfl ?_)
  show wpAny _ _ (Builtin.SmallTypes.ownedTupleIsFree (.ref z) >>= _) _ _ _
  refine wpAny_bind ?_
  unfold Builtin.SmallTypes.ownedTupleIsFree
  refine wpAny_bind (wpAny_field hz rfl (x := .none) rfl (wpAny_pure ?_))
  simp only [if_true]
  refine wpAny_bind (wpAny_rule ?_)
  refine wpAny_bind (wpAny_field hz rfl (x := .ref TO) rfl ?_)
  refine wpAny_bind (wpAny_setField_rec hz (by simp) fun h₁ hz₁ hs₁ => ?_)
  replace hz₁ : IsZip h₁ z TI TO .ellipsis := hz₁
  refine wpAny_bind ?_
  simp only [List.zipIdx_cons, List.zipIdx_nil, List.forIn_cons, List.forIn_nil]
  refine wpAny_bind (wpAny_bind (wpAny_onRaise ?_))
  show wpAny _ _ (Builtin.SmallTypes.nextOf (.ref i) >>= _) _ _ _
  refine wpAny_bind (wpAny_nextOf_list_item (h1.extBut hs₁.extBut D.iz) (hl.extBut hs₁.extBut D.lz) hx fun h₂ h1₂ hs₂ => wpAny_pure ?_)
  have hTO₂ : IsPair h₂ TO a b := hs₂.extBut _ _ D.TOi (hs₁.extBut _ _ D.TOz hTO)
  refine wpAny_bind (wpAny_seqItems hTO₂ rfl ?_)
  refine wpAny_bind (wpAny_updateSeq_pair hTO₂ fun h₃ hTO₃ hs₃ => ?_)
  replace hTO₃ : IsPair h₃ TO x b := hTO₃
  refine wpAny_bind (wpAny_letGo (wpAny_pure ?_))
  refine wpAny_bind (wpAny_bind (wpAny_onRaise ?_))
  show wpAny _ _ (Builtin.SmallTypes.nextOf (.ref i) >>= _) _ _ _
  refine wpAny_bind (wpAny_nextOf_list_item (h1₂.extBut hs₃.extBut D.TOi.symm)
    (((hl.extBut hs₁.extBut D.lz).extBut hs₂.extBut D.li).extBut hs₃.extBut D.lTO) hy fun h₄ h2₄ hs₄ => wpAny_pure ?_)
  have hTO₄ : IsPair h₄ TO x b := hs₄.extBut _ _ D.TOi hTO₃
  refine wpAny_bind (wpAny_seqItems hTO₄ rfl ?_)
  refine wpAny_bind (wpAny_updateSeq_pair hTO₄ fun h₅ hTO₅ hs₅ => ?_)
  replace hTO₅ : IsPair h₅ TO x y := hTO₅
  refine wpAny_bind (wpAny_letGo (wpAny_pure (wpAny_pure ?_)))
  refine wpAny_bind (wpAny_seqItems hTO₅ rfl ?_)
  refine wpAny_bind (wpAny_newTuple ?_)
  have hsz : h₅.objs.size = s.heap.objs.size := by rw [hs₅.1, hs₄.1, hs₃.1, hs₂.1, hs₁.1]
  have hz₅ : IsZip h₅ z TI TO .ellipsis := hs₅.extBut _ _ D.TOz.symm (hs₄.extBut _ _ D.iz.symm (hs₃.extBut _ _ D.TOz.symm (hs₂.extBut _ _ D.iz.symm hz₁)))
  have hk₅ : ∀ c o, c ≠ z → c ≠ TO → c ≠ i → s.heap.get? c = some o → h₅.get? c = some o := fun c o c1 c2 c3 e =>
    hs₅.extBut _ _ c2 (hs₄.extBut _ _ c3 (hs₃.extBut _ _ c2 (hs₂.extBut _ _ c3 (hs₁.extBut _ _ c1 e))))
  have h2₅ : h₅.IsListIter i l (k + 1 + 1) := h2₄.extBut hs₅.extBut D.TOi.symm
  have hzlt : z < h₅.objs.size := Heap.lt_size hz₅
  show wpAny _ _ (Builtin.SmallTypes.ownedTupleHandOut (.ref z) (.ref h₅.objs.size) >>= _) _ _ _
  refine wpAny_bind ?_
  unfold Builtin.SmallTypes.ownedTupleHandOut
  have hz₆ : IsZip (h₅.push { cls := .type "tuple", data := .seq #[x, y] }) z TI TO .ellipsis := Heap.get?_push_of_some _ hz₅
  refine wpAny_bind (wpAny_setField_rec hz₆ (by simp) fun h₇ hz₇ hs₇ => ?_)
  replace hz₇ : IsZip h₇ z TI TO (rawInt h₅.objs.size) := hz₇
  refine wpAny_setField_rec hz₇ (by simp) fun h₈ hz₈ hs₈ => ?_
  replace hz₈ : IsZip h₈ z TI TO (rawInt h₅.objs.size) := hz₈
  have up : ∀ c o, c ≠ z → h₅.get? c = some o → h₈.get? c = some o := fun c o c1 e => hs₈.extBut _ _ c1 (hs₇.extBut _ _ c1 (Heap.get?_push_of_some _ e))
  have hT₈ : IsPair h₈ h₅.objs.size x y := hs₈.extBut _ _ (Nat.ne_of_gt hzlt) (hs₇.extBut _ _ (Nat.ne_of_gt hzlt) (Heap.get?_push_size _ rfl))
  rw [hsz] at hz₈ hT₈
  refine wpAny_pure ⟨_, rfl, ?_⟩
  show Q (.ref h₅.objs.size) _
  rw [hsz]
  exact hQ h₈ hz₈ (up _ _ D.TOz hTO₅) (h2₅.at fun o e => up _ o D.iz e) hT₈ fun c o c1 c2 c3 e => up c o c1 (hk₅ c o c1 c2 c3 e)
theorem zip1_end {z TI TO i l : Addr} {k : Nat} {xs : Array Value} {a b : Value} {Q : Fin → Shared → Prop} (hh : A.handled = none) (D : Zip1 z TI TO i l)
    (hz : IsZip s.heap z TI TO .none) (hTI : IsPair s.heap TI (.ref i) (.ref i)) (hTO : IsPair s.heap TO a b)
    (h1 : s.heap.IsListIter i l k) (hl : s.heap.IsList l xs) (hx : xs[k]? = none)
    (hE : ∀ h' e, (∀ c o, c ≠ z → c ≠ i → s.heap.get? c = some o → h'.get? c = some o) → (∃ o, h'.get? e = some o ∧ o.cls = .type "StopIteration") → E (.ref e) { s with heap := h' }) :
    wpAny (model prog w) A (Builtin.«zip.__next__» ⟨[.ref z], []⟩) Q E s := by
  show wpAny _ _ (field (.ref z) 2 >>= _) _ _ _
  refine wpAny_bind (wpAny_field hz rfl (x := .bool false) rfl ?_)
  show wpAny _ _ (field (.ref z) 3 >>= _) _ _ _
  refine wpAny_bind (wpAny_field hz rfl (x := .ref TI) rfl ?_)
  refine wpAny_bind (wpAny_seqItems hTI rfl ?_)
  show wpAny _ _ (Builtin.SmallTypes.ownedTupleIsFree (.ref z) >>= _) _ _ _
  refine wpAny_bind ?_
  unfold Builtin.SmallTypes.ownedTupleIsFree
  refine wpAny_bind (wpAny_field hz rfl (x := .none) rfl (wpAny_pure ?_))
  simp only [if_true]
  refine wpAny_bind (wpAny_rule ?_)
  refine wpAny_bind (wpAny_field hz rfl (x := .ref TO) rfl ?_)
  refine wpAny_bind (wpAny_setField_rec hz (by simp) fun h₁ hz₁ hs₁ => ?_)
  replace hz₁ : IsZip h₁ z TI TO .ellipsis := hz₁
  refine wpAny_bind ?_
  simp only [List.zipIdx_cons, List.zipIdx_nil, List.forIn_cons, List.forIn_nil]
  refine wpAny_bind (wpAny_bind (wpAny_onRaise ?_))
  show wpAny _ _ (Builtin.SmallTypes.nextOf (.ref i) >>= _) _ _ _
  refine wpAny_bind (wpAny_nextOf_list_end hh (h1.extBut hs₁.extBut D.iz) (hl.extBut hs₁.extBut D.lz) hx fun h₂ e hs₂ he => ?_)
  obtain ⟨oe, hoe, hce⟩ := he
  have hz₂ : IsZip h₂ z TI TO .ellipsis := hs₂ _ _ D.iz.symm hz₁
  have hez : e ≠ z := fun x => by subst x; rw [hz₂] at hoe; cases hoe; simp at hce
  refine wpAny_setField_rec hz₂ (by simp) fun h₃ _ hs₃ => hE h₃ e (fun c o c1 c3 x => hs₃.extBut _ _ c1 (hs₂ _ _ c3 (hs₁.extBut _ _ c1 x))) ⟨oe, hs₃.extBut _ _ hez hoe, hce⟩
theorem next_zip1_item {z TI TO i l : Addr} {k : Nat} {xs : Array Value} {x y a b : Value} {Q : Option Value → Shared → Prop} (D : Zip1 z TI TO i l)
    (hz : IsZip s.heap z TI TO .none) (hTI : IsPair s.heap TI (.ref i) (.ref i)) (hTO : IsPair s.heap TO a b)
    (h1 : s.heap.IsListIter i l k) (hl : s.heap.IsList l xs) (hx : xs[k]? = some x) (hy : xs[k + 1]? = some y)
    (hQ : ∀ h', IsZip h' z TI TO (rawInt s.heap.objs.size) → IsPair h' TO x y → h'.IsListIter i l (k + 2) → IsPair h' s.heap.objs.size x y →
      (∀ c o, c ≠ z → c ≠ TO → c ≠ i → s.heap.get? c = some o → h'.get? c = some o) → Q (some (.ref s.heap.objs.size)) { s with heap := h' }) :
    wpAny (model prog w) A (pyNext (.ref z)) Q E s := by
  have hT : s.TypeIs (.ref z) "zip" := ⟨_, hz, rfl⟩
  unfold pyNext
  exact wpAny_bind (wpAny_attempt (wpAny_callSpecial?_slot (name := Str.ofString "__next__") hT F.slot_zip_next
    (wpAny_call_entry F.slot_zip_next hT F.entry_zip_next
      (zip1_item D hz hTI hTO h1 hl hx hy fun h' a1 a2 a3 a5 a7 => wpAny_pure (hQ h' a1 a2 a3 a5 a7)) (F.args_zip_next_1 _))))
theorem next_zip1_end {z TI TO i l : Addr} {k : Nat} {xs : Array Value} {a b : Value} {Q : Option Value → Shared → Prop} (hh : A.handled = none) (D : Zip1 z TI TO i l)
    (hz : IsZip s.heap z TI TO .none) (hTI : IsPair s.heap TI (.ref i) (.ref i)) (hTO : IsPair s.heap TO a b)
    (h1 : s.heap.IsListIter i l k) (hl : s.heap.IsList l xs) (hx : xs[k]? = none)
    (hQ : ∀ h', (∀ c o, c ≠ z → c ≠ i → s.heap.get? c = some o → h'.get? c = some o) → Q none { s with heap := h' }) : wpAny (model prog w) A (pyNext (.ref z)) Q E s := by
  have hT : s.TypeIs (.ref z) "zip" := ⟨_, hz, rfl⟩
  unfold pyNext
  refine wpAny_bind (wpAny_attempt (wpAny_callSpecial?_slot (name := Str.ofString "__next__") hT F.slot_zip_next
    (wpAny_call_entry F.slot_zip_next hT F.entry_zip_next (zip1_end hh D hz hTI hTO h1 hl hx fun h' e hk he => ?_) (F.args_zip_next_1 _))))
  obtain ⟨o, ho, hc⟩ := he
  refine wpAny_bind (wpAny_isInstance (T := "StopIteration") (b := true) ⟨o, ho, hc⟩ isSubtype_stop ?_)
  exact wpAny_pure (hQ _ hk)
noncomputable abbrev z1H1 (h : Heap) (i : Addr) : Heap := h.push { cls := .type "tuple", data := .seq #[.ref i, .ref i] }
noncomputable abbrev z1H2 (h : Heap) (i : Addr) : Heap := (z1H1 h i).push { cls := .type "tuple", data := .seq #[.none, .none] }
noncomputable abbrev z1H3 (h : Heap) (i : Addr) : Heap := (z1H2 h i).push { cls := .type "zip", data := .fields #[.none, .bool false, .bool false, .ref h.objs.size, .ref (z1H1 h i).objs.size] }
end
theorem meets_zip1_new (i l : Addr) (k : Nat) :
    Meets (Builtin.«zip.__new__» ⟨[.type "zip", .ref i, .ref i], []⟩) (fun _ R s => s.heap.IsListIter i l k ∧
      R (.ok (.ret (.ref (z1H2 s.heap i).objs.size))) { s with heap := z1H3 s.heap i }) :=
  .of_wp fun prog w A R s h => by
    obtain ⟨hp, g, d, tk, os⟩ := s; obtain ⟨hl1, h⟩ := h
    have hsub := sub_zip
    have hL1 : Heap.IsListIter (Shared.heap ⟨hp, g, d, tk, os⟩) i l k := hl1
    wp_walk using wpAny_pyIter_listiter hL1, wpAny_pyIter_listiter hL1
    exact ⟨_, rfl, h⟩
section
variable {prog : Program} {w : World} {A : Around} {E : Value → Shared → Prop} {s : Shared}
theorem call_zip1 {i l : Addr} {k : Nat} {Q : Value → Shared → Prop} (hi : s.heap.IsListIter i l k)
    (h : ∀ h', IsZip h' (s.heap.objs.size + 2) s.heap.objs.size (s.heap.objs.size + 1) .none → IsPair h' s.heap.objs.size (.ref i) (.ref i) → IsPair h' (s.heap.objs.size + 1) .none .none →
      (∀ c o, s.heap.get? c = some o → h'.get? c = some o) → Q (.ref (s.heap.objs.size + 2)) { s with heap := h' }) :
    wpAny (model prog w) A (call (.type "zip") [.ref i, .ref i]) Q E s := by
  refine callType_new F.called_zip (by decide) (F.typeCall_zip_2 _ _) (F.newCall_zip_2 _ _) (fun obj => F.args_object_init_3 obj _ _) F.entry_zip_new
    (meets_zip1_new i l k) ⟨hi, ?_⟩
  have z1 : (z1H1 s.heap i).objs.size = s.heap.objs.size + 1 := Heap.size_push ..
  have z2 : (z1H2 s.heap i).objs.size = s.heap.objs.size + 2 := by rw [Heap.size_push, z1]
  have g3 : (z1H3 s.heap i).get? (z1H2 s.heap i).objs.size = some _ := Heap.get?_push_size _ rfl
  have g2 : (z1H3 s.heap i).get? (z1H1 s.heap i).objs.size = some _ := Heap.get?_push_of_some _ (Heap.get?_push_size _ rfl)
  have g1 : (z1H3 s.heap i).get? s.heap.objs.size = some _ := Heap.get?_push_of_some _ (Heap.get?_push_of_some _ (Heap.get?_push_size _ rfl))
  show _ ∧ _
  rw [z1, z2] at g3
  rw [z1] at g2
  rw [z2]
  exact ⟨⟨_, g3, rfl⟩, h _ g3 g1 g2 fun c o x => Heap.get?_push_of_some _ (Heap.get?_push_of_some _ (Heap.get?_push_of_some _ x))⟩
end
end Mine

end
section
open PySem PySem.W PySem.Builtin PySem.Builtin.ObjectAttr
open PyProof.Rows hiding wpAt wpAt_bind
set_option linter.unusedSectionVars false
set_option maxRecDepth 100000
set_option maxHeartbeats 1000000
set_option linter.unusedVariables false
namespace Mine
variable [aI : Membership Nat Unit]
section
variable {Γ : Fm} {loc : Loc} {own own' : Own} {Q : QV} {QQ : QF}
noncomputable def pairD : List Dv → List Dv
  | x :: y :: r => .tup [x, y] :: pairD r
  | _ => []
theorem pairD_get : ∀ {ds : List Dv} {k : Nat} {d : Dv}, (pairD ds)[k]? = some d → ∃ x y, ds[2 * k]? = some x ∧ ds[2 * k + 1]? = some y ∧ d = .tup [x, y]
  | [], k, d, h => by simp [pairD] at h
  | [a], k, d, h => by simp [pairD] at h
  | a :: b :: r, 0, d, h => by simp [pairD] at h; exact ⟨a, b, rfl, rfl, h.symm⟩
  | a :: b :: r, k + 1, d, h => by
    have h : (pairD r)[k]? = some d := by simpa [pairD] using h
    obtain ⟨x, y, h1, h2, h3⟩ := pairD_get h
    exact ⟨x, y, by rw [show 2 * (k + 1) = 2 * k + 1 + 1 by omega]; exact h1, by rw [show 2 * (k + 1) + 1 = 2 * k + 1 + 1 + 1 by omega]; exact h2, h3⟩
theorem pairD_len : ∀ {n : Nat} {ds : List Dv}, ds.length = 2 * n → (pairD ds).length = n
  | 0, [], _ => rfl
  | n + 1, a :: b :: r, h => by
    show (pairD r).length + 1 = n + 1
    rw [pairD_len (n := n) (by simp at h; omega)]
  | n + 1, [a], h => by simp at h; omega
theorem src_zip1 (hh : Γ.A.handled = none) {elts : List PySem.Expr} {kk : Nat} {pos : Pos} {z TI TO i l : Addr} {ds : List Dv} {n : Nat} (D : Zip1 z TI TO i l) (hT : Hid TO) (hn : ds.length = 2 * n) :
    Src Γ.prog Γ.w Γ.A (.Tuple elts kk pos) (.ref z) [z, TI, TO, i] (pairD ds) (fun own => HasO l (.list ds) own)
      (fun k h => IsZip h z TI TO .none ∧ IsPair h TI (.ref i) (.ref i) ∧ (∃ a b, IsPair h TO a b) ∧ h.IsListIter i l (2 * k))
      (fun k v h => ∃ T, v = .ref T ∧ IsZip h z TI TO (rawInt T) ∧ IsPair h TI (.ref i) (.ref i) ∧ (∃ a b, IsPair h TO a b) ∧ h.IsListIter i l (2 * k)) where
  mono := fun h => .there h
  keep := fun {k h h'} ⟨a, b, ⟨x, y, c⟩, ⟨o, d, d'⟩⟩ q => ⟨(q z (by simp)).trans a, (q TI (by simp)).trans b, ⟨x, y, (q TO (by simp)).trans c⟩, ⟨o, (q i (by simp)).trans d, d'⟩⟩
  there := fun {k h} ⟨a, b, ⟨x, y, c⟩, ⟨o, d, d'⟩⟩ r hr => by
    simp only [List.mem_cons, List.not_mem_nil, or_false] at hr
    rcases hr with rfl | rfl | rfl | rfl
    · exact ⟨_, a⟩
    · exact ⟨_, b⟩
    · exact ⟨_, c⟩
    · exact ⟨_, d⟩
  next := fun {k d h₀ L loc own s E R} hd hp rel ap ho al kk => by
    obtain ⟨hz, hTI, ⟨xa, xb, hTO⟩, h1⟩ := hp
    obtain ⟨x, y, hx, hy, rfl⟩ := pairD_get hd
    obtain ⟨vs, il, r, e'⟩ := list_at ho rel
    obtain ⟨v, hv, vr⟩ := r.get' hx
    obtain ⟨u, hu, ur⟩ := r.get' hy
    refine next_zip1_item D hz hTI hTO h1 il (by simpa using hv) (by simpa using hu) fun h' a1 a2 a3 a5 hk => ?_
    have pp : Pers s.heap h' := fun b ws n nb q => hk b _ (fun w => by subst w; rw [show s.heap.get? b = _ from hz] at q; simp [tupObj] at q) (fun w => nb (w ▸ hT)) (iter_ne h1 q) q
    refine kk _ _ (.tup (vs := [v, u]) (n := 0) (fun w => by obtain ⟨o, q⟩ := al _ w; rw [get_size_none] at q; cases q) a5 (.cons (vr.mono pp) (.cons (ur.mono pp) .nil)))
      ⟨_, rfl, a1, hk _ _ D.TIz D.TITO D.TIi hTI, ⟨_, _, a2⟩, a3⟩ (fun b o n q => hk b o (fun w => n (by simp [w])) (fun w => n (by simp [w])) (fun w => n (by simp [w])) q) pp.st
  stop := fun {h₀ L loc own s E R} hp rel ap ho kk => by
    obtain ⟨hz, hTI, ⟨xa, xb, hTO⟩, h1⟩ := hp
    obtain ⟨vs, il, r, e'⟩ := list_at ho rel
    refine next_zip1_end hh D hz hTI hTO h1 il (by rw [pairD_len hn, ← hn]; simp [e']) fun h' hk => ?_
    have pp : Pers s.heap h' := fun b ws n nb q => hk b _ (fun w => by subst w; rw [show s.heap.get? b = _ from hz] at q; simp [tupObj] at q) (iter_ne h1 q) q
    exact kk _ (fun b o n q => hk b o (fun w => n (by simp [w])) (fun w => n (by simp [w])) q) pp.st
  go := fun {k d v s E R} vr hm kk => by
    obtain ⟨T, rfl, hz, hTI, ⟨xa, xb, hTO⟩, h1⟩ := hm
    refine wpAny_letOwnedTupleGo_zip hz fun h' hz' sb => ?_
    have pp : Pers s.heap h' := fun b ws n _ q => (sb.2 b fun w => by subst w; rw [show s.heap.get? b = _ from hz] at q; simp [tupObj] at q).trans q
    exact kk _ ⟨hz', sb.extBut _ _ D.TIz hTI, ⟨_, _, sb.extBut _ _ D.TOz hTO⟩, h1.extBut sb.extBut D.iz⟩ (fun b o n q => (sb.2 b fun w => n (by simp [w])).trans q) pp.st
theorem itop_zip1 {elts : List PySem.Expr} {kk : Nat} {pos : Pos} {i l : Addr} {ds : List Dv} {n : Nat} {Q : List Dv → (Own → Prop) → Loc → Own → Prop} (hs : ((i, AObj.any (IterO l 0)) :: own').Sublist own) (h1 : HasO l (.list ds) own') (hn : ds.length = 2 * n)
    (q : Q (pairD ds) (fun own => HasO l (.list ds) own) loc own') : ItOp Γ loc own (.Tuple elts kk pos) (.type "zip") [.raw (.ref i), .raw (.ref i)] Q := by
  intro h₀ s vs g rel vr
  cases vr with
  | cons v1 v2 =>
    cases v2 with
    | cons v2 v3 =>
      cases v3; cases v1; cases v2
      have rel1 := rel.sub hs
      obtain ⟨oi, hoi, ⟨hic, hid⟩, _⟩ := rel1.ow.at_ _ (.head _)
      have hI : s.heap.IsListIter i l 0 := ⟨oi, hoi, hic, hid⟩
      have i0 : h₀.get? i = none := rel1.ow.off _ (.head _)
      have iL : i ≠ Γ.env.locals := fun w => rel1.lc.off _ (.head _) w
      have nd := rel1.ow.nd
      have rel2 := rel1.sub (List.sublist_cons_self _ _)
      obtain ⟨vs, il, r, e'⟩ := list_at h1 rel2
      refine call_zip1 hI fun h' a1 a2 a3 ex => ?_
      refine wpAny_pyIter_zip a1 ?_
      have ltl : @LT.lt Nat _ l s.heap.objs.size := by obtain ⟨o, ho, _⟩ := il; exact Heap.lt_size ho
      have lti : @LT.lt Nat _ i s.heap.objs.size := Heap.lt_size hoi
      have nli : l ≠ i := fun w => by
        have := (List.nodup_cons.mp (show ((i, AObj.any (IterO l 0)) :: own' |>.map (·.1)).Nodup from nd)).1
        exact this (List.mem_map.mpr ⟨_, h1.mem, w⟩)
      have none_of : ∀ j : Nat, s.heap.get? (s.heap.objs.size + j) = none := fun j => by
        cases q : s.heap.get? (s.heap.objs.size + j) with
        | none => rfl
        | some o => exact absurd (Heap.lt_size q) (Nat.not_lt.mpr (Nat.le_add_right _ _))
      generalize hN : s.heap.objs.size = N at *
      have D : Zip1 (N + 2) N (N + 1) i l := ⟨addr_ne (by omega), addr_ne (by omega), addr_ne (by omega), addr_ne (by omega), addr_ne (by omega), addr_ne (by omega), addr_ne (by omega), addr_ne (by omega), nli⟩
      have nF : ∀ x ∈ [N + 2, N, N + 1], s.heap.get? x = none := fun x hx => by
        simp only [List.mem_cons, List.not_mem_nil, or_false] at hx
        rcases hx with rfl | rfl | rfl
        · exact none_of 2
        · exact none_of 0
        · exact none_of 1
      have mo : More ⟨aI⟩ ⟨⟨fun _ a => Hid a ∨ a = N + 1⟩⟩ [N + 2, N, N + 1, i] s.heap := ⟨fun a z => .inl z, fun a z => by
        rcases z with z | z
        · exact .inl z
        · refine .inr ⟨z ▸ by simp, fun vs k e => ?_⟩
          rw [z, none_of 1] at e; cases e⟩
      have ext : Ext s.heap h' := ex
      have rJ := Rel.move mo.up rel2
      refine ⟨⟨⟨fun _ a => Hid a ∨ a = N + 1⟩⟩, [N + 2, N, N + 1, i], pairD ds, _, _, _, loc, own', mo, (Ext.pers ext).st, @Rel.ext (Hd.i _) _ _ _ _ _ _ rJ ext, ⟨fun x hx => ?_, fun x hx w => ?_, fun x hx p hp w => ?_⟩,
        @src_zip1 (Hd.i _) Γ Γ.hh elts kk pos _ _ _ _ _ ds n D (.inr rfl) hn, ⟨a1, a2, ⟨_, _, a3⟩, ⟨oi, ex _ _ hoi, hic, hid⟩⟩, fun hp rr => wpAny_pyIter_zip hp.1 rr, h1, q⟩
      · rcases List.mem_append.mp (show x ∈ [N + 2, N, N + 1] ++ [i] from hx) with hx | hx
        · exact rel.ow.keep.none (nF x hx)
        · rw [List.mem_singleton.mp hx]; exact i0
      · rcases List.mem_append.mp (show x ∈ [N + 2, N, N + 1] ++ [i] from hx) with hx | hx
        · obtain ⟨m, ⟨o, _, _, q, _⟩, _⟩ := rel.lc.ns
          rw [← w, nF x hx] at q; cases q
        · exact iL (by rw [← List.mem_singleton.mp hx, w])
      · rcases List.mem_append.mp (show x ∈ [N + 2, N, N + 1] ++ [i] from hx) with hx | hx
        · obtain ⟨o, q, _⟩ := (rel2.ow.at_ p hp).some
          rw [w, nF x hx] at q; cases q
        · have := (List.nodup_cons.mp (show ((i, AObj.any (IterO l 0)) :: own' |>.map (·.1)).Nodup from nd)).1
          exact this (List.mem_map.mpr ⟨p, hp, w.trans (List.mem_singleton.mp hx)⟩)
end
end Mine

end
section
open PySem PySem.W PySem.Builtin PySem.Builtin.ObjectAttr
open PyProof.Rows hiding wpAt wpAt_bind
set_option linter.unusedSectionVars false
set_option maxRecDepth 100000
set_option maxHeartbeats 1000000
set_option linter.unusedVariables false
namespace Mine
variable [aI : Membership Nat Unit]
section
variable {prog : Program} {w : World} {A : Around} {E : Value → Shared → Prop} {s : Shared} {a : Addr}
theorem list_setslice {sl b : Addr} {vs ws : List Value} {n m : Nat} {vl vu vt : Value} {lo hi : Option Int} {R : Unit → Shared → Prop} (hx : s.heap.get? a = some (lstObj vs n)) (hb : s.heap.get? b = some (lstObj ws m)) (hab : a ≠ b) (hl : vs.length ≤ 1000000) (hw : ws.length ≤ 1000000)
    (hs : s.heap.get? sl = some { cls := .type "slice", data := .fields #[vl, vu, vt] }) (pl : IsPart vl lo) (pu : IsPart vu hi) (pt : IsPart vt none)
    (k : R () { s with heap := s.heap.update a (Obj.mapSeq fun xs => xs.extract 0 (sliceBounds lo hi none vs.length).1.toNat ++ ws.toArray ++ xs.extract (max (sliceBounds lo hi none vs.length).1 (sliceBounds lo hi none vs.length).2.1).toNat xs.size) }) :
    wpAny (model prog w) A (setItem (.ref a) (.ref sl) (.ref b)) R E s := by
  have hL : s.heap.IsList a vs.toArray := ⟨_, hx, rfl, n, rfl⟩
  unfold setItem
  try with_reducible refine wpAny_holding ?_
  first | refine wpAny_bind (wpAny_pure ?_) | skip
  refine wpAny_bind (wpAny_sequenceKey hL.typeIs (by decide) ?_)
  refine wpAny_bind (wpAny_callSpecial?_slot (name := Str.ofString "__setitem__") hL.typeIs slot_list_setitem
    (wpAny_call_entry slot_list_setitem hL.typeIs entry_list_setitem ?_ (args_list_setitem _ _ _)))
  show wpAny _ _ (Builtin.List.listSubscript? (.ref sl) >>= _) _ _ s
  refine wpAny_bind (slice_sub hs ?_)
  show wpAny _ _ (typeOf (.ref sl) >>= _) _ _ s
  refine wpAny_bind (wpAny_typeOf (T := "slice") ⟨_, hs, rfl⟩ ?_)
  rw [if_neg (by decide)]
  refine wpAny_bind (slice_parts hs pl pu pt (by simp) ?_)
  have hsr : Builtin.List.listSameRef (.ref a) (.ref b) = false := by simp [Builtin.List.listSameRef, hab]
  simp only [hsr, Bool.false_eq_true, if_false]
  refine wpAny_bind (m := Builtin.List.listAllItems (.ref b) _) ?_
  unfold Builtin.List.listAllItems
  refine wpAny_bind (wpAny_typeOf (T := "list") ⟨_, hb, rfl⟩ ?_)
  rw [if_pos (by rfl)]
  unfold Builtin.List.listItems
  refine wpAny_bind (wpAny_seqItems hb rfl (wpAny_pure ?_))
  refine wpAny_bind (wpAny_bind (wpAny_seqItems hx rfl (wpAny_pure ?_)))
  refine wpAny_bind (wpAny_of_eq (sliceIndices_raw lo hi none vs.toArray.size (by simp)) ?_)
  have hb3 : (sliceBounds lo hi none vs.toArray.size).2.2 = 1 := rfl
  have htl : Builtin.List.listTooLong (vs.toArray.size + ws.toArray.size) = false := by
    unfold Builtin.List.listTooLong
    simp only [List.size_toArray]
    exact decide_eq_false (by unfold sizeLine; omega)
  simp only [hb3, beq_self_eq_true, if_true]
  refine wpAny_bind (wpAny_rule ?_)
  simp only [htl, Bool.false_eq_true, if_false]
  refine wpAny_bind (m := Builtin.List.listUpdate (.ref a) _) ?_
  unfold Builtin.List.listUpdate
  refine wpAny_updateSeq hx rfl ?_ (by rw [List.size_toArray]; exact Nat.le_trans hl (by decide)) (by simp; exact set_size hl hw)
  refine wpAny_bind (wpAny_letGo (wpAny_pure ?_))
  simp only [List.size_toArray]
  first
    | exact wpAny_bind (wpAny_pure (wpAny_pure ⟨.none, rfl, wpAny_pure k⟩))
    | exact wpAny_pure ⟨.none, rfl, wpAny_pure k⟩
    | exact ⟨.none, rfl, wpAny_pure k⟩
end
section
variable {Γ : Fm} {loc : Loc} {own own' : Own} {Q : QV} {QQ : QF}
inductive SlcToL (Γ : Fm) (d : Dv) (R : Own → Prop) (v i : Dv) (own : Own) : Prop
  | mk (a b sl : Addr) (ds es : List Dv) (l u : Dv) (lo hi : Option Int) (own' : Own) : v = .raw (.ref a) → i = .raw (.ref sl) → d = .raw (.ref b) → HasO sl (.slc l u .none) own → PartD l lo → PartD u hi → HasO b (.list es) own → ((own.map (·.1)).Nodup → a ≠ b) →
      ds.length ≤ 1000000 → es.length ≤ 1000000 → Upd a (.list ds) (.list (putS ds lo hi es)) own own' → R own' → SlcToL Γ d R v i own
theorem as_slice_list {o : PySem.Expr} {lo' hi' : Option PySem.Expr} {p pos : Pos} {d : Dv} {Q : Loc → Own → Prop}
    (x : Ev Γ loc own o fun v loc own => Ev Γ loc own (.Slice lo' hi' none p) fun i loc own => SlcToL Γ d (Q loc) v i own) : As Γ loc own (.Subscript o (.Slice lo' hi' none p) pos) d Q := by
  intro h₀ s v g rel vr
  rw [arm_assign_Subscript]
  refine wpAny_bind (wpAny_holding (x.use g rel fun ov _ _ s1 vo p1 r1 v1 q1 => wpAny_bind (wpAny_holding (q1.use g r1 fun iv loc own s2 vi p2 r2 v2 ⟨a, b, sl, ds, es, l, u, lo, hi, own', e1, e2, e3, hsl, pl, pu, hb, hab, hl, he, up, q⟩ => ?_))))
  subst e1 e2 e3
  cases v1; cases v2; cases vr
  refine wpAny_bind (wpAny_standAt (wpAny_bind (wpAny_holding ?_)))
  obtain ⟨vs, n, ho, r⟩ := r2.ow.at_ _ up.mem
  obtain ⟨ws, m, hob, rb⟩ := r2.ow.at_ _ hb.mem
  obtain ⟨vl, vu, vt, os, k1, k2, k3⟩ := r2.ow.at_ _ hsl.mem
  have hln : vs.length = ds.length := r.length
  have hab := hab r2.ow.nd
  refine list_setslice ho hob hab (by omega) (by rw [rb.length]; omega) os (pl.is k1) (pu.is k2) (PartD.none.is k3) ?_
  have hres := seq_upd (K := Γ.K) (ws := vs.take (sliceBounds lo hi none vs.length).1.toNat ++ ws ++ vs.drop (max (sliceBounds lo hi none vs.length).1 (sliceBounds lo hi none vs.length).2.1).toNat)
    (f := fun xs => xs.extract 0 (sliceBounds lo hi none vs.length).1.toNat ++ ws.toArray ++ xs.extract (max (sliceBounds lo hi none vs.length).1 (sliceBounds lo hi none vs.length).2.1).toNat xs.size) r2 up .list ho rfl (by intro _ _ z; simp [tupObj] at z)
    (by
      apply Array.ext'
      simp [List.extract_eq_take_drop]
      rw [List.take_of_length_le (by simp)])
    (by
      unfold putS
      rw [hln]
      exact ((r.take _).append rb).append (r.drop _))
    (fun h' ws k es e z ds' v => ⟨es, k, by rw [e, z], v⟩)
  exact wpAny_release ⟨_, _, (p1.trans p2).trans hres.1.st, hres.2, q⟩
theorem putS_front (ds es : List Dv) : putS ds none (some 0) es = es ++ ds := by
  have h : (sliceBounds none (some 0) none ds.length) = (0, 0, 1) := by
    unfold sliceBounds
    simp
    omega
  unfold putS
  rw [h]
  simp
end
end Mine

end
section
open PySem PySem.W PySem.Builtin PySem.Builtin.ObjectAttr
open PyProof.Rows hiding wpAt wpAt_bind
set_option linter.unusedSectionVars false
set_option maxRecDepth 100000
set_option maxHeartbeats 1000000
set_option linter.unusedVariables false
namespace Mine
variable [aI : Membership Nat Unit]
noncomputable def S (l : List Nat) : Str := ⟨l.toArray⟩
theorem S_nil : S [] = ⟨#[]⟩ := rfl
theorem S_app (a b : List Nat) : S (a ++ b) = S a ++ S b := str_ext (by rw [append_cps]; simp [S])
theorem S_len (a : List Nat) : (S a).length = a.length := by show a.toArray.size = _; simp
theorem S_cps (x : Str) : S x.cps.toList = x := by cases x; rfl
theorem S_inj {a b : List Nat} (h : S a = S b) : a = b := by
  have := congrArg (fun x : Str => x.cps.toList) h
  simpa [S] using this
theorem S_ne {a : List Nat} (h : a ≠ []) : S a ≠ ("" : Str) := fun e => h (S_inj (b := []) e)
theorem sl_S (l : List Nat) (a b : Nat) : sl l a b = S ((l.take b).drop a) := by
  unfold sl S
  rw [List.extract_toArray]
  simp [List.extract_eq_take_drop, List.drop_take]
noncomputable def nwb (c : Nat) : Bool := !wsb c
theorem drop_takeWhile (p : Nat → Bool) : ∀ l : List Nat, l.drop (l.takeWhile p).length = l.dropWhile p
  | [] => rfl
  | c :: l => by
    rw [List.takeWhile_cons, List.dropWhile_cons]
    split
    · exact drop_takeWhile p l
    · rfl
theorem take_takeWhile (p : Nat → Bool) : ∀ l : List Nat, l.take (l.takeWhile p).length = l.takeWhile p
  | [] => rfl
  | c :: l => by
    rw [List.takeWhile_cons]
    split
    · show c :: l.take _ = _; rw [take_takeWhile p l]
    · rfl
noncomputable def wsParts : Nat → List Nat → List (List Nat)
  | 0, r => [r]
  | n + 1, r => if (r.dropWhile nwb).takeWhile wsb = [] then [r] else r.takeWhile nwb :: (r.dropWhile nwb).takeWhile wsb :: wsParts n ((r.dropWhile nwb).dropWhile wsb)
theorem parts_eq (l : List Nat) : ∀ (n p : Nat), partsAt l n p = (wsParts n (l.drop p)).map S
  | 0, p => by
    show [sl l p l.length] = [S (l.drop p)]
    rw [sl_S, List.take_of_length_le (Nat.le_refl _)]
  | n + 1, p => by
    have h1 : l.drop (p + nwLen l p) = (l.drop p).dropWhile nwb := by
      rw [← List.drop_drop]
      exact drop_takeWhile nwb (l.drop p)
    have h2 : l.drop (p + nwLen l p + wsLen l (p + nwLen l p)) = ((l.drop p).dropWhile nwb).dropWhile wsb := by
      rw [← h1, ← List.drop_drop]
      exact drop_takeWhile wsb _
    have h3 : wsLen l (p + nwLen l p) = (((l.drop p).dropWhile nwb).takeWhile wsb).length := by rw [← h1]; rfl
    unfold partsAt wsParts
    by_cases h : ((l.drop p).dropWhile nwb).takeWhile wsb = []
    · rw [if_pos h, if_pos (by rw [h3, h]; rfl)]
      show [sl l p l.length] = [S (l.drop p)]
      rw [sl_S, List.take_of_length_le (Nat.le_refl _)]
    · rw [if_neg h, if_neg (by rw [h3]; exact fun z => h (List.eq_nil_of_length_eq_zero z)), parts_eq l n, h2]
      have s1 : sl l p (p + nwLen l p) = S ((l.drop p).takeWhile nwb) := by
        rw [sl_S, List.drop_take, show p + nwLen l p - p = nwLen l p by omega]
        exact congrArg S (take_takeWhile nwb _)
      have s2 : sl l (p + nwLen l p) (p + nwLen l p + wsLen l (p + nwLen l p)) = S (((l.drop p).dropWhile nwb).takeWhile wsb) := by
        rw [sl_S, List.drop_take, show p + nwLen l p + wsLen l (p + nwLen l p) - (p + nwLen l p) = wsLen l (p + nwLen l p) by omega, ← h1]
        exact congrArg S (take_takeWhile wsb _)
      rw [s1, s2]
      rfl
noncomputable def pairW : Nat → List Nat → List (Str × Str)
  | 0, _ => []
  | n + 1, r => if r.takeWhile wsb = [] then [] else (S (r.takeWhile wsb), S ((r.dropWhile wsb).takeWhile nwb)) :: pairW n ((r.dropWhile wsb).dropWhile nwb)
noncomputable def flat2 (ps : List (Str × Str)) : List Str := ps.flatMap fun p => [p.1, p.2]
noncomputable def RunS (r : List Nat) : Prop := r.takeWhile wsb = [] → r = []
theorem runS_drop (r : List Nat) : RunS (r.dropWhile nwb) := by
  induction r with
  | nil => exact fun _ => rfl
  | cons c r ih =>
    rw [List.dropWhile_cons]
    split
    · exact ih
    · rename_i h
      intro e
      rw [List.takeWhile_cons, if_pos (by unfold nwb at h; simpa using h)] at e
      cases e
theorem len_split (p : Nat → Bool) (r : List Nat) : (r.takeWhile p).length + (r.dropWhile p).length = r.length := by
  rw [← List.length_append, List.takeWhile_append_dropWhile]
theorem parts_pairs : ∀ (n : Nat) (r : List Nat), r.length < n → (wsParts n r).map S = S (r.takeWhile nwb) :: flat2 (pairW n (r.dropWhile nwb))
  | 0, r, h => absurd h (Nat.not_lt_zero _)
  | n + 1, r, h => by
    unfold wsParts pairW
    by_cases hw : (r.dropWhile nwb).takeWhile wsb = []
    · rw [if_pos hw, if_pos hw]
      have := runS_drop r hw
      have e : r.takeWhile nwb = r := by
        have := List.takeWhile_append_dropWhile (p := nwb) (l := r)
        rw [runS_drop r hw, List.append_nil] at this
        exact this
      rw [e]; rfl
    · rw [if_neg hw, if_neg hw]
      have l1 := len_split nwb r
      have l2 := len_split wsb (r.dropWhile nwb)
      have l3 : 0 < ((r.dropWhile nwb).takeWhile wsb).length := List.length_pos_iff.mpr hw
      rw [List.map_cons, List.map_cons, parts_pairs n ((r.dropWhile nwb).dropWhile wsb) (by omega)]
      rfl
noncomputable def wordsOf (x : Str) : List (Str × Str) := (if x.cps.toList.takeWhile nwb = [] then [] else [(("" : Str), S (x.cps.toList.takeWhile nwb))]) ++ pairW (2 * x.cps.size + 3) (x.cps.toList.dropWhile nwb)
theorem partsOf_eq (x : Str) : partsOf x = S (x.cps.toList.takeWhile nwb) :: flat2 (pairW (2 * x.cps.size + 3) (x.cps.toList.dropWhile nwb)) := by
  unfold partsOf
  rw [parts_eq, List.drop_zero, parts_pairs _ _ (by rw [Array.length_toList]; omega)]
theorem flat2_len (ps : List (Str × Str)) : (flat2 ps).length = 2 * ps.length := by
  induction ps with
  | nil => rfl
  | cons p ps ih =>
    show (flat2 ps).length + 2 = 2 * (ps.length + 1)
    omega
theorem pairD_flat : ∀ ps : List (Str × Str), pairD ((flat2 ps).map .str) = ps.map dpair
  | [] => rfl
  | p :: ps => by
    show Dv.tup [.str p.1, .str p.2] :: pairD ((flat2 ps).map .str) = dpair p :: ps.map dpair
    rw [pairD_flat ps]; rfl
noncomputable def addW (cs : List (Str × Str)) (c : Nat) : List (Str × Str) :=
  if wsb c then (if (lastP cs).2.length ≠ 0 then cs ++ [(("" : Str) ++ S [c], ("" : Str))] else cs.dropLast ++ [((lastP cs).1 ++ S [c], (lastP cs).2)]) else cs.dropLast ++ [((lastP cs).1, (lastP cs).2 ++ S [c])]
theorem lastP_snoc (a : List (Str × Str)) (q : Str × Str) : lastP (a ++ [q]) = q := by unfold lastP; rw [List.getLast?_concat]; rfl
theorem addW_n {a : List (Str × Str)} {q : Str × Str} {c : Nat} (h : wsb c = false) : addW (a ++ [q]) c = a ++ [(q.1, q.2 ++ S [c])] := by
  unfold addW
  rw [if_neg (by rw [h]; decide), lastP_snoc, List.dropLast_concat]
theorem addW_w0 {a : List (Str × Str)} {q : Str × Str} {c : Nat} (h : wsb c = true) (hq : q.2.length = 0) : addW (a ++ [q]) c = a ++ [(q.1 ++ S [c], q.2)] := by
  unfold addW
  rw [if_pos h, lastP_snoc, if_neg (by omega), List.dropLast_concat]
theorem addW_w1 {a : List (Str × Str)} {q : Str × Str} {c : Nat} (h : wsb c = true) (hq : q.2.length ≠ 0) : addW (a ++ [q]) c = (a ++ [q]) ++ [(S [c], ("" : Str))] := by
  unfold addW
  rw [if_pos h, lastP_snoc, if_pos hq, show ("" : Str) ++ S [c] = S [c] from empty_append _]
theorem fold_n : ∀ (r : List Nat) (a : List (Str × Str)) (q : Str × Str), (∀ c ∈ r, wsb c = false) → r.foldl addW (a ++ [q]) = a ++ [(q.1, q.2 ++ S r)]
  | [], a, q, _ => by show a ++ [q] = _; rw [S_nil, append_empty]
  | c :: r, a, q, h => by
    rw [List.foldl_cons, addW_n (h c (.head _)), fold_n r a _ fun d hd => h d (.tail _ hd)]
    show a ++ [(q.1, q.2 ++ S [c] ++ S r)] = _
    rw [append_assoc, ← S_app]; rfl
theorem fold_w : ∀ (r : List Nat) (a : List (Str × Str)) (q : Str × Str), (∀ c ∈ r, wsb c = true) → q.2.length = 0 → r.foldl addW (a ++ [q]) = a ++ [(q.1 ++ S r, q.2)]
  | [], a, q, _, _ => by show a ++ [q] = _; rw [S_nil, append_empty]
  | c :: r, a, q, h, hq => by
    rw [List.foldl_cons, addW_w0 (h c (.head _)) hq, fold_w r a (q.1 ++ S [c], q.2) (fun d hd => h d (.tail _ hd)) hq]
    show a ++ [(q.1 ++ S [c] ++ S r, q.2)] = _
    rw [append_assoc, ← S_app]; rfl
theorem fold_w1 {r : List Nat} {a : List (Str × Str)} {q : Str × Str} (h : ∀ c ∈ r, wsb c = true) (hr : r ≠ []) (hq : q.2.length ≠ 0) : r.foldl addW (a ++ [q]) = (a ++ [q]) ++ [(S r, ("" : Str))] := by
  cases r with
  | nil => exact absurd rfl hr
  | cons c r =>
    rw [List.foldl_cons, addW_w1 (h c (.head _)) hq, fold_w r (a ++ [q]) _ (fun d hd => h d (.tail _ hd)) rfl]
    show (a ++ [q]) ++ [(S [c] ++ S r, ("" : Str))] = _
    rw [← S_app]; rfl
theorem mem_take {p : Nat → Bool} : ∀ {r : List Nat} {c : Nat}, c ∈ r.takeWhile p → p c = true
  | d :: r, c, h => by
    rw [List.takeWhile_cons] at h
    split at h
    · rcases List.mem_cons.mp h with rfl | h
      · assumption
      · exact mem_take h
    · cases h
theorem nw_false {r : List Nat} : ∀ c ∈ r.takeWhile nwb, wsb c = false := fun c h => by
  have := mem_take h
  unfold nwb at this
  simpa using this
theorem not_after (r : List Nat) : (r.dropWhile wsb).takeWhile nwb = [] → r.dropWhile wsb = [] := by
  induction r with
  | nil => exact fun _ => rfl
  | cons c r ih =>
    rw [List.dropWhile_cons]
    split
    · exact ih
    · rename_i h
      intro e
      rw [List.takeWhile_cons, if_pos (by unfold nwb; simpa using h)] at e
      cases e
theorem fold_pairs : ∀ (n : Nat) (r : List Nat) (a : List (Str × Str)) (q : Str × Str), r.length < n → RunS r → q.2.length ≠ 0 → r.foldl addW (a ++ [q]) = (a ++ [q]) ++ pairW n r
  | 0, r, _, _, h, _, _ => absurd h (Nat.not_lt_zero _)
  | n + 1, r, a, q, h, hs, hq => by
    unfold pairW
    by_cases hw : r.takeWhile wsb = []
    · rw [if_pos hw, hs hw]; simp
    · rw [if_neg hw]
      have l1 := len_split wsb r
      have l2 := len_split nwb (r.dropWhile wsb)
      have l3 : 0 < (r.takeWhile wsb).length := List.length_pos_iff.mpr hw
      have e : r.foldl addW (a ++ [q]) = ((r.dropWhile wsb).dropWhile nwb).foldl addW (((r.dropWhile wsb).takeWhile nwb).foldl addW ((r.takeWhile wsb).foldl addW (a ++ [q]))) := by
        rw [← List.foldl_append, ← List.foldl_append, List.takeWhile_append_dropWhile, List.takeWhile_append_dropWhile]
      rw [e, fold_w1 (fun c hc => mem_take hc) hw hq, fold_n _ _ _ nw_false]
      by_cases hp : (r.dropWhile wsb).takeWhile nwb = []
      · have h0 := not_after r hp
        rw [h0]
        show _ ++ [(S (r.takeWhile wsb), ("" : Str) ++ S [])] = _
        have hz : pairW n [] = [] := by cases n <;> rfl
        rw [show (([] : List Nat).dropWhile nwb) = [] from rfl, hz]
        rfl
      · rw [show (("" : Str) ++ S ((r.dropWhile wsb).takeWhile nwb)) = S ((r.dropWhile wsb).takeWhile nwb) from empty_append _, fold_pairs n _ (a ++ [q]) (S (r.takeWhile wsb), S ((r.dropWhile wsb).takeWhile nwb)) (by omega) (runS_drop _) (by
          show (S _).length ≠ 0
          rw [S_len]; exact fun z => hp (List.eq_nil_of_length_eq_zero z))]
        simp
theorem pairW_ne : ∀ (n : Nat) (r : List Nat), ∀ p ∈ pairW n r, p ≠ nilP
  | 0, r, p, h => by cases h
  | n + 1, r, p, h => by
    unfold pairW at h
    split at h
    · cases h
    · rename_i hw
      rcases List.mem_cons.mp h with rfl | h
      · exact fun e => S_ne hw (congrArg Prod.fst e)
      · exact pairW_ne n _ p h
theorem words_read (x : Str) : ((x.cps.toList.foldl addW [nilP]).filter fun p => decide (p ≠ nilP)) = wordsOf x := by
  unfold wordsOf
  have hsz : x.cps.size = x.cps.toList.length := by simp
  rw [hsz]
  generalize x.cps.toList = l
  have l1 := len_split nwb l
  have hall : ∀ n r, (pairW n r).filter (fun p => decide (p ≠ nilP)) = pairW n r := fun n r => List.filter_eq_self.mpr fun p hp => by simpa using pairW_ne n r p hp
  by_cases hp : l.takeWhile nwb = []
  · rw [if_pos hp, List.nil_append]
    have hd : l.dropWhile nwb = l := by
      have := List.takeWhile_append_dropWhile (p := nwb) (l := l)
      rw [hp] at this; exact this
    have hs : RunS l := by have := runS_drop l; rwa [hd] at this
    rw [hd]
    by_cases hw : l.takeWhile wsb = []
    · have := hs hw
      subst this
      rfl
    · have l2 := len_split wsb l
      have l3 := len_split nwb (l.dropWhile wsb)
      have e : l.foldl addW [nilP] = ((l.dropWhile wsb).dropWhile nwb).foldl addW (((l.dropWhile wsb).takeWhile nwb).foldl addW ((l.takeWhile wsb).foldl addW ([] ++ [nilP]))) := by
        rw [← List.foldl_append, ← List.foldl_append, List.takeWhile_append_dropWhile, List.takeWhile_append_dropWhile]; rfl
      rw [e, fold_w _ _ _ (fun c hc => mem_take hc) rfl, fold_n _ _ _ nw_false]
      unfold pairW
      rw [if_neg hw]
      show ((_ : List Nat).foldl addW ([] ++ [(("" : Str) ++ S (l.takeWhile wsb), ("" : Str) ++ S ((l.dropWhile wsb).takeWhile nwb))])).filter _ = _
      rw [show (("" : Str) ++ S (l.takeWhile wsb)) = S (l.takeWhile wsb) from empty_append _, show (("" : Str) ++ S ((l.dropWhile wsb).takeWhile nwb)) = S ((l.dropWhile wsb).takeWhile nwb) from empty_append _]
      have hne : (S (l.takeWhile wsb), S ((l.dropWhile wsb).takeWhile nwb)) ≠ nilP := fun e => S_ne hw (congrArg Prod.fst e)
      by_cases hq : (l.dropWhile wsb).takeWhile nwb = []
      · rw [not_after l hq]
        have hz : ∀ n, pairW n [] = [] := fun n => by cases n <;> rfl
        rw [show (([] : List Nat).dropWhile nwb) = [] from rfl, hz]
        show List.filter _ [_] = _
        rw [not_after l hq] at hne
        rw [List.filter_cons, if_pos (decide_eq_true hne)]; rfl
      · rw [fold_pairs (2 * l.length + 2) _ [] _ (by omega) (runS_drop _) (by
          show (S _).length ≠ 0
          rw [S_len]; exact fun z => hq (List.eq_nil_of_length_eq_zero z))]
        rw [List.nil_append, List.filter_append, hall, List.filter_cons, if_pos (decide_eq_true hne)]; rfl
  · rw [if_neg hp]
    have e : l.foldl addW [nilP] = (l.dropWhile nwb).foldl addW ((l.takeWhile nwb).foldl addW ([] ++ [nilP])) := by
      rw [← List.foldl_append, List.takeWhile_append_dropWhile]; rfl
    rw [e, fold_n _ _ _ nw_false]
    show ((_ : List Nat).foldl addW ([] ++ [(("" : Str), ("" : Str) ++ S (l.takeWhile nwb))])).filter _ = _
    rw [show (("" : Str) ++ S (l.takeWhile nwb)) = S (l.takeWhile nwb) from empty_append _]
    have hne : (("" : Str), S (l.takeWhile nwb)) ≠ nilP := fun e => S_ne hp (congrArg Prod.snd e)
    rw [fold_pairs (2 * l.length + 3) _ [] _ (by omega) (runS_drop _) (by
      show (S _).length ≠ 0
      rw [S_len]; exact fun z => hp (List.eq_nil_of_length_eq_zero z))]
    rw [List.nil_append, List.filter_append, hall, List.filter_cons, if_pos (decide_eq_true hne)]; rfl
end Mine

end
section
open PySem PySem.W PySem.Builtin PySem.Builtin.ObjectAttr
open PyProof.Rows hiding wpAt wpAt_bind
set_option linter.unusedSectionVars false
set_option maxRecDepth 100000
set_option maxHeartbeats 1000000
set_option linter.unusedVariables false
namespace Mine
variable [aI : Membership Nat Unit]
noncomputable def HeadW (a : Str) : Prop := ∃ c r, a.cps.toList = c :: r ∧ wsb c = true
theorem headW_run {r : List Nat} (h : r.takeWhile wsb ≠ []) : HeadW (S (r.takeWhile wsb)) := by
  cases e : r.takeWhile wsb with
  | nil => exact absurd e h
  | cons c t => exact ⟨c, t, rfl, mem_take (r := r) (by rw [e]; exact .head _)⟩
theorem HeadW.ne {a : Str} (h : HeadW a) : a.length ≠ 0 := by
  obtain ⟨c, r, e, _⟩ := h
  rw [len_list, e]
  exact Nat.succ_ne_zero _
theorem HeadW.app {a : Str} (h : HeadW a) (b : Str) : HeadW (a ++ b) := by
  obtain ⟨c, r, e, hc⟩ := h
  exact ⟨c, r ++ b.cps.toList, by rw [append_cps, Array.toList_append, e]; rfl, hc⟩
theorem txt_cons (p : Str × Str) (ps : List (Str × Str)) : txt (p :: ps) = p.1 ++ p.2 ++ txt ps := rfl
theorem pairW_txt : ∀ (n : Nat) (r : List Nat), r.length < n → RunS r → txt (pairW n r) = S r
  | 0, r, h, _ => absurd h (Nat.not_lt_zero _)
  | n + 1, r, h, hs => by
    unfold pairW
    by_cases hw : r.takeWhile wsb = []
    · rw [if_pos hw, hs hw]; rfl
    · have l1 := len_split wsb r
      have l2 := len_split nwb (r.dropWhile wsb)
      have l3 : 0 < (r.takeWhile wsb).length := List.length_pos_iff.mpr hw
      rw [if_neg hw, txt_cons, pairW_txt n _ (by omega) (runS_drop _)]
      show S _ ++ S _ ++ S _ = _
      rw [← S_app, ← S_app, List.append_assoc, List.takeWhile_append_dropWhile, List.takeWhile_append_dropWhile]
theorem pairW_nil (n : Nat) : pairW n [] = [] := by cases n <;> rfl
theorem pairW_count : ∀ (n : Nat) (r : List Nat), r.length < n → 2 * (pairW n r).length ≤ r.length + 1
  | 0, r, h => absurd h (Nat.not_lt_zero _)
  | n + 1, r, h => by
    unfold pairW
    by_cases hw : r.takeWhile wsb = []
    · rw [if_pos hw]; exact Nat.zero_le _
    · have l1 := len_split wsb r
      have l2 := len_split nwb (r.dropWhile wsb)
      have l3 : 0 < (r.takeWhile wsb).length := List.length_pos_iff.mpr hw
      rw [if_neg hw, List.length_cons]
      by_cases hp : (r.dropWhile wsb).takeWhile nwb = []
      · rw [not_after r hp]
        show 2 * ((pairW n []).length + 1) ≤ _
        rw [pairW_nil]
        show 2 ≤ _
        omega
      · have l4 : 0 < ((r.dropWhile wsb).takeWhile nwb).length := List.length_pos_iff.mpr hp
        have := pairW_count n ((r.dropWhile wsb).dropWhile nwb) (by omega)
        omega
theorem pairW_at : ∀ (n : Nat) (r : List Nat) (i : Nat) (p : Str × Str), (pairW n r)[i]? = some p → (HeadW p.1 ∧ (i + 1 < (pairW n r).length → p.2.length ≠ 0)) ∧ p.1.length ≤ r.length ∧ p.2.length ≤ r.length
  | 0, r, i, p, h => by simp [pairW] at h
  | n + 1, r, i, p, h => by
    unfold pairW at h ⊢
    by_cases hw : r.takeWhile wsb = []
    · rw [if_pos hw] at h; simp at h
    · rw [if_neg hw] at h ⊢
      have l1 := len_split wsb r
      have l2 := len_split nwb (r.dropWhile wsb)
      cases i with
      | zero =>
        have h : _ = p := Option.some.inj h
        subst h
        refine ⟨⟨headW_run hw, fun hl => ?_⟩, by show (S _).length ≤ _; rw [S_len]; omega, by show (S _).length ≤ _; rw [S_len]; omega⟩
        show (S _).length ≠ 0
        rw [S_len]
        intro z
        rw [not_after r (List.eq_nil_of_length_eq_zero z)] at hl
        rw [show (([] : List Nat).dropWhile nwb) = [] from rfl, pairW_nil] at hl
        simp at hl
      | succ i =>
        obtain ⟨⟨a, b⟩, c, d⟩ := pairW_at n _ i p h
        exact ⟨⟨a, fun hl => b (by rw [List.length_cons] at hl; omega)⟩, by omega, by omega⟩
theorem word_fuel (x : Str) : (x.cps.toList.dropWhile nwb).length < 2 * x.cps.size + 3 ∧ (x.cps.toList.takeWhile nwb).length + (x.cps.toList.dropWhile nwb).length = x.length := by
  have l1 := len_split nwb x.cps.toList
  have l2 : x.cps.toList.length = x.cps.size := by simp
  have l3 : x.length = x.cps.size := rfl
  omega
theorem words_txt (x : Str) : txt (wordsOf x) = x := by
  obtain ⟨f, _⟩ := word_fuel x
  unfold wordsOf
  rw [txt_append, pairW_txt _ _ f (runS_drop _)]
  have e : S (x.cps.toList.takeWhile nwb) ++ S (x.cps.toList.dropWhile nwb) = x := by rw [← S_app, List.takeWhile_append_dropWhile, S_cps]
  split
  · rename_i h
    rw [h] at e
    exact e
  · rw [txt_one]
    show ("" : Str) ++ S _ ++ S _ = x
    rw [show (("" : Str) ++ S (x.cps.toList.takeWhile nwb)) = S (x.cps.toList.takeWhile nwb) from empty_append _]
    exact e
theorem words_count (x : Str) : 2 * (wordsOf x).length ≤ x.length + 2 := by
  obtain ⟨f, g⟩ := word_fuel x
  have h := pairW_count _ _ f
  unfold wordsOf
  rw [List.length_append]
  split
  · show 2 * (0 + _) ≤ _
    omega
  · rename_i h1
    have : 0 < (x.cps.toList.takeWhile nwb).length := List.length_pos_iff.mpr h1
    show 2 * (1 + _) ≤ _
    omega
theorem words_at {x : Str} {i : Nat} {p : Str × Str} (h : (wordsOf x)[i]? = some p) :
    ((i = 0 ∧ p.1 = ("" : Str) ∧ p.2.length ≠ 0) ∨ (HeadW p.1 ∧ (i + 1 < (wordsOf x).length → p.2.length ≠ 0))) ∧ p.1.length ≤ x.length ∧ p.2.length ≤ x.length := by
  obtain ⟨f, g⟩ := word_fuel x
  unfold wordsOf at h ⊢
  split at h
  · rename_i h1
    rw [if_pos h1]
    obtain ⟨⟨a, b⟩, c, d⟩ := pairW_at _ _ _ _ h
    exact ⟨.inr ⟨a, b⟩, by omega, by omega⟩
  · rename_i h1
    rw [if_neg h1]
    cases i with
    | zero =>
      have h : _ = p := Option.some.inj h
      subst h
      refine ⟨.inl ⟨rfl, rfl, ?_⟩, Nat.zero_le _, by show (S _).length ≤ _; rw [S_len]; omega⟩
      show (S _).length ≠ 0
      rw [S_len]; exact fun z => h1 (List.eq_nil_of_length_eq_zero z)
    | succ i =>
      obtain ⟨⟨a, b⟩, c, d⟩ := pairW_at _ _ i _ h
      exact ⟨.inr ⟨a, fun hl => b (by rw [List.length_append] at hl; have hl : i + 1 + 1 < 1 + _ := hl; omega)⟩, by omega, by omega⟩
end Mine

end
section
open PySem PySem.W PySem.Builtin PySem.Builtin.ObjectAttr
open PyProof.Rows hiding wpAt wpAt_bind
set_option linter.unusedSectionVars false
set_option maxRecDepth 100000
set_option maxHeartbeats 1000000
set_option linter.unusedVariables false
namespace Mine
variable [aI : Membership Nat Unit]
noncomputable def preW (wd head : Int) : List (Str × Str) → Str
  | [] => ("" : Str)
  | p :: _ => if p.1.length = 0 ∧ 0 < head ∧ wd < head + p.2.length then (" " : Str) else ("" : Str)
noncomputable def WordL (W : List (Str × Str)) : Prop := ∀ i p, W[i]? = some p → (i = 0 ∧ p.1 = ("" : Str) ∧ p.2.length ≠ 0) ∨ (HeadW p.1 ∧ (i + 1 < W.length → p.2.length ≠ 0))
structure InvW (wd head : Int) (W : List (Str × Str)) (k : Nat) (s : FS) : Prop where
  whole : cat s.rows ++ txt s.ps = (if k = 0 then (⟨#[]⟩ : Str) else preW wd head W) ++ txt (W.take k)
  zero : k = 0 → s = ⟨[], head, []⟩
  last : ∀ p, 1 ≤ k → W[k - 1]? = some p → s.ps ≠ [] ∧ (lastP s.ps = p ∨ (p.1 = ("" : Str) ∧ lastP s.ps = ((" " : Str), p.2)))
  n : 0 < s.n → s.rows = []
  rows : ∀ r ∈ s.rows.tail, HeadW r
  all : s.rows ≠ [] → ∀ q ∈ s.ps, HeadW q.1
  tail : ∀ q ∈ s.ps.tail, HeadW q.1
theorem headW_sp : HeadW (" " : Str) := ⟨32, [], by kernel_rfl, rfl⟩
theorem invW0 {wd head : Int} {W : List (Str × Str)} : InvW wd head W 0 ⟨[], head, []⟩ :=
  ⟨by rw [if_pos rfl]; kernel_rfl, fun _ => rfl, fun p h => absurd h (by decide), fun _ => rfl, (fun r h => by cases h), (fun h => absurd rfl h), (fun q h => by cases h)⟩
theorem len0_e {a : Str} (h : a.length = 0) : a = ("" : Str) := str_list (List.eq_nil_of_length_eq_zero (by rw [← len_list]; exact h))
theorem pre_e {wd head : Int} {W : List (Str × Str)} {p : Str × Str} (h : W[0]? = some p) (hn : ¬(p.1.length = 0 ∧ 0 < head ∧ wd < head + p.2.length)) : preW wd head W = ⟨#[]⟩ := by
  cases W with
  | nil => rfl
  | cons q W =>
    have : q = p := by simpa using h
    subst this
    show (if q.1.length = 0 ∧ 0 < head ∧ wd < head + q.2.length then (" " : Str) else ("" : Str)) = _
    rw [if_neg hn]; rfl
theorem take_snoc {W : List (Str × Str)} {k : Nat} {p : Str × Str} (h : W[k]? = some p) : txt (W.take (k + 1)) = txt (W.take k) ++ (p.1 ++ p.2) := by
  rw [List.take_add_one, h]
  show txt (W.take k ++ [p]) = _
  rw [txt_append, txt_one]
theorem InvW.headP {wd head : Int} {W : List (Str × Str)} {k : Nat} {s : FS} {p : Str × Str} (h : InvW wd head W k s) (hw : WordL W) (hp : W[k]? = some p) (hk : k ≠ 0) : HeadW p.1 := by
  rcases hw k p hp with ⟨h0, _⟩ | ⟨h1, _⟩
  · exact absurd h0 hk
  · exact h1
theorem InvW.push {wd head : Int} {W : List (Str × Str)} {k : Nat} {s : FS} {p : Str × Str} (h : InvW wd head W k s) (hw : WordL W) (hp : W[k]? = some p) (h0 : k = 0 → ¬(p.1.length = 0 ∧ 0 < head ∧ wd < head + p.2.length)) : InvW wd head W (k + 1) ⟨s.rows, s.n, s.ps ++ [p]⟩ := by
  refine ⟨?_, fun e => absurd e (Nat.succ_ne_zero k), fun q _ hq => ?_, h.n, h.rows, fun hr q hq => ?_, fun q hq => ?_⟩
  · show cat s.rows ++ txt (s.ps ++ [p]) = _
    rw [txt_append, txt_one, ← append_assoc, h.whole, take_snoc hp, append_assoc, if_neg (Nat.succ_ne_zero k)]
    by_cases hk : k = 0
    · rw [if_pos hk]
      subst hk
      rw [pre_e hp (h0 rfl)]
    · rw [if_neg hk]
  · have : W[k]? = some q := hq
    rw [hp] at this
    cases this
    exact ⟨by simp, .inl (lastP_snoc _ _)⟩
  · rcases List.mem_append.mp hq with hq | hq
    · exact h.all hr q hq
    · rw [List.mem_singleton.mp hq]
      exact h.headP hw hp fun e => hr (by rw [h.zero e])
  · cases hs : s.ps with
    | nil => rw [hs] at hq; cases hq
    | cons a r =>
      rw [hs] at hq
      rcases List.mem_append.mp (show q ∈ r ++ [p] from hq) with hq | hq
      · exact h.tail q (by rw [hs]; exact hq)
      · rw [List.mem_singleton.mp hq]
        refine h.headP hw hp fun e => ?_
        have := h.zero e
        rw [this] at hs
        cases hs
theorem InvW.notOne {wd head : Int} {W : List (Str × Str)} {k : Nat} {s : FS} (h : InvW wd head W k s) (hw : WordL W) (hk : k < W.length) : lastP s.ps ≠ oneSp := by
  by_cases h0 : k = 0
  · rw [h.zero h0]
    show lastP [] ≠ _
    rw [lastP_nil]; decide +kernel
  · have hq : W[k - 1]? = some (W[k - 1]'(by omega)) := List.getElem?_eq_getElem _
    have hne : (W[k - 1]'(by omega)).2.length ≠ 0 := by
      rcases hw _ _ hq with ⟨_, _, z⟩ | ⟨_, z⟩
      · exact z
      · exact z (by omega)
    intro e
    rcases (h.last _ (by omega) hq).2 with z | ⟨_, z⟩
    · rw [e] at z
      rw [← z] at hne
      exact hne rfl
    · rw [e] at z
      have : (W[k - 1]'(by omega)).2 = ("" : Str) := (congrArg Prod.snd z).symm
      rw [this] at hne
      exact hne rfl
theorem InvW.add {wd head : Int} {W : List (Str × Str)} {k : Nat} {s : FS} {p : Str × Str} {sg : Str} (h : InvW wd head W k s) (hw : WordL W) (hp : W[k]? = some p) : InvW wd head W (k + 1) (s.add wd sg p) := by
  have hkl : k < W.length := (List.getElem?_eq_some_iff.mp hp).1
  unfold FS.add
  by_cases hf : s.n + signs (s.ps ++ [p]) ≤ wd
  · rw [if_pos hf]
    refine h.push hw hp fun e => ?_
    have e' := h.zero e
    rw [e'] at hf
    have hf : head + signs [p] ≤ wd := hf
    rw [signs_one] at hf
    rintro ⟨a, b, c⟩
    omega
  · rw [if_neg hf]
    cases hpl : placeOf (s.ps ++ [p]) sg.cps.toList with
    | some i =>
      obtain ⟨i1, i2⟩ := placeOf_le hpl
      have i3 : i ≤ s.ps.length := by simpa using i2
      have hk : k ≠ 0 := fun e => by rw [h.zero e] at i3; simp at i3; omega
      have hd : (s.ps ++ [p]).drop i = s.ps.drop i ++ [p] := by rw [List.drop_append_of_le_length i3]
      refine ⟨?_, fun e => absurd e (Nat.succ_ne_zero k), fun q _ hq => ?_, fun e => absurd (show (0 : Int) < 0 from e) (by decide), fun r hr => ?_, fun _ q hq => ?_, fun q hq => ?_⟩
      · show cat (s.rows ++ [txt ((s.ps ++ [p]).take i)]) ++ txt ((s.ps ++ [p]).drop i) = _
        have e1 : cat [txt ((s.ps ++ [p]).take i)] = txt ((s.ps ++ [p]).take i) := append_empty _
        rw [cat_append, e1, append_assoc, ← txt_append, List.take_append_drop, txt_append, txt_one, ← append_assoc, h.whole, take_snoc hp, append_assoc, if_neg (Nat.succ_ne_zero k), if_neg hk]
      · have : W[k]? = some q := hq
        rw [hp] at this
        cases this
        show (s.ps ++ [p]).drop i ≠ [] ∧ (lastP ((s.ps ++ [p]).drop i) = p ∨ _)
        rw [hd]
        exact ⟨by simp, .inl (lastP_snoc _ _)⟩
      · have hr : r ∈ (s.rows ++ [txt ((s.ps ++ [p]).take i)]).tail := hr
        cases hrw : s.rows with
        | nil => rw [hrw] at hr; cases hr
        | cons a t =>
          rw [hrw] at hr
          rcases List.mem_append.mp (show r ∈ t ++ [txt ((s.ps ++ [p]).take i)] from hr) with hr | hr
          · exact h.rows r (by rw [hrw]; exact hr)
          · rw [List.mem_singleton.mp hr]
            cases hps : s.ps with
            | nil => rw [hps] at i3; simp at i3; omega
            | cons q0 t0 =>
              obtain ⟨j, rfl⟩ : ∃ j, i = j + 1 := ⟨i - 1, by omega⟩
              show HeadW (txt (q0 :: List.take j (t0 ++ [p])))
              rw [txt_cons, append_assoc]
              exact (h.all (by rw [hrw]; simp) q0 (by rw [hps]; exact .head _)).app _
      · have hq : q ∈ (s.ps ++ [p]).drop i := hq
        rw [hd] at hq
        rcases List.mem_append.mp hq with hq | hq
        · refine h.tail q ?_
          obtain ⟨j, rfl⟩ : ∃ j, i = j + 1 := ⟨i - 1, by omega⟩
          rw [← List.drop_one]
          rw [Nat.add_comm, ← List.drop_drop] at hq
          exact List.mem_of_mem_drop hq
        · rw [List.mem_singleton.mp hq]
          exact h.headP hw hp hk
      · have hq : q ∈ ((s.ps ++ [p]).drop i).tail := hq
        have hq := List.mem_of_mem_tail hq
        rw [hd] at hq
        rcases List.mem_append.mp hq with hq | hq
        · refine h.tail q ?_
          obtain ⟨j, rfl⟩ : ∃ j, i = j + 1 := ⟨i - 1, by omega⟩
          rw [← List.drop_one]
          rw [Nat.add_comm, ← List.drop_drop] at hq
          exact List.mem_of_mem_drop hq
        · rw [List.mem_singleton.mp hq]
          exact h.headP hw hp hk
    | none =>
      by_cases hn : 0 < s.n
      · show InvW _ _ _ _ (if 0 < s.n then _ else _)
        rw [if_pos hn]
        have hr := h.n hn
        have hz := signs_nn' (midP s.ps)
        have hnl : nlRows s.rows s.n (midP s.ps) = [txt (midP s.ps)] := by
          rw [nl_app (by omega) (by rintro ⟨z, _⟩; omega), hr]; rfl
        have hmid : txt (midP s.ps) = txt s.ps := by
          rcases mid_txt s.ps with z | ⟨z, _⟩
          · exact z
          · exact absurd z (h.notOne hw hkl)
        have hcat := h.whole
        rw [hr] at hcat
        have hcat : txt s.ps = _ := (empty_append _).symm.trans hcat
        have hpp : p.1.length = 0 → k = 0 := fun e => by
          by_cases hk : k = 0
          · exact hk
          · exact absurd e (h.headP hw hp hk).ne
        refine ⟨?_, fun e => absurd e (Nat.succ_ne_zero k), fun q _ hq => ?_, fun e => absurd (show (0 : Int) < 0 from e) (by decide), fun r hr => ?_, fun _ q hq => ?_, (fun q hq => by cases hq)⟩
        · show cat (nlRows s.rows s.n (midP s.ps)) ++ txt [(if p.1.length = 0 then (" " : Str) else p.1, p.2)] = _
          rw [hnl, txt_one, take_snoc hp, if_neg (Nat.succ_ne_zero k)]
          have e1 : cat [txt (midP s.ps)] = txt (midP s.ps) := append_empty _
          rw [e1, hmid, hcat]
          by_cases hk : k = 0
          · subst hk
            have e' := h.zero rfl
            rw [e'] at hf hn
            have hf : ¬ head + signs [p] ≤ wd := hf
            have hn : 0 < head := hn
            rw [signs_one] at hf
            rw [if_pos rfl, List.take_zero]
            show (⟨#[]⟩ : Str) ++ (⟨#[]⟩ : Str) ++ _ = _ ++ ((⟨#[]⟩ : Str) ++ _)
            rw [empty_append, empty_append, empty_append]
            by_cases hl : p.1.length = 0
            · have hpre : preW wd head W = (" " : Str) := by
                cases W with
                | nil => cases hp
                | cons q W =>
                  have : q = p := by simpa using hp
                  subst this
                  show (if q.1.length = 0 ∧ 0 < head ∧ wd < head + q.2.length then (" " : Str) else ("" : Str)) = _
                  rw [if_pos ⟨hl, hn, by omega⟩]
              rw [if_pos hl, hpre, len0_e hl, show ("" : Str) ++ p.2 = p.2 from empty_append _]
            · rw [if_neg hl, pre_e hp (fun z => hl z.1), empty_append]
          · rw [if_neg hk, if_neg (fun z => hk (hpp z)), append_assoc]
        · have : W[k]? = some q := hq
          rw [hp] at this
          cases this
          refine ⟨by simp, ?_⟩
          show (if p.1.length = 0 then (" " : Str) else p.1, p.2) = p ∨ (_ ∧ (if p.1.length = 0 then (" " : Str) else p.1, p.2) = _)
          by_cases hl : p.1.length = 0
          · rw [if_pos hl]; exact .inr ⟨len0_e hl, rfl⟩
          · rw [if_neg hl]; exact .inl rfl
        · have hr : r ∈ (nlRows s.rows s.n (midP s.ps)).tail := hr
          rw [hnl] at hr; cases hr
        · have hq : q ∈ [(if p.1.length = 0 then (" " : Str) else p.1, p.2)] := hq
          rw [List.mem_singleton.mp hq]
          show HeadW (if p.1.length = 0 then (" " : Str) else p.1)
          by_cases hl : p.1.length = 0
          · rw [if_pos hl]; exact headW_sp
          · rw [if_neg hl]
            rcases hw k p hp with ⟨_, z, _⟩ | ⟨z, _⟩
            · exact absurd (by rw [z]; rfl) hl
            · exact z
      · show InvW _ _ _ _ (if 0 < s.n then _ else _)
        rw [if_neg hn]
        refine h.push hw hp fun e => ?_
        rw [h.zero e] at hn
        rintro ⟨_, z, _⟩
        exact hn z
theorem feed_invW {wd head : Int} {W : List (Str × Str)} {sg : Str} (hw : WordL W) : ∀ k, k ≤ W.length → InvW wd head W k (feedAll wd sg ⟨[], head, []⟩ (W.take k))
  | 0, _ => invW0
  | k + 1, hk => by
    have hp : W[k]? = some (W[k]'(by omega)) := List.getElem?_eq_getElem _
    rw [List.take_add_one, hp]
    show InvW _ _ _ _ (feedAll _ _ _ (W.take k ++ [_]))
    rw [feed_snoc]
    exact (feed_invW hw k (by omega)).add hw hp
end Mine

end
section
open PySem PySem.W PySem.Builtin PySem.Builtin.ObjectAttr
open PyProof.Rows hiding wpAt wpAt_bind
set_option linter.unusedSectionVars false
set_option maxRecDepth 100000
set_option maxHeartbeats 1000000
set_option linter.unusedVariables false
namespace Mine
variable [aI : Membership Nat Unit]
theorem nlRows_join {rows : List Str} {n : Int} {ms : List (Str × Str)} (hn : 0 ≤ n) : cat (nlRows rows n ms) = cat rows ++ txt ms := by
  have hs := signs_nn' ms
  by_cases h0 : 0 < n + signs ms
  · by_cases h1 : n = 0 ∧ whiteAll (txt ms) = true ∧ rows ≠ []
    · obtain ⟨ys, y, rfl⟩ : ∃ ys y, rows = ys ++ [y] := ⟨_, _, (List.dropLast_concat_getLast h1.2.2).symm⟩
      rw [nl_aug h0 h1.1 h1.2.1, cat_append, cat_append, append_assoc]
      show _ ++ (y ++ txt ms ++ (⟨#[]⟩ : Str)) = _ ++ ((y ++ (⟨#[]⟩ : Str)) ++ _)
      rw [append_empty, append_empty]
    · rw [nl_app h0 h1, cat_append]
      show _ ++ (txt ms ++ (⟨#[]⟩ : Str)) = _
      rw [append_empty]
  · rw [nl_no h0]
    have h2 := txt_len ms
    have : (txt ms).length = 0 := by omega
    rw [show txt ms = (⟨#[]⟩ : Str) from len0_e this, append_empty]
theorem app_cancel {a b c : Str} (h : a ++ c = b ++ c) : a = b := by
  have h := congrArg (fun x : Str => x.cps.toList) h
  simp only [append_cps, Array.toList_append] at h
  exact str_list (List.append_cancel_right h)
theorem InvW.join {wd head : Int} {W : List (Str × Str)} {s : FS} (h : InvW wd head W W.length s) (hw : WordL W) (hn : 0 ≤ s.n) : cat s.nl.rows = preW wd head W ++ txt (trimP W) := by
  show cat (nlRows s.rows s.n (midP s.ps)) = _
  rw [nlRows_join hn]
  have hc := h.whole
  rw [List.take_of_length_le (Nat.le_refl _)] at hc
  have hc : cat s.rows ++ txt s.ps = preW wd head W ++ txt W := by
    rw [hc]
    split
    · rename_i e
      have : W = [] := List.eq_nil_of_length_eq_zero e
      subst this; rfl
    · rfl
  have key : lastP s.ps = oneSp ↔ W.getLast? = some oneSp := by
    by_cases h0 : W.length = 0
    · have e := List.eq_nil_of_length_eq_zero h0
      have e' := h.zero h0
      subst e
      rw [e']
      constructor
      · intro z
        have z : lastP [] = oneSp := z
        rw [lastP_nil] at z
        exact absurd z (by decide +kernel)
      · intro z; cases z
    · have hq : W[W.length - 1]? = some (W[W.length - 1]'(by omega)) := List.getElem?_eq_getElem _
      have hl : W.getLast? = some (W[W.length - 1]'(by omega)) := by rw [List.getLast?_eq_getElem?]; exact hq
      rw [hl]
      obtain ⟨_, hz⟩ := h.last _ (by omega) hq
      have hwl := hw _ _ hq
      generalize W[W.length - 1]'(by omega) = p at *
      rcases hz with z | ⟨z1, z2⟩
      · rw [z]; simp
      · have hp2 : p.2.length ≠ 0 := by
          rcases hwl with ⟨_, _, y⟩ | ⟨y, _⟩
          · exact y
          · exact absurd (by rw [z1]; rfl) y.ne
        constructor
        · intro e
          rw [z2] at e
          have : p.2 = ("" : Str) := congrArg Prod.snd e
          rw [this] at hp2
          exact absurd rfl hp2
        · intro e
          have e : p = oneSp := by simpa using e
          rw [e] at hp2
          exact absurd rfl hp2
  unfold trimP
  rcases mid_txt s.ps with hm | ⟨hm1, hm2⟩
  · rw [hm, hc]
    by_cases e : W.getLast? = some oneSp
    · exfalso
      have hl := key.mpr e
      have hne : s.ps ≠ [] := fun z => by rw [z, lastP_nil] at hl; exact absurd hl (by decide +kernel)
      have h1 := congrArg (fun x : Str => x.length) hm
      have h2 := last_of hne
      have h3 : (txt (midP s.ps)).length = (txt s.ps.dropLast).length := by unfold midP; rw [if_pos hl]
      have h4 : (txt s.ps).length = (txt s.ps.dropLast).length + 1 := by
        have e4 : txt s.ps = txt (s.ps.dropLast ++ [lastP s.ps]) := by rw [h2]
        rw [e4, txt_append, txt_one, len_append, hl]
        show _ + ((" " : Str) ++ ("" : Str)).length = _
        rw [show ((" " : Str) ++ ("" : Str)).length = 1 by kernel_rfl]
      have h1 : (txt (midP s.ps)).length = (txt s.ps).length := h1
      omega
    · rw [if_neg e]
  · have e := key.mp hm1
    rw [if_pos e]
    have hne : W ≠ [] := fun z => by rw [z] at e; cases e
    have hlast : lastP W = oneSp := by unfold lastP; rw [e]; rfl
    have e4 : txt W = txt W.dropLast ++ " " := by
      have e5 : txt W = txt (W.dropLast ++ [lastP W]) := by rw [last_of hne]
      rw [e5, txt_append, txt_one, hlast]
      show _ ++ ((" " : Str) ++ ("" : Str)) = _
      rw [show ((" " : Str) ++ ("" : Str)) = (" " : Str) by kernel_rfl]
    refine app_cancel (c := (" " : Str)) ?_
    rw [append_assoc, hm2, hc, e4, append_assoc]
theorem InvW.heads {wd head : Int} {W : List (Str × Str)} {k : Nat} {s : FS} (h : InvW wd head W k s) (hn : 0 ≤ s.n) : ∀ r ∈ s.nl.rows.tail, HeadW r := by
  show ∀ r ∈ (nlRows s.rows s.n (midP s.ps)).tail, HeadW r
  intro r hr
  by_cases h0 : 0 < s.n + signs (midP s.ps)
  · by_cases h1 : s.n = 0 ∧ whiteAll (txt (midP s.ps)) = true ∧ s.rows ≠ []
    · obtain ⟨ys, y, e⟩ : ∃ ys y, s.rows = ys ++ [y] := ⟨_, _, (List.dropLast_concat_getLast h1.2.2).symm⟩
      rw [e, nl_aug h0 h1.1 h1.2.1] at hr
      have hrows := h.rows
      rw [e] at hrows
      cases ys with
      | nil => cases hr
      | cons a t =>
        rcases List.mem_append.mp (show r ∈ t ++ [y ++ txt (midP s.ps)] from hr) with hr | hr
        · exact hrows r (List.mem_append_left _ hr)
        · rw [List.mem_singleton.mp hr]
          exact (hrows y (List.mem_append_right _ (.head _))).app _
    · rw [nl_app h0 h1] at hr
      cases hrw : s.rows with
      | nil => rw [hrw] at hr; cases hr
      | cons a t =>
        rw [hrw] at hr
        rcases List.mem_append.mp (show r ∈ t ++ [txt (midP s.ps)] from hr) with hr | hr
        · exact h.rows r (by rw [hrw]; exact hr)
        · rw [List.mem_singleton.mp hr]
          have hne : s.rows ≠ [] := by rw [hrw]; simp
          have hn0 : s.n = 0 := by
            by_cases z : 0 < s.n
            · exact absurd (h.n z) hne
            · omega
          cases hm : midP s.ps with
          | nil =>
            rw [hm, hn0] at h0
            exact absurd h0 (by decide)
          | cons q0 t0 =>
            rw [txt_cons, append_assoc]
            have hq : q0 ∈ midP s.ps := by rw [hm]; exact .head _
            have hps : s.ps ≠ [] := fun z => by
              have hs : signs (midP s.ps) = 0 := by rw [z]; kernel_rfl
              omega
            have hq : q0 ∈ s.ps := by
              unfold midP at hq
              split at hq
              · exact List.dropLast_subset _ hq
              · rw [last_of hps] at hq; exact hq
            exact (h.all hne q0 hq).app _
  · rw [nl_no h0] at hr
    exact h.rows r hr
theorem wordL (x : Str) : WordL (wordsOf x) := fun i p h => (words_at h).1
end Mine

end
section
open PySem PySem.W PySem.Builtin PySem.Builtin.ObjectAttr
open PyProof.Rows hiding wpAt wpAt_bind
set_option linter.unusedSectionVars false
set_option maxRecDepth 100000
set_option maxHeartbeats 1000000
set_option linter.unusedVariables false
namespace Mine
variable [aI : Membership Nat Unit]
theorem occ_ws (c : Nat) : (!(Builtin.Str.occurrences (" \t" : Str) (S [c]) 0 (" \t" : Str).length 1).isEmpty) = wsb c := by
  have h1 : (" \t" : Str) = S [32, 9] := by kernel_rfl
  rw [h1]
  have s0 : Builtin.Str.subAt (S [32, 9]) (S [c]) 0 = (32 == c) := by
    show ((#[32] : Array Nat) == #[c]) = _
    simp
  have s1 : Builtin.Str.subAt (S [32, 9]) (S [c]) 1 = (9 == c) := by
    show ((#[9] : Array Nat) == #[c]) = _
    simp
  unfold wsb
  by_cases h32 : c = 32
  · subst h32; kernel_rfl
  · by_cases h9 : c = 9
    · subst h9; kernel_rfl
    · have e0 : (32 == c) = false := by rw [beq_eq_false_iff_ne]; exact fun z => h32 z.symm
      have e1 : (9 == c) = false := by rw [beq_eq_false_iff_ne]; exact fun z => h9 z.symm
      rw [e0] at s0
      rw [e1] at s1
      have l2 : (S [32, 9]).length = 2 := rfl
      have l1 : (S [c]).length = 1 := rfl
      unfold Builtin.Str.occurrences
      simp [l1, l2, s0, s1, Std.Legacy.Range.forIn_eq_forIn_range', Std.Legacy.Range.size, List.range', Id.run]
      show (true : Bool) = (!(c == 32) && !(c == 9))
      rw [beq_eq_false_iff_ne.mpr h32, beq_eq_false_iff_ne.mpr h9]; rfl
section
variable {Γ : Fm} {loc : Loc} {own own' : Own} {Q : QV} {QQ : QF}
theorem op_in_ws {c : Nat} (q : Q (.bool (wsb c)) loc own) : Op2 Γ loc own (.str (S [c])) (.str (" \t" : Str)) (compareOp .In) Q := by
  intro h₀ s v u g rel x y
  cases x; cases y
  refine in_str (out_same rel rfl (.bool _) ?_)
  rw [occ_ws]; exact q
theorem ex_aug_item {o i value : PySem.Expr} {tpos pos : Pos}
    (x : Ev Γ loc own o fun v loc own => Ev Γ loc own i fun k loc own => ∃ (a : Addr) (ys : List Str) (y : Str) (n : Nat), v = .raw (.ref a) ∧ k = .int ((n : Nat) : Int) ∧ HasO a (.list (ys.map Dv.str)) own ∧ ys.length ≤ 100000 ∧ ys[n]? = some y ∧
      Ev Γ loc own value fun d loc own => ∃ (z : Str) (own' : Own), d = .str z ∧ y.length + z.length ≤ 1000000 ∧ Upd a (.list (ys.map Dv.str)) (.list ((ys.set n (y ++ z)).map Dv.str)) own own' ∧ QQ .next loc own')
    (hi : ∀ ov iv new, augStore i ov iv new = (do holding [new, ov, iv] (setItem ov iv new); release [new, ov, iv] []; pure .next) := by intros; rfl) : Ex Γ loc own (.AugAssign (.Subscript o i tpos) .Add value pos) QQ := by
  intro h₀ s g rel
  refine wpAny_AugAssign_SubscriptAny (x.use g rel fun ov _ _ s1 vo p1 r1 v1 q1 => q1.use g r1 fun iv loc own s2 vi p2 r2 v2 ⟨a, ys, y, n, e1, e2, ha, hl, hy, q2⟩ => ?_) hi
  subst e1 e2
  cases v1; cases v2
  have hn : n < ys.length := (List.getElem?_eq_some_iff.mp hy).1
  obtain ⟨vs, m, ho, r⟩ := r2.ow.at_ _ ha.mem
  have hln := r.length
  obtain ⟨u, hu, vu⟩ := r.get' (k := n) (d := .str y) (by rw [List.getElem?_map, hy]; rfl)
  rw [List.length_map] at hln
  refine wpAny_getItem_list ⟨_, ho, rfl, m, rfl⟩ (Int.natCast_nonneg n) (by omega) (x := u) ?_ ?_
  · rw [Int.toNat_natCast, List.getElem?_toArray]; exact hu
  cases vu
  refine q2.use g r2 fun d loc own s3 vz p3 r3 v3 ⟨z, own', e3, hz, up, q⟩ => ?_
  subst e3
  cases v3
  refine SBL.iadd (fun t' tk _ => ?_) (by unfold PySem.sizeLine; omega)
  obtain ⟨vs', m', ho', r'⟩ := r3.ow.at_ _ up.mem
  have hln' := r'.length
  rw [List.length_map] at hln'
  refine setItem_list_pos ⟨_, ho', rfl, m', rfl⟩ (Int.natCast_nonneg n) (by omega) (by rw [List.size_toArray]; omega) ?_
  rw [Int.toNat_natCast]
  have hres := seq_upd (K := Γ.K) (ws := vs'.set n (.str (y ++ z) t')) (f := fun xs => xs.setIfInBounds n (.str (y ++ z) t')) r3 up .list ho' rfl (by intro _ _ z; simp at z) (by simp)
    (by
      have := VRs.set (VR.str (h := s3.heap) (y ++ z) t') n r'
      rwa [← List.map_set] at this) (fun h' ws k es e z ds' v => ⟨es, k, by rw [e, z], v⟩)
  exact ⟨_, _, _, (p1.trans p2).trans (p3.trans hres.1.st), hres.2, .next, q⟩
end
end Mine

end
section
open PySem PySem.W PySem.Builtin PySem.Builtin.ObjectAttr
open PySem.SeqAt
open PyProof.Rows hiding wpAt wpAt_bind
set_option linter.unusedSectionVars false
set_option maxRecDepth 100000
set_option maxHeartbeats 1000000
set_option linter.unusedVariables false
namespace Mine
variable [aI : Membership Nat Unit]
section
variable {Γ : Fm} {loc : Loc} {own own' : Own} {Q : QV} {QQ : QF}
theorem op_notin_tup {ys : List Str} {k : Str} (hu : Γ.U + 2 < cLine) (q : Q (.bool (!ys.any fun z => decide (z = k))) loc own) : Op2 Γ loc own (.str k) (.tup (ys.map .str)) (compareOp .NotIn) Q := by
  intro h₀ s v u g rel x y
  obtain ⟨l, vs, n, rfl, o, r⟩ := tup_inv y
  cases x
  rename_i t
  have hU := Γ.hU
  let e : Value → Bool := fun v => match v with | .str z _ => decide (z = k) | _ => false
  have he : ∀ y, y ∈ vs.toArray → EqAt Γ.A.in1 s y (.str k t) (e y) := fun y hy => by
    have hy' : y ∈ vs := by simpa using hy
    obtain ⟨i, hi⟩ := List.mem_iff_getElem?.mp hy'
    obtain ⟨d, hd, vr⟩ := r.get hi
    rw [List.getElem?_map] at hd
    cases hz : ys[i]? with
    | none => rw [hz] at hd; cases hd
    | some z =>
      rw [hz] at hd; cases hd
      cases vr
      exact cmpStr.eq (by simp only []; omega) (.str _ _) (.str _ _)
  refine notIn_tupleAt e ⟨_, o, rfl, n, rfl⟩ he (out_same rel rfl (.bool _) ?_)
  have : vs.toArray.any e = ys.any fun z => decide (z = k) := by
    rw [List.any_toArray]
    have : ∀ (vs : List Value) (ys : List Str), VRs s.heap vs (ys.map .str) → vs.any e = ys.any fun z => decide (z = k) := by
      intro vs ys r
      induction ys generalizing vs with
      | nil => cases r; rfl
      | cons z ys ih =>
        cases r with
        | cons a b => cases a; rw [List.any_cons, List.any_cons, ih _ b]
    exact this _ _ r
  rw [this]
  exact q
theorem ev_cmp2 {l r1 r2 : PySem.Expr} {op1 op2 : CmpOp} {pos : Pos} (hm : lastMarks [op1, op2] [r1, r2] = false)
    (x : Ev Γ loc own l fun a loc own => Ev Γ loc own r1 fun b loc own => Op2 Γ loc own a b (compareOp op1) fun d loc own => ∃ t, d = .bool t ∧ if t then Ev Γ loc own r2 fun c loc own => Op2 Γ loc own b c (compareOp op2) Q else Q (.bool false) loc own) :
    Ev Γ loc own (.Compare l [op1, op2] [r1, r2] pos) Q := by
  intro h₀ s g rel
  refine Compare_chain (x.use g rel fun a _ _ s1 va p1 r1 v1 q1 => chain_link (q1.use g r1 fun b _ _ s2 vb p2 r2 v2 q2 => wpAny_mono (q2 h₀ s2 va vb g r2 (v1.mono p2.p) v2) (fun c s3 z => ?_) fun _ _ z => z)) hm
  obtain ⟨d3, loc3, own3, p3, r3, v3, t, rfl, q3⟩ := z
  refine wpAny_mono (truth_bool (Γ := Γ) (b := t) (Q := fun b loc own => b = t ∧ loc = loc3 ∧ own = own3) ⟨rfl, rfl, rfl⟩ h₀ s3 c g r3 v3) (fun t' s4 z => ?_) fun _ _ z => z
  obtain ⟨loc4, own4, p4, r4, rfl, rfl, rfl⟩ := z
  cases t'
  · simp only [Bool.false_eq_true, if_false] at q3 ⊢
    exact ⟨_, _, _, ((p1.trans p2).trans p3).trans p4, r4, v3.mono p4.p, q3⟩
  · simp only [if_true] at q3 ⊢
    refine chain_last (q3.use g r4 fun e _ _ s5 ve p5 r5 v5 q5 => wpAny_mono (q5 h₀ s5 vb ve g r5 (((v2.mono p3.p).mono p4.p).mono p5.p) v5) (fun f s6 z => ?_) fun _ _ z => z)
    obtain ⟨d6, loc6, own6, p6, r6, v6, q6⟩ := z
    exact ⟨_, _, _, (((((p1.trans p2).trans p3).trans p4).trans p5).trans p6), r6, v6, q6⟩
theorem ex_aug_text {x : Str} {e : PySem.Expr} {pos' pos : Pos} {y : Str} (hl : Γ.env.kindOf x = some .local) (hx : Has x (.str y) loc)
    (q : Ev Γ loc own e fun d loc own => ∃ (z : Str) (loc2 : Loc), d = .str z ∧ y.length + z.length ≤ 1000000 ∧ SetL x (.str (y ++ z)) loc loc2 ∧ QQ .next loc2 own) : Ex Γ loc own (.AugAssign (.Name x pos') .Add e pos) QQ := by
  intro h₀ s g rel
  obtain ⟨m, n, k⟩ := rel.lc.ns
  obtain ⟨v, ev, vr⟩ := k x _ hx.mem
  cases vr
  refine wpAny_AugAssign_Name (wpAny_loadName_local Γ.hk hl n ev (q.use g rel fun d loc1 own1 s1 vz p1 r1 v1 ⟨z, loc2, e1, hz, u, q⟩ => ?_))
  subst e1
  cases v1
  refine SBL.iadd (fun t' tk _ => ?_) (by unfold PySem.sizeLine; omega)
  exact store_ (s := { s1 with toks := tk }) r1 hl u (.str _ _) fun s2 p2 r2 => ⟨_, _, _, p1.trans (Stays.trans (b := { s1 with toks := tk }) ⟨Pers.refl, rfl, id⟩ p2), r2, .next, q⟩
theorem op_ne_nil {ds : List Dv} {a b : Addr} (ha : HasO a (.list ds) own) (hb : HasO b (.list []) own) (hu : Γ.U + 2 < cLine) (q : Q (.bool (decide (ds ≠ []))) loc own) : Op2 Γ loc own (.raw (.ref a)) (.raw (.ref b)) (compareOp .NotEq) Q := by
  intro h₀ s v u g rel x y
  cases x; cases y
  have hU := Γ.hU
  obtain ⟨vs, k, o, r⟩ := rel.ow.at_ _ ha.mem
  obtain ⟨vs', k', o', r'⟩ := rel.ow.at_ _ hb.mem
  have l1 := r.length
  have l2 := r'.length
  have fin : Out h₀ Γ.env.locals s Q (.bool (decide (ds ≠ []))) s := ⟨_, _, _, Pers.refl.st, rel, .bool _, q⟩
  by_cases hd : ds = []
  · subst hd
    have hs : vs.toArray.size = vs'.toArray.size := by simp [l1, l2]
    have z := RcNeAt.lists (A := Γ.A) (s := s) (e := fun _ => true) ⟨_, o, rfl, _, rfl⟩ ⟨_, o', rfl, _, rfl⟩ hs (by omega) (fun j h1 h2 => by simp at h1; rw [l1] at h1; cases h1)
    refine z _ _ _ _ ?_
    rw [show (List.range vs.toArray.size).all (fun _ => true) = true by simp]
    exact fin
  · have hs : (vs.toArray.size != vs'.toArray.size) = true := by
      have : 0 < ds.length := List.length_pos_iff.mpr hd
      simp [l1, l2]
      exact hd
    have z := RcNeAt.lists_lengths (A := Γ.A) (s := s) (l := a) (b := b) ⟨_, o, rfl, _, rfl⟩ ⟨_, o', rfl, _, rfl⟩ hs (by omega)
    refine z _ _ _ _ ?_
    rw [decide_eq_true hd] at fin
    exact fin
end
theorem range_by2 {b : Nat} (hb : b < 64) : ∃ n : Nat, Builtin.Range.rangeSize 1 (b : Int) 2 = n ∧ n ≤ 31 ∧ (∀ k, k < n → 1 + 2 * k < b) ∧ Builtin.Range.small 1 (b : Int) 2 = true ∧ Builtin.divisionGoesByPylong ((b : Int) - 1) 2 = false := by
  have : ∀ b : Fin 64, Builtin.Range.rangeSize 1 ((b : Nat) : Int) 2 = (((b : Nat) / 2 : Nat) : Int) ∧ Builtin.Range.small 1 ((b : Nat) : Int) 2 = true ∧ Builtin.divisionGoesByPylong (((b : Nat) : Int) - 1) 2 = false := by decide +kernel
  obtain ⟨h1, h2, h3⟩ := this ⟨b, hb⟩
  exact ⟨b / 2, h1, by omega, fun k hk => by omega, h2, h3⟩
theorem take_drop_S (x : Str) (n : Nat) : takeS x n ++ dropS x n = x := str_list (by
  rw [app_list]
  exact List.take_append_drop _ _)
theorem slice_but {y z : Str} (hz : z.length = 1) : Txt.slice (y ++ z) none (some (-1)) = y := by
  have hl : (y ++ z).length = y.length + 1 := by rw [len_append, hz]
  have h := eq_of_beq (slice_closes_to_neg (x := y ++ z) (j := -1) (k := (y.length : Int)) (by decide) (by rw [hl]; omega) (by rw [hl]; omega))
  rw [h]
  exact takeS_app rfl
theorem head_first {r : Str} (h : HeadW r) : ([" ", "\t"] : List Str).any (fun z => decide (z = Txt.slice r none (some 1))) = true := by
  obtain ⟨c, t, e, hw⟩ := h
  have hs : Txt.slice r none (some 1) = S [c] := by
    rw [show (1 : Int) = ((1 : Nat) : Int) from rfl, slice_to]
    unfold takeS
    rw [e]; rfl
  rw [hs]
  unfold wsb at hw
  rcases Bool.or_eq_true _ _ ▸ hw with h | h
  · have : c = 32 := by simpa using h
    subst this; decide +kernel
  · have : c = 9 := by simpa using h
    subst this; decide +kernel
noncomputable def dueW (wd head : Int) (W : List (Str × Str)) (t : Str) : Str := preW wd head W ++ (if W.getLast? = some oneSp then Txt.slice t none (some (-1)) else t)
theorem due_is {wd head : Int} {W : List (Str × Str)} : dueW wd head W (txt W) = preW wd head W ++ txt (trimP W) := by
  unfold dueW trimP
  by_cases h : W.getLast? = some oneSp
  · rw [if_pos h, if_pos h]
    have hne : W ≠ [] := fun z => by rw [z] at h; cases h
    have hlast : lastP W = oneSp := by unfold lastP; rw [h]; rfl
    have e5 : txt W = txt W.dropLast ++ ((" " : Str) ++ ("" : Str)) := by
      have e5 : txt W = txt (W.dropLast ++ [lastP W]) := by rw [last_of hne]
      rw [e5, txt_append, txt_one, hlast]; rfl
    rw [e5, slice_but (by kernel_rfl)]
  · rw [if_neg h, if_neg h]
end Mine

end
section
open PySem PySem.W PyProof.Rows
set_option maxRecDepth 100000
set_option maxHeartbeats 8000000
namespace Mine
noncomputable def runQ (p : Program) (w : World) (N : Nat) : { r : Option Shared // openEnds treeTable p w N = r } :=
  ⟨_, by
    unfold openEnds fencedOpening topFrom
    rw [PySem.W.Fast.te10274390034422433532, PySem.W.Fast.te14082659384304107361, PySem.W.Fast.te14364793385576792824, PySem.W.Fast.te14289696077712309145, PySem.W.Fast.te1435165496053646825, PySem.W.Fast.te8920871248978507458, PySem.W.Fast.te5923862056798008813]⟩
noncomputable def seenQ (q : Program) (loose mods : List Str) (Xt : Shared → Bool) (s : Shared) := PySem.W.Fast.tw4187177175401517315 q loose mods Xt true s
theorem seenQ_eq (q : Program) (loose mods : List Str) (Xt : Shared → Bool) (s : Shared) : openSeen q loose mods Xt true s = seenQ q loose mods Xt s := by
  unfold seenQ
  rw [← PySem.W.Fast.te4187177175401517315]
noncomputable abbrev TopRun (p q : Program) (loose : List Str) (Xt : Shared → Bool) {α : Type} (Yf : Shared → α) (Ya : World → α) (N : Nat) : Prop :=
  ∀ w, ((runQ p w N).1).map (fun s => (seenQ q loose (importedModules p.main.body) Xt s, Yf s)) = some (openGood q loose, Ya w)
theorem TopRun.left {p q : Program} {loose : List Str} {Xt : Shared → Bool} {α : Type} {Yf : Shared → α} {Ya : World → α} {N : Nat} (h : TopRun p q loose Xt Yf Ya N) : LeftO p q loose Xt Yf Ya N := fun w => by
  have := h w
  rw [← (runQ p w N).2] at this
  simp only [← seenQ_eq] at this
  exact this
theorem PySem.W.holds_open {r : OpenRow} {q : Program} {loose : List Str} {Xt : Shared → Bool} {XP : (Str → Option Value) → Heap → Prop} {α : Type} {Yf : Shared → α} {Ya : World → α} {YP : World → Heap → Prop} {d : DefRec} {kwd : List (Str × PySem.Expr)} {N : Nat}
    (left : TopRun r.prog q loose Xt Yf Ya N) (hY : ∀ w s, Yf s = Ya w → YP w s.heap) (hYk : ∀ w h h', YP w h → (∀ b o, h.get? b = some o → h'.get? b = some o) → YP w h')
    (hX : ∀ s, Xt s = true → XP (s.heap.nsMap mainGlobals) s.heap) (hXk : ∀ mg h h', XP mg h → (∀ b o, h.get? b = some o → h'.get? b = some o) → XP mg h')
    (hdef : defOf q r.name = some (d, kwd)) (hp : r.prog.theDef r.name = some (d.params, d.body, d.scope)) (hk : kwWritten? d.params.kwonlyargs d.params.kw_defaults = some kwd) (hRf : ∀ s, Xt s = true → RecFacts r.records s.heap) (hwr : (!r.writes || r.records.isEmpty) = true)
    (k1 : r.wellSaid = true) (ok : (chainsOk q && opensWell r.prog && (frees r.toRowW && r.within.isEmpty)) = true) (hb : r.prog.bare) (hw : r.toRowW.promised)
    (call : WalkO q loose XP YP r.toRowW d kwd fun f vs => PySem.call f vs) : r.Holds :=
  _root_.PySem.W.holds_open left.left hY hYk hX hXk hdef hp hk hRf hwr k1 ok hb hw call
local macro_rules | `(tactic| o_head (kHook $K $as $e)) => `(tactic| o_head (kmHook $K $as $e [162, 169]))
local macro_rules | `(tactic| o_head (kmHook $K $as $e $t)) => do
  if t.raw.isOfKind `«term[_]» then Lean.Macro.throwUnsupported
  `(tactic| o_head (kmHook $K $as $e [162, 169]))
local macro_rules | `(tactic| o_law) => `(tactic| refine holds_law (by decide +kernel) fun said => ?_)
open_top hd11 for PySem.Challenge.rw_dm0090_11
end Mine

end
section
open PySem PySem.W PySem.Builtin PySem.Builtin.ObjectAttr
open PyProof.Rows hiding wpAt wpAt_bind
set_option linter.unusedSectionVars false
set_option maxRecDepth 100000
set_option maxHeartbeats 1000000
set_option linter.unusedVariables false
namespace Mine
variable [aI : Membership Nat Unit]
local macro_rules | `(tactic| walk_at "om") => `(tactic| first | assumption | exact Nat.le_trans (by assumption) (by decide) | exact Int.le_trans (by assumption) (by decide) | omega | fail "none")
local macro_rules | `(tactic| walk_at "has") => `(tactic| repeat (first | assumption | with_reducible exact Has.here | with_reducible exact HasO.here | with_reducible exact Upd.here | with_reducible apply Has.there | with_reducible apply HasO.there | with_reducible apply Upd.there))
local macro_rules | `(tactic| walk_at "name") => `(tactic| first | with_reducible refine ev_name (by kernel_rfl) (by decide +kernel) (by walk_at "has") ?_ | with_reducible refine ev_builtin (by kernel_rfl) (by decide +kernel) (by kernel_rfl) (by decide +kernel) (by first | exact boot_len | exact boot_sum | exact boot_str) ?_)
theorem len1 {α : Type} {l : List α} (h : l.length = 1) : ∃ a, l = [a] := List.length_eq_one_iff.mp h
theorem len2 {α : Type} {l : List α} (h : l.length = 2) : ∃ a b, l = [a, b] := by
  rcases l with _ | ⟨a, _ | ⟨b, _ | ⟨c, r⟩⟩⟩ <;> first | exact ⟨_, _, rfl⟩ | cases h
theorem len3 {α : Type} {l : List α} (h : l.length = 3) : ∃ a b c, l = [a, b, c] := by
  rcases l with _ | ⟨a, _ | ⟨b, _ | ⟨c, _ | ⟨d, r⟩⟩⟩⟩ <;> first | exact ⟨_, _, _, rfl⟩ | cases h
noncomputable abbrev pr11 : Program := PySem.Challenge.rw_dm0090_11.row.prog
noncomputable def K11 (P : PySem.Params) : Frag := hd11.heap_1 P
variable {P : PySem.Params} {w : World} {A : Around} {own own' : Own} {Q : Dv → Own → Prop} {x d : Addr} {ds : List Dv}
theorem lim11 (h : Heap) (X : (K11 P).In h) : h.NoLimit := ⟨_, .of_isNs (isNs_of_in X (by kernel_rfl)), nsMap_none_of_in X (by kernel_rfl) (by kernel_rfl)⟩
theorem accK11 : AccK (K11 P) 200 := ⟨by kernel_rfl, by kernel_rfl, by kernel_rfl, by kernel_rfl, by kernel_rfl, by kernel_rfl, by kernel_rfl⟩
theorem clsK11 : ∃ cd, ClsK pr11 (K11 P) 200 124 cd ∧ ∀ x : Addr, Bind.checkArgs "list.pop" { popSig with full := s!"{cd.qualname.toString}.{Bind.lastOf "list.pop"}" } ⟨[.ref x], []⟩ = pure () :=
  ⟨_, ⟨rfl, rfl, by kernel_rfl, ⟨_, _, _, rfl⟩, by kernel_rfl, by kernel_rfl⟩, fun x => by kernel_rfl⟩
theorem mk11 : makesLIn (K11 P) 200 = true := by kernel_rfl
theorem storeK11 : ∃ cd, StoreK (K11 P) 200 cd := ⟨_, rfl, rfl, .inl rfl, by kernel_rfl⟩
theorem d137 : DefK (K11 P) 137 ["self", "initial_size"] := defK_of (by kernel_rfl)
theorem init_body11 {k : Int} (hh : A.handled = none) (hD : A.depth ≤ 900) (hU : A.units ≤ 9000) (q : Q .none ((x, .acc 200 d []) :: (d, .idict [("_initial_size", .int k)]) :: own)) (L : Addr) :
    ExsT (dfFm pr11 w (K11 P) A 137 L _ d137 hh hD hU) (.func (bodyOf (fnOf (K11 P) 137)) (callEnv (fnOf (K11 P) 137) L 137)) [("self", .raw (.ref x)), ("initial_size", .int k)] ((x, .acc 200 d []) :: (d, .idict []) :: own) (bodyOf (fnOf (K11 P) 137)) fun fl loc own => Q (retOf fl) own := by
  obtain ⟨cd, H, _⟩ := clsK11 (P := P)
  obtain ⟨cd', S⟩ := storeK11 (P := P)
  refine exst_cons (ext_of (ex_assign1 (by rfl) ?_))
  walk_at "name"
  refine as_attr (cd := cd') ?_
  walk_at "name"
  refine ⟨_, _, _, _, _, _, _, rfl, S, .here, by kernel_rfl, .new, by simp, .there .here, ?_⟩
  refine exst_cons (ext_expr (by kernel_rfl) (by rfl) (evt_init (self := "self") H ⟨by kernel_rfl, by kernel_rfl, ⟨_, _, _, _, _, _, rfl, rfl, rfl, rfl⟩, by kernel_rfl, ⟨_, _, _, _, _, _, _, rfl, rfl, rfl, by kernel_rfl⟩, by kernel_rfl⟩ .here .here accK11 rfl ?_))
  exact exst_of (exs_nil q)
theorem init11 {k : Int} (hh : A.handled = none) (hD : A.depth ≤ 900) (hU : A.units ≤ 9000) (q : Q .none ((x, .acc 200 d []) :: (d, .idict [("_initial_size", .int k)]) :: own)) :
    CallT pr11 w (K11 P) A ((x, .acc 200 d []) :: (d, .idict []) :: own) (.ref 137) [.raw (.ref x), .int k] Q :=
  callT_fnT (ddefs := []) d137 _ [] lim11 rfl rfl (fun _ => .nil) (fun S vs h => by obtain ⟨a, b, rfl⟩ := len2 h; kernel_rfl) hh hD hU (init_body11 hh hD hU q)
theorem makeI11 {k : Int} (hh : A.handled = none) (hD : A.depth ≤ 800) (hU : A.units ≤ 8000) (q : ∀ x d, Q (.raw (.ref x)) ((x, .acc 200 d []) :: (d, .idict [("_initial_size", .int k)]) :: own)) : CallT pr11 w (K11 P) A own (.ref 200) [.int k] Q :=
  callT_make (by simp) mk11 (by kernel_rfl) (by kernel_rfl) fun A' x dx e1 e2 e3 => init11 (e1.trans hh) (by walk_at "om") (by walk_at "om") ⟨rfl, q _ _⟩
theorem d144 : DefK (K11 P) 144 ["self", "fws", "string"] := defK_of (by kernel_rfl)
theorem push11 {f g : Dv} {l : List (Str × Dv)} (hh : A.handled = none) (hD : A.depth ≤ 900) (hU : A.units ≤ 9000) (hl : ds.length ≤ 100000) (ha : Upd x (.acc 200 d ds) (.acc 200 d (ds ++ [.tup [f, g]])) own own') (hd : HasO d (.idict l) own) (hn : l.lookup ("append" : Str) = none) (q : Q .none own') :
    CallT pr11 w (K11 P) A own (.ref 144) [.raw (.ref x), f, g] Q := by
  refine callT_fn (ddefs := []) d144 [("self", .raw (.ref x)), ("fws", f), ("string", g)] [] lim11 rfl rfl (fun _ => .nil) (fun S vs h => by obtain ⟨a, b, c, rfl⟩ := len3 h; kernel_rfl) hh hD hU fun L => ?_
  refine exs_cons (ex_expr (by kernel_rfl) (by rfl) (ev_meth ?_))
  walk_at "name"
  refine meth_bi (i := "list.append") accK11 ha.has hd hn (by kernel_rfl) (by kernel_rfl) (by kernel_rfl) (evl_cons (ev_tuple (evl_cons ?_)))
  walk_at "name"
  refine evl_cons ?_
  walk_at "name"
  refine evl_nil ⟨by simp, evl_nil ?_⟩
  exact op_append ha (.acc accK11) hl (exs_nil q)
theorem push11s {l : List (Str × Dv)} {f g : Str} {ps : List (Str × Str)} (hh : A.handled = none) (hD : A.depth ≤ 900) (hU : A.units ≤ 9000) (hl : ps.length ≤ 100000) (ha : Upd x (.acc 200 d (ps.map dpair)) (.acc 200 d ((ps ++ [(f, g)]).map dpair)) own own') (hd : HasO d (.idict l) own) (hn : l.lookup ("append" : Str) = none) (q : Q .none own') :
    CallT pr11 w (K11 P) A own (.ref 144) [.raw (.ref x), .str f, .str g] Q :=
  push11 (ds := ps.map dpair) hh hD hU (by simpa using hl) (by rw [show ps.map dpair ++ [.tup [.str f, .str g]] = (ps ++ [(f, g)]).map dpair by simp [dpair]]; exact ha) hd hn q
theorem d197 : DefK (K11 P) 197 ["self"] := defK_of (by kernel_rfl)
theorem part_count11 (hh : A.handled = none) (hD : A.depth ≤ 900) (hU : A.units ≤ 9000) (ha : HasO x (.acc 200 d ds) own) (q : Q (.int ds.length) own) : CallT pr11 w (K11 P) A own (.ref 197) [.raw (.ref x)] Q := by
  obtain ⟨cd, H, _⟩ := clsK11 (P := P)
  refine callT_fnT (ddefs := []) d197 [("self", .raw (.ref x))] [] lim11 rfl rfl (fun _ => .nil) (fun S vs h => by obtain ⟨a, rfl⟩ := len1 h; kernel_rfl) hh hD hU fun L => ?_
  refine exst_cons (ext_return (evt_len (self := "self") H ⟨by kernel_rfl, by kernel_rfl, ⟨_, _, _, _, _, _, rfl, rfl, rfl, rfl⟩, by kernel_rfl, ⟨_, _, _, _, _, _, _, rfl, rfl, rfl, by kernel_rfl⟩, by kernel_rfl⟩ .here ha rfl ?_))
  exact q
theorem d152 : DefK (K11 P) 152 ["self", "i"] := defK_of (by kernel_rfl)
theorem pop_from_body11 {i : Int} {n : Nat} (hn : clipAt ds.length i = n) (hh : A.handled = none) (hD : A.depth ≤ 900) (hU : A.units ≤ 9000) (hl : ds.length ≤ 100000) (ha : Upd x (.acc 200 d ds) (.acc 200 d (ds.take n)) own own') (q : ∀ b, Q (.raw (.ref b)) ((b, .list (ds.drop n)) :: own')) (L : Addr) :
    Exs (dfFm pr11 w (K11 P) A 152 L _ d152 hh hD hU) [("self", .raw (.ref x)), ("i", .int i)] own (bodyOf (fnOf (K11 P) 152)) fun fl loc own => ∃ o', o'.Sublist own ∧ Q (retOf fl) o' := by
  refine exs_cons ?_
  refine ex_assign (by kernel_rfl) (by rfl) (ev_sub ?_)
  walk_at "name"
  refine ev_slice (evo_some ?_)
  walk_at "name"
  refine evo_none (evo_none fun sl => ?_)
  refine sub_acc_slice accK11 ha.has.there .here (.int _) .none .none (by simp) (by walk_at "om") fun b => ?_
  refine ⟨_, by (repeat (first | with_reducible exact SetL.here | with_reducible exact SetL.new | (with_reducible apply SetL.there; (focus (dsimp only; decide))))), ?_⟩
  refine exs_cons (ex_assign1 (by rfl) (ev_list (evl_nil ⟨by decide, fun c => ?_⟩)))
  refine as_slice ?_
  walk_at "name"
  refine ev_slice (evo_some ?_)
  walk_at "name"
  refine evo_none (evo_none fun sl2 => ?_)
  refine ⟨_, _, _, _, _, ds, [], _, _, _, _, _, rfl, rfl, rfl, accK11, .here, .int _, .none, .there .here, by omega, by simp, .there (.there (.there (.there (by rw [putS_clip, hn, List.append_nil]; exact ha)))), ?_⟩
  refine exs_cons (ex_return ?_)
  walk_at "name"
  rw [pickL_clip, hn]
  refine ⟨_, ?_, q _⟩
  exact .cons _ (.cons _ (.cons_cons _ (.cons _ (List.Sublist.refl _))))
theorem pop_from11 {i : Int} {n : Nat} (hn : clipAt ds.length i = n) (hh : A.handled = none) (hD : A.depth ≤ 900) (hU : A.units ≤ 9000) (hl : ds.length ≤ 100000) (ha : Upd x (.acc 200 d ds) (.acc 200 d (ds.take n)) own own') (q : ∀ b, Q (.raw (.ref b)) ((b, .list (ds.drop n)) :: own')) :
    CallT pr11 w (K11 P) A own (.ref 152) [.raw (.ref x), .int i] Q :=
  callT_weak (callT_fn (ddefs := []) d152 _ [] lim11 rfl rfl (fun _ => .nil) (fun S vs h => by obtain ⟨a, b, rfl⟩ := len2 h; kernel_rfl) hh hD hU (pop_from_body11 hn hh hD hU hl ha q))
theorem d160 : DefK (K11 P) 160 ["self"] := defK_of (by kernel_rfl)
theorem pop11 {l : List (Str × Dv)} (hh : A.handled = none) (hD : A.depth ≤ 800) (hU : A.units ≤ 8000) (hl : ds.length ≤ 100000) (ha : Upd x (.acc 200 d ds) (.acc 200 d ds.dropLast) own own') (hd : HasO d (.idict l) own) (hn : l.lookup ("part_count" : Str) = none) (q : Q (popD ds) own') :
    CallT pr11 w (K11 P) A own (.ref 160) [.raw (.ref x)] Q := by
  obtain ⟨cd, H, ck⟩ := clsK11 (P := P)
  refine callT_fnT (ddefs := []) d160 [("self", .raw (.ref x))] [] lim11 rfl rfl (fun _ => .nil) (fun S vs h => by obtain ⟨a, rfl⟩ := len1 h; kernel_rfl) hh (by walk_at "om") (by walk_at "om") fun L => ?_
  refine exst_cons (ext_of (ex_if (tst_cmp (by kernel_rfl) (ev_meth ?_))))
  walk_at "name"
  refine meth_fn (f := 197) accK11 ha.has hd hn (by kernel_rfl) (by kernel_rfl) (by kernel_rfl) (by kernel_rfl) (evl_nil (opN_callT (part_count11 (by exact hh) (by show A.depth + 1 ≤ 900; omega) (by show A.units + 3 ≤ 9000; omega) ha.has ?_)))
  refine ev_int (op_eq (truth_bool ?_))
  rcases List.eq_nil_or_concat ds with rfl | ⟨ds', e, rfl⟩
  · rw [if_pos (by simp)]
    refine exs_cons (ex_return (ev_tuple (evl_cons (ev_str (evl_cons (ev_str (evl_nil ⟨by simp, ?_⟩)))))))
    cases ha.same
    exact q
  · rw [List.concat_eq_append] at *
    rw [if_neg (by simp; omega)]
    rw [List.dropLast_concat] at ha
    refine exs_nil (exst_cons (ext_return (evt_pop (self := "self") H ⟨by kernel_rfl, by kernel_rfl, ⟨_, _, _, _, _, _, rfl, rfl, rfl, rfl⟩, by kernel_rfl, ⟨_, _, _, _, _, _, _, rfl, rfl, rfl, by kernel_rfl⟩, by kernel_rfl⟩ .here ha accK11 (by kernel_rfl) (by kernel_rfl) ?_ ck rfl ?_)))
    · simp at hl; omega
    · show Q e own'
      unfold popD at q; simpa using q
theorem d167 : DefK (K11 P) 167 ["self"] := defK_of (by kernel_rfl)
theorem len11 {n : Int} {l : List (Str × Dv)} {ps : List (Str × Str)} (hh : A.handled = none) (hD : A.depth ≤ 800) (hU : A.units ≤ 8000) (ha : HasO x (.acc 200 d (ps.map dpair)) own) (hd : HasO d (.idict l) own) (hl : l.lookup ("_initial_size" : Str) = some (.int n)) (ht : HasO 162 .tab own)
    (hps : ∀ p ∈ ps, p.1.length ≤ 1000000 ∧ p.2.length ≤ 1000000) (q : Q (.int (n + signs ps)) own) : CallT pr11 w (K11 P) A own (.ref 167) [.raw (.ref x)] Q := by
  obtain ⟨cd', S⟩ := storeK11 (P := P)
  refine callT_fn (ddefs := []) d167 [("self", .raw (.ref x))] [] lim11 rfl rfl (fun _ => .nil) (fun S vs h => by obtain ⟨a, rfl⟩ := len1 h; kernel_rfl) hh (by walk_at "om") (by walk_at "om") fun L => ?_
  refine exs_cons (ex_return (ev_sum_lens (T := 162) (c := 166) (cd := cd') (x := x) (d := d) (C := 200) (ps := ps) (l := l) (n := n) ⟨by kernel_rfl, rfl, ?_, by kernel_rfl, by kernel_rfl, by kernel_rfl, by decide +kernel, by kernel_rfl, by kernel_rfl, by kernel_rfl, fun _ => rfl, lim11⟩ accK11 S ?_ ?_ ha hd ht (by kernel_rfl) (by kernel_rfl) (by kernel_rfl) (by kernel_rfl) (by decide +kernel) (by decide +kernel) hps (by kernel_rfl) .here (fun _ => rfl) (by decide +kernel) (by kernel_rfl) hl ?_))
  · decide
  · show A.depth + 1 < recursionLimit
    have : recursionLimit = 1000 := rfl
    omega
  · walk_at "name"
    exact ⟨rfl, rfl, rfl⟩
  · exact q
theorem d174 : DefK (K11 P) 174 ["self"] := defK_of (by kernel_rfl)
theorem str11 {ps : List (Str × Str)} (hh : A.handled = none) (hD : A.depth ≤ 800) (hU : A.units ≤ 8000) (ha : HasO x (.acc 200 d (ps.map dpair)) own) (ht : HasO 169 .tab own)
    (hps : ∀ p ∈ ps, p.1.length ≤ 1000 ∧ p.2.length ≤ 1000) (hpl : ps.length ≤ 1000) (q : Q (.str (txt ps)) own) : CallT pr11 w (K11 P) A own (.ref 174) [.raw (.ref x)] Q := by
  refine callT_fn (ddefs := []) d174 [("self", .raw (.ref x))] [] lim11 rfl rfl (fun _ => .nil) (fun S vs h => by obtain ⟨a, rfl⟩ := len1 h; kernel_rfl) hh (by walk_at "om") (by walk_at "om") fun L => ?_
  refine exs_cons (ex_return (ev_join_gen (tg := 321) (T := 169) (c := 173) (x := x) (d := d) (C := 200) (ps := ps) ⟨by kernel_rfl, rfl, ?_, by kernel_rfl, by kernel_rfl, by kernel_rfl, by decide +kernel, by kernel_rfl, by kernel_rfl, by kernel_rfl, fun _ => rfl, lim11⟩ accK11 ?_ ?_ ha ht (by kernel_rfl) (by kernel_rfl) (by decide +kernel) (by kernel_rfl) (by decide +kernel) (by decide +kernel) hps hpl ⟨_, rfl⟩ (fun _ => ⟨_, rfl⟩) ?_))
  · decide
  · show A.depth + 1 < recursionLimit
    have : recursionLimit = 1000 := rfl
    omega
  · walk_at "name"
    exact ⟨rfl, rfl, rfl⟩
  · exact q
theorem d182 : DefK (K11 P) 182 ["self", "startval"] := defK_of (by kernel_rfl)
theorem reset11 {c : Addr} {es : List Dv} {l l' : List (Str × Dv)} {own'' : Own} (hh : A.handled = none) (hD : A.depth ≤ 800) (hU : A.units ≤ 8000) (hl : ds.length ≤ 100000) (he : es.length ≤ 100000) (hc : HasO c (.list es) own) (ha : Upd x (.acc 200 d ds) (.acc 200 d es) own own')
    (hd : Upd d (.idict l) (.idict l') own' own'') (hs : SetL "_initial_size" (.int 0) l l') (hll : l.length ≤ 1000) (q : Q .none own'') : CallT pr11 w (K11 P) A own (.ref 182) [.raw (.ref x), .raw (.ref c)] Q := by
  obtain ⟨cd', S⟩ := storeK11 (P := P)
  refine callT_weak (callT_fn (ddefs := []) d182 [("self", .raw (.ref x)), ("startval", .raw (.ref c))] [] lim11 rfl rfl (fun _ => .nil) (fun S vs h => by obtain ⟨a, b, rfl⟩ := len2 h; kernel_rfl) hh (by walk_at "om") (by walk_at "om") fun L => ?_)
  refine exs_cons (ex_if (tst_cmp (by kernel_rfl) ?_))
  walk_at "name"
  refine ev_none (op_is_none (.inr ⟨rfl, _, rfl⟩) (truth_bool ?_))
  rw [if_neg (by decide)]
  refine exs_nil (exs_cons (ex_assign1 (by rfl) ?_))
  walk_at "name"
  refine as_slice ?_
  walk_at "name"
  refine ev_slice (evo_none (evo_none (evo_none fun sl => ?_)))
  refine ⟨_, _, _, _, _, ds, es, _, _, _, _, _, rfl, rfl, rfl, accK11, .here, .none, .none, .there hc, by omega, by omega, .there (by rw [putS_all]; exact ha), ?_⟩
  refine exs_cons (ex_assign1 (by rfl) (ev_int (as_attr (cd := cd') ?_)))
  walk_at "name"
  refine ⟨_, _, _, _, _, _, _, rfl, S, .there ha.has', by kernel_rfl, hs, hll, .there hd, ?_⟩
  refine exs_nil ⟨_, .cons _ (List.Sublist.refl _), q⟩
theorem reset11' {l l' : List (Str × Dv)} {own'' : Own} (hh : A.handled = none) (hD : A.depth ≤ 800) (hU : A.units ≤ 8000) (hl : ds.length ≤ 100000) (ha : Upd x (.acc 200 d ds) (.acc 200 d []) own own')
    (hd : Upd d (.idict l) (.idict l') own' own'') (hs : SetL "_initial_size" (.int 0) l l') (hll : l.length ≤ 1000) (q : Q .none own'') : CallT pr11 w (K11 P) A own (.ref 182) [.raw (.ref x)] Q := by
  obtain ⟨cd', S⟩ := storeK11 (P := P)
  refine callT_weak (callT_fn (ddefs := [.none]) d182 [("self", .raw (.ref x)), ("startval", .none)] (defsOf (K11 P) 182) lim11 rfl rfl (fun _ => .cons .none .nil) (fun S vs h => by obtain ⟨a, rfl⟩ := len1 h; kernel_rfl) hh (by walk_at "om") (by walk_at "om") fun L => ?_)
  refine exs_cons (ex_if (tst_cmp (by kernel_rfl) ?_))
  walk_at "name"
  refine ev_none (op_is_none (.inl ⟨rfl, rfl⟩) (truth_bool ?_))
  rw [if_pos rfl]
  refine exs_cons (ex_assign (by kernel_rfl) (by rfl) (ev_list (evl_nil ⟨by decide, fun c => ⟨_, by (repeat (first | with_reducible exact SetL.here | with_reducible exact SetL.new | (with_reducible apply SetL.there; (focus (dsimp only; decide))))), ?_⟩⟩)))
  refine exs_nil (exs_cons (ex_assign1 (by rfl) ?_))
  walk_at "name"
  refine as_slice ?_
  walk_at "name"
  refine ev_slice (evo_none (evo_none (evo_none fun sl => ?_)))
  refine ⟨_, _, _, _, _, ds, [], _, _, _, _, _, rfl, rfl, rfl, accK11, .here, .none, .none, .there .here, by omega, by simp, .there (.there (by rw [putS_all]; exact ha)), ?_⟩
  refine exs_cons (ex_assign1 (by rfl) (ev_int (as_attr (cd := cd') ?_)))
  walk_at "name"
  refine ⟨_, _, _, _, _, _, _, rfl, S, .there (.there ha.has'), by kernel_rfl, hs, hll, .there (.there hd), ?_⟩
  refine exs_nil ⟨_, .cons _ (.cons _ (List.Sublist.refl _)), q⟩
theorem d189 : DefK (K11 P) 189 ["self"] := defK_of (by kernel_rfl)
theorem onlyws11 {n : Int} {ps : List (Str × Str)} (hh : A.handled = none) (hD : A.depth ≤ 700) (hU : A.units ≤ 7000) (ha : HasO x (.acc 200 d (ps.map dpair)) own) (hd : HasO d (.idict [("_initial_size", .int n)]) own) (ht : HasO 162 .tab own) (hs : HasO 169 .tab own)
    (hn0 : 0 ≤ n) (hn : n ≤ 100000) (hps : ∀ p ∈ ps, p.1.length ≤ 1000 ∧ p.2.length ≤ 1000) (hpl : ps.length ≤ 1000) (q : Q (.bool (decide (n = 0) && whiteAll (txt ps))) own) : CallT pr11 w (K11 P) A own (.ref 189) [.raw (.ref x)] Q := by
  obtain ⟨cd', S⟩ := storeK11 (P := P)
  refine callT_fn (ddefs := []) d189 [("self", .raw (.ref x))] [] lim11 rfl rfl (fun _ => .nil) (fun S vs h => by obtain ⟨a, rfl⟩ := len1 h; kernel_rfl) hh (by walk_at "om") (by walk_at "om") fun L => ?_
  have e1 : (dfFm pr11 w (K11 P) A 189 L _ d189 hh (by walk_at "om") (by walk_at "om")).A.depth = A.depth + 1 := rfl
  have e2 : (dfFm pr11 w (K11 P) A 189 L _ d189 hh (by walk_at "om") (by walk_at "om")).A.units = A.units + 3 := rfl
  have sg := signs_top' hps
  have s0 := signs_nn' ps
  refine exs_cons (ex_return (ev_and2 (ev_cmp (by kernel_rfl) (ev_attr (cd := cd') (e := .int n) rfl (by decide +kernel) rfl ?_))))
  walk_at "name"
  refine ⟨_, _, _, _, _, rfl, accK11, S, ha, hd, by kernel_rfl, rfl, ev_int (op_eq ⟨_, rfl, ?_⟩)⟩
  by_cases hz : n = 0
  · rw [show decide (n = 0) = true from decide_eq_true hz, if_pos rfl]
    refine ev_or2 (ev_not ?_)
    walk_at "name"
    refine truth_acc (f := 167) (C := 200) (d := d) (ds := ps.map dpair) ha (by kernel_rfl) (by kernel_rfl) (by kernel_rfl) (len11 (ps := ps) (n := n) (l := [("_initial_size", .int n)]) hh (by simp only [Around.in1_depth]; rw [e1]; omega) (by simp only [Around.in1_units]; rw [e2]; omega) ha hd rfl ht (fun p hp => ⟨by have := hps p hp; omega, by have := hps p hp; omega⟩) ⟨_, rfl, by omega, by omega, ⟨_, rfl, ?_⟩⟩)
    by_cases hp0 : n + signs ps = 0
    · rw [show (!decide (n + signs ps ≠ 0)) = true by simp [hp0], if_pos rfl]
      rw [whiteAll_nil (ps := ps) (by walk_at "om"), show decide (n = 0) = true from decide_eq_true hz] at q
      exact q
    · rw [show (!decide (n + signs ps ≠ 0)) = false by simp [hp0], if_neg (by decide)]
      refine ev_meth (ev_call (f := .type "str") (.inr (.inr ⟨_, rfl⟩)) (by kernel_rfl) ?_)
      walk_at "name"
      refine ⟨rfl, evl_cons ?_⟩
      walk_at "name"
      refine evl_nil (op_str_acc (f := 174) (C := 200) (d := d) (ds := ps.map dpair) ha (by kernel_rfl) (by kernel_rfl) (by show 9000 + 3 + 2 < cLine; decide) (str11 (ps := ps) hh (by simp only [Around.in1_depth]; rw [e1]; omega) (by simp only [Around.in1_units]; rw [e2]; omega) ha hs hps hpl ⟨_, rfl, ?_⟩))
      refine meth_str (i := "str.isspace") gm_isspace (by kernel_rfl) (evl_nil (op_isspace ?_))
      rw [show Txt.isspace (txt ps) = whiteAll (txt ps) from isspace_white (by have := txt_len ps; omega)]
      rw [show (decide (n = 0) && whiteAll (txt ps)) = whiteAll (txt ps) by rw [decide_eq_true hz, Bool.true_and]] at q
      exact q
  · rw [show decide (n = 0) = false from decide_eq_false hz, if_neg (by decide)]
    rw [show decide (n = 0) = false from decide_eq_false hz, Bool.false_and] at q
    exact q
end Mine

end
section
open PySem PySem.W PySem.Builtin PySem.Builtin.ObjectAttr
open PyProof.Rows hiding wpAt wpAt_bind
set_option linter.unusedSectionVars false
set_option maxRecDepth 100000
set_option maxHeartbeats 1000000
set_option linter.unusedVariables false
namespace Mine
local macro_rules | `(tactic| walk_at "om") => `(tactic| first | assumption | exact Nat.le_trans (by assumption) (by decide) | exact Int.le_trans (by assumption) (by decide) | ((with_reducible rw [List.length_map]); first | assumption | exact Nat.le_trans (by assumption) (by decide) | omega) | omega | (simp; omega) | fail "none")
local macro_rules | `(tactic| walk_at "has") => `(tactic| repeat (first | assumption | with_reducible exact Has.here | with_reducible exact HasO.here | with_reducible exact Upd.here | with_reducible apply Has.there | with_reducible apply HasO.there | with_reducible apply Upd.there))
local macro_rules | `(tactic| walk_at "name") => `(tactic| first | with_reducible refine ev_name (by kernel_rfl) (by decide +kernel) (by walk_at "has") ?_ | with_reducible refine ev_builtin (by kernel_rfl) (by decide +kernel) (by kernel_rfl) (by decide +kernel) (by (first | with_reducible exact boot_len | with_reducible exact boot_sum | with_reducible exact boot_str | with_reducible exact boot_range | with_reducible exact boot_zip | fail "none")) ?_ | fail "none")
local macro_rules | `(tactic| walk_at "fn") => `(tactic| first | with_reducible refine ev_call (f := .builtin "len") callee_b (by kernel_rfl) (ev_builtin (by kernel_rfl) (by decide +kernel) (by kernel_rfl) (by decide +kernel) boot_len ⟨rfl, ?_⟩) | with_reducible refine ev_call (f := .builtin "sum") callee_b (by kernel_rfl) (ev_builtin (by kernel_rfl) (by decide +kernel) (by kernel_rfl) (by decide +kernel) boot_sum ⟨rfl, ?_⟩) | with_reducible refine ev_call (f := .type "str") callee_t (by kernel_rfl) (ev_builtin (by kernel_rfl) (by decide +kernel) (by kernel_rfl) (by decide +kernel) boot_str ⟨rfl, ?_⟩) | fail "none")
variable [aI : Membership Nat Unit]
variable {P : PySem.Params} {w : World} {A : Around} {own own' : Own} {Q : Dv → Own → Prop} {f fd ln x d : Addr} {wd : Int} {cw sg : Str}
theorem insK11 : ∃ cd, InsK (K11 P) 116 cd := ⟨_, ⟨rfl, rfl, .inr rfl, by kernel_rfl⟩, by kernel_rfl, by kernel_rfl⟩
noncomputable abbrev fa11 (ln x : Addr) (wd : Int) (cw sg : Str) : List (Str × Dv) := [("_maxlen", .int wd), ("_continuation_ws", .str cw), ("_continuation_ws_len", .int cw.length), ("_splitchars", .str sg), ("_lines", .raw (.ref ln)), ("_current_line", .raw (.ref x))]
noncomputable abbrev fo11 (f fd ln x d : Addr) (wd : Int) (cw sg : Str) (s : FS) (rest : Own) : Own := (f, .inst 116 fd) :: (fd, .idict (fa11 ln x wd cw sg)) :: (ln, .list (s.rows.map .str)) :: (x, .acc 200 d (s.ps.map dpair)) :: (d, .idict [("_initial_size", .int s.n)]) :: (162, .tab) :: (169, .tab) :: rest
theorem dn11 : DefK (K11 P) 78 ["self"] := defK_of (by kernel_rfl)
theorem pops11 {l : List (Str × Dv)} {ps : List (Str × Str)} (hh : A.handled = none) (hD : A.depth ≤ 800) (hU : A.units ≤ 8000) (hl : ps.length ≤ 100000) (ha : Upd x (.acc 200 d (ps.map dpair)) (.acc 200 d (ps.dropLast.map dpair)) own own') (hd : HasO d (.idict l) own) (hn : l.lookup ("part_count" : Str) = none) (q : Q (dpair (lastP ps)) own') :
    CallT pr11 w (K11 P) A own (.ref 160) [.raw (.ref x)] Q :=
  pop11 (ds := ps.map dpair) hh hD hU (by simpa using hl) (by rw [← List.map_dropLast]; exact ha) hd hn (by rw [popD_map]; exact q)
theorem newlineT11 {rows : List Str} {n : Int} {ms : List (Str × Str)} {rest : Own} (hh : A.handled = none) (hD : A.depth ≤ 600) (hU : A.units ≤ 6000) (n0 : 0 ≤ n) (n1 : n ≤ 1000) (hf : Fits ms) (hl : ms.length ≤ 200) (hrl : rows.length ≤ 1000) (hrow : ∀ r ∈ rows, r.length ≤ 400000) (hms : (txt ms).length ≤ 400000)
    (L : Addr) {hD' : A.depth ≤ 900} {hU' : A.units ≤ 9000} (q : Q .none (fo11 f fd ln x d wd cw sg ⟨nlRows rows n ms, 0, []⟩ rest)) :
    Exs (dfFm pr11 w (K11 P) A 78 L _ dn11 hh hD' hU') [("self", .raw (.ref f))] (fo11 f fd ln x d wd cw sg ⟨rows, n, ms⟩ rest) ((bodyOf (fnOf (K11 P) 78)).drop 2) fun fl loc own => ∃ o', o'.Sublist own ∧ Q (retOf fl) o' := by
  obtain ⟨cdF, IF⟩ := insK11 (P := P)
  have e1 : (dfFm pr11 w (K11 P) A 78 L _ dn11 hh hD' hU').A.depth = A.depth + 1 := rfl
  have e2 : (dfFm pr11 w (K11 P) A 78 L _ dn11 hh hD' hU').A.units = A.units + 3 := rfl
  have sg1 := signs_top' hf
  have sg0 := signs_nn' ms
  have hf2 : ∀ p ∈ ms, p.1.length ≤ 1000000 ∧ p.2.length ≤ 1000000 := fun p hp => by have := hf p hp; omega
  have tail : ∀ rows' : List Str, rows' = nlRows rows n ms → Exs (dfFm pr11 w (K11 P) A 78 L _ dn11 hh hD' hU') [("self", .raw (.ref f))] (fo11 f fd ln x d wd cw sg ⟨rows', n, ms⟩ rest) ((bodyOf (fnOf (K11 P) 78)).drop 3) fun fl loc own => ∃ o', o'.Sublist own ∧ Q (retOf fl) o' := by
    intro rows' he
    subst he
    ((refine exs_cons ?_; first | (refine ex_assignS ?hs ?_; (case hs => exact swaps_plain (by rfl))) | refine ex_expr (by kernel_rfl) (by rfl) ?_ | refine ex_if ?_ | refine ex_return ?_ | fail "none"))
    refine ev_meth ?_
    ((refine ev_attrI rfl ?_; walk_at "name"; refine ⟨_, _, _, _, _, _, rfl, by assumption, by walk_at "has", by walk_at "has", by kernel_rfl, rfl, rfl, ?_⟩))
    refine meth_fn (f := 182) accK11 (by walk_at "has") (by walk_at "has") (by kernel_rfl) (by kernel_rfl) (by kernel_rfl) (by kernel_rfl) (by kernel_rfl) (evl_nil ?_)
    refine opN_callT (reset11' (x := x) (d := d) (ds := ms.map dpair) (l := [("_initial_size", .int n)]) (l' := [("_initial_size", .int 0)]) (own' := fo11 f fd ln x d wd cw sg ⟨nlRows rows n ms, n, []⟩ rest) (own'' := fo11 f fd ln x d wd cw sg ⟨nlRows rows n ms, 0, []⟩ rest) hh (by omega) (by omega) (by simp; omega) (.there (.there (.there .here))) (by walk_at "has") .here (by simp) ?_)
    exact exs_nil ⟨_, List.Sublist.refl _, q⟩
  -- len(self._current_line) > 0
  refine exs_cons (ex_if (tst_cmp (by kernel_rfl) ?_))
  walk_at "fn"
  refine evl_cons ?_
  ((refine ev_attrI rfl ?_; walk_at "name"; refine ⟨_, _, _, _, _, _, rfl, by assumption, by walk_at "has", by walk_at "has", by kernel_rfl, rfl, rfl, ?_⟩))
  refine evl_nil ?_
  refine op_len_acc (f := 167) (C := 200) (d := d) (ds := ms.map dpair) (by walk_at "has") (by kernel_rfl) (by kernel_rfl) (len11 (ps := ms) (n := n) (l := [("_initial_size", .int n)]) hh (by show A.depth + 1 ≤ 800; omega) (by show A.units + 3 + 1 ≤ 8000; omega) (by walk_at "has") (by walk_at "has") rfl (by walk_at "has") hf2 ⟨_, rfl, by omega, by omega, ?_⟩)
  (repeat' ((first | (with_reducible first | refine ev_bin ?_ | refine ev_int ?_ | refine ev_str ?_ | refine ev_bool ?_ | refine ev_none ?_ | walk_at "name" | walk_at "fn" | refine ev_sub ?_ | refine ev_slice ?_ | refine evo_none ?_ | refine evo_some ?_ | refine ev_tuple ?_ | refine ev_list ?_ | refine evl_nil ?_ | refine op_add ?_ | refine op_sub ?_ | refine op_lt ?_ | refine op_gt ?_ | refine op_le ?_ | refine op_eq ?_ | refine op_ne ?_ | refine op_eq_str ?_ | refine op_ne_str ?_ | refine op_max ?_ | refine op_min ?_ | refine op_abs ?_ | refine op_mod (by first | decide | walk_at "om") ?_ | refine op_div (by first | decide | walk_at "om") (by first | decide | walk_at "om") ?_ | refine op_len_str (by first | decide | walk_at "om") ?_ | refine op_cat (by first | decide | walk_at "om") ?_ | refine truth_bool ?_ | refine tst_cmp (by kernel_rfl) ?_ | refine ev_cmp (by kernel_rfl) ?_ | refine tst_not ?_ | fail "none") | ((with_reducible show EvL _ _ _ _ (_ :: _) _); refine evl_cons ?_) | ((with_reducible show Ev _ _ _ (.Call (.Attribute _ _ _) _ [] _) _); refine ev_meth ?_) | fail "none")))
  by_cases h0 : 0 < n + signs ms
  · rw [if_pos (decide_eq_true h0)]
    -- only white signs, and there are rows
    refine exs_cons (ex_if (tst_mono (Q := fun b l o => b = decide (n = 0 ∧ whiteAll (txt ms) = true ∧ rows ≠ []) ∧ l = ([("self", .raw (.ref f))] : Loc) ∧ o = fo11 f fd ln x d wd cw sg ⟨rows, n, ms⟩ rest) ?_ ?_))
    · refine tst_bool (all_and_cons (tst_plain (ev_meth ?_)))
      ((refine ev_attrI rfl ?_; walk_at "name"; refine ⟨_, _, _, _, _, _, rfl, by assumption, by walk_at "has", by walk_at "has", by kernel_rfl, rfl, rfl, ?_⟩))
      refine meth_fn (f := 189) accK11 (by walk_at "has") (by walk_at "has") (by kernel_rfl) (by kernel_rfl) (by kernel_rfl) (by kernel_rfl) (by kernel_rfl) (evl_nil ?_)
      refine opN_callT (onlyws11 (ps := ms) (n := n) (d := d) hh (by omega) (by omega) (by walk_at "has") (by walk_at "has") (by walk_at "has") (by walk_at "has") n0 (by omega) hf (by omega) ?_)
      refine truth_bool ?_
      cases hw : decide (n = 0) && whiteAll (txt ms) with
      | false =>
        rw [if_neg (by decide)]
        refine ⟨(decide_eq_false ?_).symm, rfl, rfl⟩
        rintro ⟨a, b, _⟩
        rw [b, decide_eq_true a] at hw
        cases hw
      | true =>
        rw [if_pos rfl]
        refine all_and_cons (tst_plain ?_)
        ((refine ev_attrI rfl ?_; walk_at "name"; refine ⟨_, _, _, _, _, _, rfl, by assumption, by walk_at "has", by walk_at "has", by kernel_rfl, rfl, rfl, ?_⟩))
        refine truth_list (ds := rows.map .str) (by walk_at "has") (by simp; omega) ?_
        simp only [Bool.and_eq_true, decide_eq_true_eq] at hw
        cases hr : rows with
        | nil => exact ⟨by simp, rfl, rfl⟩
        | cons a b => exact all_and_nil ⟨by simp [hw], rfl, rfl⟩
    · rintro b _ _ ⟨hb, rfl, rfl⟩
      by_cases hc : n = 0 ∧ whiteAll (txt ms) = true ∧ rows ≠ []
      · rw [decide_eq_true hc] at hb
        subst hb
        rw [if_pos rfl]
        obtain ⟨ys, y, rfl⟩ : ∃ ys y, rows = ys ++ [y] := ⟨_, _, (List.dropLast_concat_getLast hc.2.2).symm⟩
        refine exs_cons (ex_aug_last ?_)
        ((refine ev_attrI rfl ?_; walk_at "name"; refine ⟨_, _, _, _, _, _, rfl, by assumption, by walk_at "has", by walk_at "has", by kernel_rfl, rfl, rfl, ?_⟩))
        refine ev_neg ?_
        (repeat' ((first | (with_reducible first | refine ev_bin ?_ | refine ev_int ?_ | refine ev_str ?_ | refine ev_bool ?_ | refine ev_none ?_ | walk_at "name" | walk_at "fn" | refine ev_sub ?_ | refine ev_slice ?_ | refine evo_none ?_ | refine evo_some ?_ | refine ev_tuple ?_ | refine ev_list ?_ | refine evl_nil ?_ | refine op_add ?_ | refine op_sub ?_ | refine op_lt ?_ | refine op_gt ?_ | refine op_le ?_ | refine op_eq ?_ | refine op_ne ?_ | refine op_eq_str ?_ | refine op_ne_str ?_ | refine op_max ?_ | refine op_min ?_ | refine op_abs ?_ | refine op_mod (by first | decide | walk_at "om") ?_ | refine op_div (by first | decide | walk_at "om") (by first | decide | walk_at "om") ?_ | refine op_len_str (by first | decide | walk_at "om") ?_ | refine op_cat (by first | decide | walk_at "om") ?_ | refine truth_bool ?_ | refine tst_cmp (by kernel_rfl) ?_ | refine ev_cmp (by kernel_rfl) ?_ | refine tst_not ?_ | fail "none") | ((with_reducible show EvL _ _ _ _ (_ :: _) _); refine evl_cons ?_) | ((with_reducible show Ev _ _ _ (.Call (.Attribute _ _ _) _ [] _) _); refine ev_meth ?_) | fail "none")))
        refine ⟨_, rfl, _, ys, y, rfl, rfl, by walk_at "has", by simp at hrl; omega, ?_⟩
        walk_at "fn"
        refine evl_cons ?_
        ((refine ev_attrI rfl ?_; walk_at "name"; refine ⟨_, _, _, _, _, _, rfl, by assumption, by walk_at "has", by walk_at "has", by kernel_rfl, rfl, rfl, ?_⟩))
        refine evl_nil (op_str_acc (f := 174) (C := 200) (d := d) (ds := ms.map dpair) (by walk_at "has") (by kernel_rfl) (by kernel_rfl) (by show 9000 + 3 + 2 < cLine; decide) (str11 (ps := ms) hh (by show A.depth + 1 ≤ 800; omega) (by show A.units + 3 + 1 + 1 ≤ 8000; omega) (by walk_at "has") (by walk_at "has") hf (by omega) ⟨_, rfl, ?_⟩))
        refine ⟨_, fo11 f fd ln x d wd cw sg ⟨ys ++ [y ++ txt ms], n, ms⟩ rest, rfl, by have := hrow y (by simp); omega, by walk_at "has", ?_⟩
        exact exs_nil (exs_nil (tail _ (nl_aug h0 hc.1 hc.2.1).symm))
      · rw [decide_eq_false hc] at hb
        subst hb
        rw [if_neg (by decide)]
        ((refine exs_cons ?_; first | (refine ex_assignS ?hs ?_; (case hs => exact swaps_plain (by rfl))) | refine ex_expr (by kernel_rfl) (by rfl) ?_ | refine ex_if ?_ | refine ex_return ?_ | fail "none"))
        refine ev_meth ?_
        ((refine ev_attrI rfl ?_; walk_at "name"; refine ⟨_, _, _, _, _, _, rfl, by assumption, by walk_at "has", by walk_at "has", by kernel_rfl, rfl, rfl, ?_⟩))
        refine meth_list (ds := rows.map .str) (by walk_at "has") lk_append ty_append (by kernel_rfl) (evl_cons ?_)
        walk_at "fn"
        refine evl_cons ?_
        ((refine ev_attrI rfl ?_; walk_at "name"; refine ⟨_, _, _, _, _, _, rfl, by assumption, by walk_at "has", by walk_at "has", by kernel_rfl, rfl, rfl, ?_⟩))
        refine evl_nil (op_str_acc (f := 174) (C := 200) (d := d) (ds := ms.map dpair) (by walk_at "has") (by kernel_rfl) (by kernel_rfl) (by show 9000 + 3 + 2 < cLine; decide) (str11 (ps := ms) hh (by show A.depth + 1 ≤ 800; omega) (by show A.units + 3 + 1 + 1 ≤ 8000; omega) (by walk_at "has") (by walk_at "has") hf (by omega) ⟨_, rfl, ?_⟩))
        refine evl_nil (op_append (ds := rows.map .str) (mk := .list) (own' := fo11 f fd ln x d wd cw sg ⟨rows ++ [txt ms], n, ms⟩ rest) ?_ .list (by simp; omega) ?_)
        · rw [show rows.map Dv.str ++ [Dv.str (txt ms)] = (rows ++ [txt ms]).map Dv.str by simp]
          walk_at "has"
        exact exs_nil (exs_nil (tail _ (nl_app h0 hc).symm))
  · rw [if_neg (by simp [h0])]
    exact exs_nil (tail _ (nl_no h0).symm)
theorem newline11 {s : FS} {rest : Own} (hh : A.handled = none) (hD : A.depth ≤ 600) (hU : A.units ≤ 6000) (hs : s.Ok) (q : Q .none (fo11 f fd ln x d wd cw sg s.nl rest)) :
    CallT pr11 w (K11 P) A (fo11 f fd ln x d wd cw sg s rest) (.ref 78) [.raw (.ref f)] Q := by
  obtain ⟨cdF, IF⟩ := insK11 (P := P)
  obtain ⟨cd', S⟩ := storeK11 (P := P)
  obtain ⟨rows, n, ps⟩ := s
  obtain ⟨n0, n1, hf, hl, hrl, hsz⟩ := id hs
  dsimp only at n0 n1 hf hl hrl hsz
  refine callT_weak (callT_fn (ddefs := []) dn11 [("self", .raw (.ref f))] [] lim11 rfl rfl (fun _ => .nil) (fun S vs h => by obtain ⟨a, rfl⟩ := len1 h; kernel_rfl) hh (by walk_at "om") (by walk_at "om") fun L => ?_)
  have e1 : (dfFm pr11 w (K11 P) A 78 L _ dn11 hh (by walk_at "om") (by walk_at "om")).A.depth = A.depth + 1 := rfl
  have e2 : (dfFm pr11 w (K11 P) A 78 L _ dn11 hh (by walk_at "om") (by walk_at "om")).A.units = A.units + 3 := rfl
  have ml := mid_len (ps := ps)
  ((refine exs_cons ?_; first | (refine ex_assignS ?hs ?_; (case hs => exact swaps_plain (by rfl))) | refine ex_expr (by kernel_rfl) (by rfl) ?_ | refine ex_if ?_ | refine ex_return ?_ | fail "none"))
  refine ev_meth ?_
  ((refine ev_attrI rfl ?_; walk_at "name"; refine ⟨_, _, _, _, _, _, rfl, by assumption, by walk_at "has", by walk_at "has", by kernel_rfl, rfl, rfl, ?_⟩))
  refine meth_fn (f := 160) accK11 (by walk_at "has") (by walk_at "has") (by kernel_rfl) (by kernel_rfl) (by kernel_rfl) (by kernel_rfl) (by kernel_rfl) (evl_nil ?_)
  refine opN_callT (pops11 (ps := ps) (l := [("_initial_size", .int n)]) (own' := fo11 f fd ln x d wd cw sg ⟨rows, n, ps.dropLast⟩ rest) hh (by omega) (by omega) (by omega) (by walk_at "has") (by walk_at "has") (by kernel_rfl) ?_)
  refine ⟨_, _, by ((refine StoreTo.loc (by kernel_rfl) (by (repeat (first | with_reducible exact SetL.here | with_reducible exact SetL.new | (with_reducible apply SetL.there; (focus (dsimp only; decide)))))))), ?_⟩
  refine exs_cons (ex_if (tst_cmp (by kernel_rfl) ?_))
  (repeat' (first | (first | (with_reducible first | refine ev_bin ?_ | refine ev_int ?_ | refine ev_str ?_ | refine ev_bool ?_ | refine ev_none ?_ | walk_at "name" | walk_at "fn" | refine ev_sub ?_ | refine ev_slice ?_ | refine evo_none ?_ | refine evo_some ?_ | refine ev_tuple ?_ | refine ev_list ?_ | refine evl_nil ?_ | refine op_add ?_ | refine op_sub ?_ | refine op_lt ?_ | refine op_gt ?_ | refine op_le ?_ | refine op_eq ?_ | refine op_ne ?_ | refine op_eq_str ?_ | refine op_ne_str ?_ | refine op_max ?_ | refine op_min ?_ | refine op_abs ?_ | refine op_mod (by first | decide | walk_at "om") ?_ | refine op_div (by first | decide | walk_at "om") (by first | decide | walk_at "om") ?_ | refine op_len_str (by first | decide | walk_at "om") ?_ | refine op_cat (by first | decide | walk_at "om") ?_ | refine truth_bool ?_ | refine tst_cmp (by kernel_rfl) ?_ | refine ev_cmp (by kernel_rfl) ?_ | refine tst_not ?_ | fail "none") | ((with_reducible show EvL _ _ _ _ (_ :: _) _); refine evl_cons ?_) | ((with_reducible show Ev _ _ _ (.Call (.Attribute _ _ _) _ [] _) _); refine ev_meth ?_) | fail "none") | ((with_reducible show List.length _ ≤ 1000 ∧ _); refine And.intro (Nat.le_of_ble_eq_true rfl) ?_) | fail "none"))
  show Op2 _ _ _ (encSS (lastP ps)) (encSS oneSp) _ _
  refine op_ne_pair cmpStr cmpStr (by show 9000 + 3 + 1 < cLine; decide) ?_
  refine truth_bool ?_
  by_cases h : lastP ps = oneSp
  · rw [if_neg (by simp [h])]
    refine exs_nil (exs_both (loc1 := [("self", .raw (.ref f))]) (by (repeat (first | with_reducible exact List.Sublist.refl _ | with_reducible apply List.Sublist.cons_cons | with_reducible apply List.Sublist.cons | exact List.nil_sublist _))) (List.Sublist.refl _) ?_)
    have hm : midP ps = ps.dropLast := by unfold midP; rw [if_pos h]
    rw [← hm]
    exact newlineT11 hh hD hU n0 n1 (mid_fits hf) (by omega) hrl hs.row hs.mid L q
  · rw [if_pos (by simp [h])]
    ((refine exs_cons ?_; first | (refine ex_assignS ?hs ?_; (case hs => exact swaps_plain (by rfl))) | refine ex_expr (by kernel_rfl) (by rfl) ?_ | refine ex_if ?_ | refine ex_return ?_ | fail "none"))
    refine ev_meth_star (cd := cd') rfl (by decide +kernel) rfl ?_
    ((refine ev_attrI rfl ?_; walk_at "name"; refine ⟨_, _, _, _, _, _, rfl, by assumption, by walk_at "has", by walk_at "has", by kernel_rfl, rfl, rfl, ?_⟩))
    refine ⟨_, _, _, _, _, 144, rfl, accK11, S, by walk_at "has", by walk_at "has", by kernel_rfl, by kernel_rfl, by kernel_rfl, by kernel_rfl, by kernel_rfl, ⟨_, _, _, _, rfl⟩, ?_⟩
    walk_at "name"
    refine ⟨_, rfl, by simp, push11s (ps := ps.dropLast) (f := (lastP ps).1) (g := (lastP ps).2) (own' := fo11 f fd ln x d wd cw sg ⟨rows, n, ps.dropLast ++ [lastP ps]⟩ rest) hh (by omega) (by omega) (by simp; omega) (by walk_at "has") (by walk_at "has") (by kernel_rfl) ?_⟩
    refine exs_nil (exs_both (loc1 := [("self", .raw (.ref f))]) (by (repeat (first | with_reducible exact List.Sublist.refl _ | with_reducible apply List.Sublist.cons_cons | with_reducible apply List.Sublist.cons | exact List.nil_sublist _))) (List.Sublist.refl _) ?_)
    have hm : midP ps = ps.dropLast ++ [lastP ps] := by unfold midP; rw [if_neg h]
    rw [← hm]
    exact newlineT11 hh hD hU n0 n1 (mid_fits hf) (by omega) hrl hs.row hs.mid L q

open PySem PySem.W PySem.Builtin PySem.Builtin.ObjectAttr
open PyProof.Rows hiding wpAt wpAt_bind
set_option linter.unusedSectionVars false
set_option maxRecDepth 100000
set_option maxHeartbeats 1000000
set_option linter.unusedVariables false
variable {P : PySem.Params} {w : World} {A : Around} {own own' : Own} {Q : Dv → Own → Prop} {f fd ln x d : Addr} {wd : Int} {cw sg : Str}
theorem da11 : DefK (K11 P) 113 ["self", "fws", "string"] := defK_of (by kernel_rfl)
noncomputable abbrev ob11 (P : PySem.Params) : List Stmt := (forBodies (ifThen ((bodyOf (fnOf (K11 P) 113)).drop 1))).getD 0 []
noncomputable abbrev ib11 (P : PySem.Params) : List Stmt := (forBodies (ob11 P)).getD 0 []
theorem pair_at {qs : List (Str × Str)} {i : Nat} (h : i < qs.length) : (qs.map dpair)[((i : Nat) : Int).toNat]? = some (dpair (qs.getD i nilP)) := by
  rw [Int.toNat_natCast, List.getElem?_map, List.getD_eq_getElem?_getD, List.getElem?_eq_getElem h]; rfl
theorem pair_fits {qs : List (Str × Str)} (hf : Fits qs) (i : Nat) : (qs.getD i nilP).1.length ≤ 1000 ∧ (qs.getD i nilP).2.length ≤ 1000 := by
  rw [List.getD_eq_getElem?_getD]
  cases h : qs[i]? with
  | none => exact ⟨by decide +kernel, by decide +kernel⟩
  | some p => exact hf p (List.mem_of_getElem? h)
theorem turnB11 {s : FS} {rest : Own} {c i : Nat} (hh : A.handled = none) (hi : 1 ≤ i) (hl : i < s.ps.length) (hf : Fits s.ps) (hm : s.ps.length ≤ 200) (L : Addr) {hD' : A.depth ≤ 900} {hU' : A.units ≤ 9000} :
    Exs (dfFm pr11 w (K11 P) A 113 L _ da11 hh hD' hU') [("self", .raw (.ref f)), ("ch", .str ⟨#[c]⟩), ("i", .int i)] (fo11 f fd ln x d wd cw sg s rest) ((ib11 P).drop 1)
      fun fl loc own => fl = (if hitL (s.ps.getD (i - 1) nilP).2 c then .brk else .next) ∧ ([("self", .raw (.ref f)), ("ch", .str ⟨#[c]⟩), ("i", .int i)] : Loc).Sublist loc ∧ own = fo11 f fd ln x d wd cw sg s rest := by
  obtain ⟨cdF, IF⟩ := insK11 (P := P)
  have hb := pair_fits hf (i - 1)
  ((refine exs_cons ?_; first | (refine ex_assignS ?hs ?_; (case hs => exact swaps_plain (by rfl))) | refine ex_expr (by kernel_rfl) (by rfl) ?_ | refine ex_if ?_ | refine ex_return ?_ | fail "none"))
  refine ev_sub (ev_sub ?_)
  ((refine ev_attrI rfl ?_; walk_at "name"; refine ⟨_, _, _, _, _, _, rfl, by assumption, by walk_at "has", by walk_at "has", by kernel_rfl, rfl, rfl, ?_⟩))
  (repeat' ((first | (with_reducible first | refine ev_bin ?_ | refine ev_int ?_ | refine ev_str ?_ | refine ev_bool ?_ | refine ev_none ?_ | walk_at "name" | walk_at "fn" | refine ev_sub ?_ | refine ev_slice ?_ | refine evo_none ?_ | refine evo_some ?_ | refine ev_tuple ?_ | refine ev_list ?_ | refine evl_nil ?_ | refine op_add ?_ | refine op_sub ?_ | refine op_lt ?_ | refine op_gt ?_ | refine op_le ?_ | refine op_eq ?_ | refine op_ne ?_ | refine op_eq_str ?_ | refine op_ne_str ?_ | refine op_max ?_ | refine op_min ?_ | refine op_abs ?_ | refine op_mod (by first | decide | walk_at "om") ?_ | refine op_div (by first | decide | walk_at "om") (by first | decide | walk_at "om") ?_ | refine op_len_str (by first | decide | walk_at "om") ?_ | refine op_cat (by first | decide | walk_at "om") ?_ | refine truth_bool ?_ | refine tst_cmp (by kernel_rfl) ?_ | refine ev_cmp (by kernel_rfl) ?_ | refine tst_not ?_ | fail "none") | ((with_reducible show EvL _ _ _ _ (_ :: _) _); refine evl_cons ?_) | ((with_reducible show Ev _ _ _ (.Call (.Attribute _ _ _) _ [] _) _); refine ev_meth ?_) | fail "none")))
  rw [show (i : Int) - 1 = ((i - 1 : Nat) : Int) by omega]
  refine sub_acc accK11 (by walk_at "has") (by kernel_rfl) (by omega) (pair_at (by omega)) (by simp; omega) ?_
  (repeat' ((first | (with_reducible first | refine ev_bin ?_ | refine ev_int ?_ | refine ev_str ?_ | refine ev_bool ?_ | refine ev_none ?_ | walk_at "name" | walk_at "fn" | refine ev_sub ?_ | refine ev_slice ?_ | refine evo_none ?_ | refine evo_some ?_ | refine ev_tuple ?_ | refine ev_list ?_ | refine evl_nil ?_ | refine op_add ?_ | refine op_sub ?_ | refine op_lt ?_ | refine op_gt ?_ | refine op_le ?_ | refine op_eq ?_ | refine op_ne ?_ | refine op_eq_str ?_ | refine op_ne_str ?_ | refine op_max ?_ | refine op_min ?_ | refine op_abs ?_ | refine op_mod (by first | decide | walk_at "om") ?_ | refine op_div (by first | decide | walk_at "om") (by first | decide | walk_at "om") ?_ | refine op_len_str (by first | decide | walk_at "om") ?_ | refine op_cat (by first | decide | walk_at "om") ?_ | refine truth_bool ?_ | refine tst_cmp (by kernel_rfl) ?_ | refine ev_cmp (by kernel_rfl) ?_ | refine tst_not ?_ | fail "none") | ((with_reducible show EvL _ _ _ _ (_ :: _) _); refine evl_cons ?_) | ((with_reducible show Ev _ _ _ (.Call (.Attribute _ _ _) _ [] _) _); refine ev_meth ?_) | fail "none")))
  refine sub_tuple (d := .str (s.ps.getD (i - 1) nilP).2) (by kernel_rfl) (by decide) rfl (Nat.le_of_ble_eq_true rfl) ?_
  refine ⟨_, _, by ((refine StoreTo.loc (by kernel_rfl) (by (repeat (first | with_reducible exact SetL.here | with_reducible exact SetL.new | (with_reducible apply SetL.there; (focus (dsimp only; decide)))))))), ?_⟩
  generalize (s.ps.getD (i - 1) nilP).2 = b at hb ⊢
  refine exs_cons (ex_if (tst_mono (Q := fun t l o => t = hitL b c ∧ l = ([("self", .raw (.ref f)), ("ch", .str ⟨#[c]⟩), ("i", .int i), ("prevpart", .str b)] : Loc) ∧ o = fo11 f fd ln x d wd cw sg s rest) ?_ ?_))
  · refine tst_bool (all_and_cons (tst_plain ?_))
    walk_at "name"
    refine truth_str (by omega) ?_
    by_cases hz : b.length = 0
    · rw [if_neg (by simp [hz])]
      exact ⟨(hitL_nil hz).symm, rfl, rfl⟩
    · rw [if_pos (by simp [hz])]
      refine all_and_cons (tst_cmp (by kernel_rfl) (ev_sub ?_))
      walk_at "name"
      refine ev_neg ?_
      (repeat' ((first | (with_reducible first | refine ev_bin ?_ | refine ev_int ?_ | refine ev_str ?_ | refine ev_bool ?_ | refine ev_none ?_ | walk_at "name" | walk_at "fn" | refine ev_sub ?_ | refine ev_slice ?_ | refine evo_none ?_ | refine evo_some ?_ | refine ev_tuple ?_ | refine ev_list ?_ | refine evl_nil ?_ | refine op_add ?_ | refine op_sub ?_ | refine op_lt ?_ | refine op_gt ?_ | refine op_le ?_ | refine op_eq ?_ | refine op_ne ?_ | refine op_eq_str ?_ | refine op_ne_str ?_ | refine op_max ?_ | refine op_min ?_ | refine op_abs ?_ | refine op_mod (by first | decide | walk_at "om") ?_ | refine op_div (by first | decide | walk_at "om") (by first | decide | walk_at "om") ?_ | refine op_len_str (by first | decide | walk_at "om") ?_ | refine op_cat (by first | decide | walk_at "om") ?_ | refine truth_bool ?_ | refine tst_cmp (by kernel_rfl) ?_ | refine ev_cmp (by kernel_rfl) ?_ | refine tst_not ?_ | fail "none") | ((with_reducible show EvL _ _ _ _ (_ :: _) _); refine evl_cons ?_) | ((with_reducible show Ev _ _ _ (.Call (.Attribute _ _ _) _ [] _) _); refine ev_meth ?_) | fail "none")))
      refine ⟨_, rfl, ?_⟩
      refine sub_str (by kernel_rfl) (fun _ _ => rfl) (by omega) (by omega) (by omega) ?_
      walk_at "name"
      refine op_eq_str (truth_bool ?_)
      rw [item_last hz]
      cases hitL b c
      · exact ⟨rfl, rfl, rfl⟩
      · exact all_and_nil ⟨rfl, rfl, rfl⟩
  · rintro t _ _ ⟨rfl, rfl, rfl⟩
    cases hitL b c
    · rw [if_neg (by decide), if_neg (by decide)]
      exact exs_nil (exs_nil ⟨rfl, by (repeat (first | with_reducible exact List.Sublist.refl _ | with_reducible apply List.Sublist.cons_cons | with_reducible apply List.Sublist.cons | exact List.nil_sublist _)), rfl⟩)
    · rw [if_pos rfl, if_pos rfl]
      exact exs_cons (ex_break ⟨rfl, by (repeat (first | with_reducible exact List.Sublist.refl _ | with_reducible apply List.Sublist.cons_cons | with_reducible apply List.Sublist.cons | exact List.nil_sublist _)), rfl⟩)
theorem turnA11 {s : FS} {rest : Own} {c i : Nat} (hh : A.handled = none) (hi : 1 ≤ i) (hl : i < s.ps.length) (hf : Fits s.ps) (hm : s.ps.length ≤ 200) (L : Addr) {hD' : A.depth ≤ 900} {hU' : A.units ≤ 9000} :
    Exs (dfFm pr11 w (K11 P) A 113 L _ da11 hh hD' hU') [("self", .raw (.ref f)), ("ch", .str ⟨#[c]⟩), ("i", .int i)] (fo11 f fd ln x d wd cw sg s rest) (ib11 P)
      fun fl loc own => fl = (if hit s.ps c i then .brk else .next) ∧ ([("self", .raw (.ref f)), ("ch", .str ⟨#[c]⟩), ("i", .int i)] : Loc).Sublist loc ∧ own = fo11 f fd ln x d wd cw sg s rest := by
  obtain ⟨cdF, IF⟩ := insK11 (P := P)
  have hb := pair_fits hf i
  rw [hit_eq]
  refine exs_cons (ex_if (tst_plain (ev_meth ?_)))
  walk_at "name"
  refine meth_str (i := "str.isspace") gm_isspace (by kernel_rfl) (evl_nil (op_isspace ?_))
  rw [isspace_sign]
  refine truth_bool ?_
  cases Unicode.isSpace c
  · rw [if_neg (by decide), Bool.false_and, Bool.false_or]
    exact exs_nil (turnB11 hh hi hl hf hm L)
  · rw [if_pos rfl, Bool.true_and]
    ((refine exs_cons ?_; first | (refine ex_assignS ?hs ?_; (case hs => exact swaps_plain (by rfl))) | refine ex_expr (by kernel_rfl) (by rfl) ?_ | refine ex_if ?_ | refine ex_return ?_ | fail "none"))
    refine ev_sub (ev_sub ?_)
    ((refine ev_attrI rfl ?_; walk_at "name"; refine ⟨_, _, _, _, _, _, rfl, by assumption, by walk_at "has", by walk_at "has", by kernel_rfl, rfl, rfl, ?_⟩))
    walk_at "name"
    refine sub_acc accK11 (by walk_at "has") (by kernel_rfl) (by omega) (pair_at hl) (by simp; omega) ?_
    (repeat' ((first | (with_reducible first | refine ev_bin ?_ | refine ev_int ?_ | refine ev_str ?_ | refine ev_bool ?_ | refine ev_none ?_ | walk_at "name" | walk_at "fn" | refine ev_sub ?_ | refine ev_slice ?_ | refine evo_none ?_ | refine evo_some ?_ | refine ev_tuple ?_ | refine ev_list ?_ | refine evl_nil ?_ | refine op_add ?_ | refine op_sub ?_ | refine op_lt ?_ | refine op_gt ?_ | refine op_le ?_ | refine op_eq ?_ | refine op_ne ?_ | refine op_eq_str ?_ | refine op_ne_str ?_ | refine op_max ?_ | refine op_min ?_ | refine op_abs ?_ | refine op_mod (by first | decide | walk_at "om") ?_ | refine op_div (by first | decide | walk_at "om") (by first | decide | walk_at "om") ?_ | refine op_len_str (by first | decide | walk_at "om") ?_ | refine op_cat (by first | decide | walk_at "om") ?_ | refine truth_bool ?_ | refine tst_cmp (by kernel_rfl) ?_ | refine ev_cmp (by kernel_rfl) ?_ | refine tst_not ?_ | fail "none") | ((with_reducible show EvL _ _ _ _ (_ :: _) _); refine evl_cons ?_) | ((with_reducible show Ev _ _ _ (.Call (.Attribute _ _ _) _ [] _) _); refine ev_meth ?_) | fail "none")))
    refine sub_tuple (d := .str (s.ps.getD i nilP).1) (by kernel_rfl) (by decide) rfl (Nat.le_of_ble_eq_true rfl) ?_
    refine ⟨_, _, by ((refine StoreTo.loc (by kernel_rfl) (by (repeat (first | with_reducible exact SetL.here | with_reducible exact SetL.new | (with_reducible apply SetL.there; (focus (dsimp only; decide)))))))), ?_⟩
    generalize (s.ps.getD i nilP).1 = a at hb ⊢
    refine exs_cons (ex_if (tst_mono (Q := fun t l o => t = hitF a c ∧ l = ([("self", .raw (.ref f)), ("ch", .str ⟨#[c]⟩), ("i", .int i), ("fws", .str a)] : Loc) ∧ o = fo11 f fd ln x d wd cw sg s rest) ?_ ?_))
    · refine tst_bool (all_and_cons (tst_plain ?_))
      walk_at "name"
      refine truth_str (by omega) ?_
      by_cases hz : a.length = 0
      · rw [if_neg (by simp [hz])]
        exact ⟨(hitF_nil hz).symm, rfl, rfl⟩
      · rw [if_pos (by simp [hz])]
        refine all_and_cons (tst_cmp (by kernel_rfl) (ev_sub ?_))
        walk_at "name"
        (repeat' ((first | (with_reducible first | refine ev_bin ?_ | refine ev_int ?_ | refine ev_str ?_ | refine ev_bool ?_ | refine ev_none ?_ | walk_at "name" | walk_at "fn" | refine ev_sub ?_ | refine ev_slice ?_ | refine evo_none ?_ | refine evo_some ?_ | refine ev_tuple ?_ | refine ev_list ?_ | refine evl_nil ?_ | refine op_add ?_ | refine op_sub ?_ | refine op_lt ?_ | refine op_gt ?_ | refine op_le ?_ | refine op_eq ?_ | refine op_ne ?_ | refine op_eq_str ?_ | refine op_ne_str ?_ | refine op_max ?_ | refine op_min ?_ | refine op_abs ?_ | refine op_mod (by first | decide | walk_at "om") ?_ | refine op_div (by first | decide | walk_at "om") (by first | decide | walk_at "om") ?_ | refine op_len_str (by first | decide | walk_at "om") ?_ | refine op_cat (by first | decide | walk_at "om") ?_ | refine truth_bool ?_ | refine tst_cmp (by kernel_rfl) ?_ | refine ev_cmp (by kernel_rfl) ?_ | refine tst_not ?_ | fail "none") | ((with_reducible show EvL _ _ _ _ (_ :: _) _); refine evl_cons ?_) | ((with_reducible show Ev _ _ _ (.Call (.Attribute _ _ _) _ [] _) _); refine ev_meth ?_) | fail "none")))
        refine sub_str (by kernel_rfl) (fun _ _ => rfl) (by omega) (by omega) (by omega) ?_
        walk_at "name"
        refine op_eq_str (truth_bool ?_)
        rw [item_first hz]
        cases hitF a c
        · exact ⟨rfl, rfl, rfl⟩
        · exact all_and_nil ⟨rfl, rfl, rfl⟩
    · rintro t _ _ ⟨rfl, rfl, rfl⟩
      cases hitF a c
      · rw [if_neg (by decide), Bool.false_or]
        exact exs_nil (exs_nil (exs_both (by (repeat (first | with_reducible exact List.Sublist.refl _ | with_reducible apply List.Sublist.cons_cons | with_reducible apply List.Sublist.cons | exact List.nil_sublist _))) (List.Sublist.refl _) (turnB11 hh hi hl hf hm L)))
      · rw [if_pos rfl, Bool.true_or, if_pos rfl]
        exact exs_cons (ex_break ⟨rfl, by (repeat (first | with_reducible exact List.Sublist.refl _ | with_reducible apply List.Sublist.cons_cons | with_reducible apply List.Sublist.cons | exact List.nil_sublist _)), rfl⟩)

open PySem PySem.W PySem.Builtin PySem.Builtin.ObjectAttr
open PyProof.Rows hiding wpAt wpAt_bind
set_option linter.unusedSectionVars false
set_option maxRecDepth 100000
set_option maxHeartbeats 1000000
set_option linter.unusedVariables false
variable {P : PySem.Params} {w : World} {A : Around} {own own' : Own} {Q : Dv → Own → Prop} {f fd ln x d : Addr} {wd : Int} {cw sg : Str}
theorem outer11 {s : FS} {rest : Own} {c : Nat} (hh : A.handled = none) (hD : A.depth ≤ 600) (hU : A.units ≤ 6000) (h1 : 1 ≤ s.ps.length) (hf : Fits s.ps) (hm : s.ps.length ≤ 190) (L : Addr) {hD' : A.depth ≤ 900} {hU' : A.units ≤ 9000} :
    Exs (dfFm pr11 w (K11 P) A 113 L _ da11 hh hD' hU') [("self", .raw (.ref f)), ("ch", .str ⟨#[c]⟩)] (fo11 f fd ln x d wd cw sg s rest) (ob11 P)
      fun fl loc own => own = fo11 f fd ln x d wd cw sg s rest ∧ match lastHit s.ps c (s.ps.length - 1) with
        | some i => fl = .brk ∧ ([("self", .raw (.ref f)), ("i", .int i)] : Loc).Sublist loc
        | none => fl = .cont ∧ ([("self", .raw (.ref f))] : Loc).Sublist loc := by
  obtain ⟨cdF, IF⟩ := insK11 (P := P)
  obtain ⟨r1, r2, r3⟩ := range_down (a := s.ps.length - 1) (by omega)
  refine exs_cons (ex_forI rfl (fun _ => rfl) (it_call (f := .type "range") callee_t (by kernel_rfl) ?_))
  walk_at "name"
  refine ⟨rfl, evl_cons (ev_bin (ev_meth ?_))⟩
  ((refine ev_attrI rfl ?_; walk_at "name"; refine ⟨_, _, _, _, _, _, rfl, by assumption, by walk_at "has", by walk_at "has", by kernel_rfl, rfl, rfl, ?_⟩))
  refine meth_fn (f := 197) accK11 (by walk_at "has") (by walk_at "has") (by kernel_rfl) (by kernel_rfl) (by kernel_rfl) (by kernel_rfl) (by kernel_rfl) (evl_nil (opN_callT (part_count11 hh (by show A.depth + 1 ≤ 900; omega) (by show A.units + 3 ≤ 9000; omega) (by walk_at "has") ?_)))
  (repeat' ((first | (with_reducible first | refine ev_bin ?_ | refine ev_int ?_ | refine ev_str ?_ | refine ev_bool ?_ | refine ev_none ?_ | walk_at "name" | walk_at "fn" | refine ev_sub ?_ | refine ev_slice ?_ | refine evo_none ?_ | refine evo_some ?_ | refine ev_tuple ?_ | refine ev_list ?_ | refine evl_nil ?_ | refine op_add ?_ | refine op_sub ?_ | refine op_lt ?_ | refine op_gt ?_ | refine op_le ?_ | refine op_eq ?_ | refine op_ne ?_ | refine op_eq_str ?_ | refine op_ne_str ?_ | refine op_max ?_ | refine op_min ?_ | refine op_abs ?_ | refine op_mod (by first | decide | walk_at "om") ?_ | refine op_div (by first | decide | walk_at "om") (by first | decide | walk_at "om") ?_ | refine op_len_str (by first | decide | walk_at "om") ?_ | refine op_cat (by first | decide | walk_at "om") ?_ | refine truth_bool ?_ | refine tst_cmp (by kernel_rfl) ?_ | refine ev_cmp (by kernel_rfl) ?_ | refine tst_not ?_ | fail "none") | ((with_reducible show EvL _ _ _ _ (_ :: _) _); refine evl_cons ?_) | ((with_reducible show Ev _ _ _ (.Call (.Attribute _ _ _) _ [] _) _); refine ev_meth ?_) | fail "none")))
  refine ev_neg ?_
  (repeat' ((first | (with_reducible first | refine ev_bin ?_ | refine ev_int ?_ | refine ev_str ?_ | refine ev_bool ?_ | refine ev_none ?_ | walk_at "name" | walk_at "fn" | refine ev_sub ?_ | refine ev_slice ?_ | refine evo_none ?_ | refine evo_some ?_ | refine ev_tuple ?_ | refine ev_list ?_ | refine evl_nil ?_ | refine op_add ?_ | refine op_sub ?_ | refine op_lt ?_ | refine op_gt ?_ | refine op_le ?_ | refine op_eq ?_ | refine op_ne ?_ | refine op_eq_str ?_ | refine op_ne_str ?_ | refine op_max ?_ | refine op_min ?_ | refine op_abs ?_ | refine op_mod (by first | decide | walk_at "om") ?_ | refine op_div (by first | decide | walk_at "om") (by first | decide | walk_at "om") ?_ | refine op_len_str (by first | decide | walk_at "om") ?_ | refine op_cat (by first | decide | walk_at "om") ?_ | refine truth_bool ?_ | refine tst_cmp (by kernel_rfl) ?_ | refine ev_cmp (by kernel_rfl) ?_ | refine tst_not ?_ | fail "none") | ((with_reducible show EvL _ _ _ _ (_ :: _) _); refine evl_cons ?_) | ((with_reducible show Ev _ _ _ (.Call (.Attribute _ _ _) _ [] _) _); refine ev_meth ?_) | fail "none")))
  refine ⟨_, rfl, ?_⟩
  (repeat' ((first | (with_reducible first | refine ev_bin ?_ | refine ev_int ?_ | refine ev_str ?_ | refine ev_bool ?_ | refine ev_none ?_ | walk_at "name" | walk_at "fn" | refine ev_sub ?_ | refine ev_slice ?_ | refine evo_none ?_ | refine evo_some ?_ | refine ev_tuple ?_ | refine ev_list ?_ | refine evl_nil ?_ | refine op_add ?_ | refine op_sub ?_ | refine op_lt ?_ | refine op_gt ?_ | refine op_le ?_ | refine op_eq ?_ | refine op_ne ?_ | refine op_eq_str ?_ | refine op_ne_str ?_ | refine op_max ?_ | refine op_min ?_ | refine op_abs ?_ | refine op_mod (by first | decide | walk_at "om") ?_ | refine op_div (by first | decide | walk_at "om") (by first | decide | walk_at "om") ?_ | refine op_len_str (by first | decide | walk_at "om") ?_ | refine op_cat (by first | decide | walk_at "om") ?_ | refine truth_bool ?_ | refine tst_cmp (by kernel_rfl) ?_ | refine ev_cmp (by kernel_rfl) ?_ | refine tst_not ?_ | fail "none") | ((with_reducible show EvL _ _ _ _ (_ :: _) _); refine evl_cons ?_) | ((with_reducible show Ev _ _ _ (.Call (.Attribute _ _ _) _ [] _) _); refine ev_meth ?_) | fail "none")))
  rw [List.length_map, show (s.ps.length : Int) - 1 = ((s.ps.length - 1 : Nat) : Int) by omega]
  refine itop_range (by decide) r1 r2 r3 ?_
  refine ⟨fun k loc own => lastHit s.ps c (s.ps.length - 1) = lastHit s.ps c (s.ps.length - 1 - k) ∧ ([("self", .raw (.ref f)), ("ch", .str ⟨#[c]⟩)] : Loc).Sublist loc ∧ own = fo11 f fd ln x d wd cw sg s rest, ⟨rfl, List.Sublist.refl _, rfl⟩, fun _ _ _ _ => trivial, ?_, ?_⟩
  · rintro k dv loc own hd ⟨hk, sl, rfl⟩
    obtain ⟨hk', rfl⟩ := rangeD_get hd
    rw [show ((s.ps.length - 1 : Nat) : Int) + (k : Int) * -1 = ((s.ps.length - 1 - k : Nat) : Int) by omega]
    intro _
    refine as_sub sl (List.Sublist.refl _) (as_name (by kernel_rfl) (by (repeat (first | with_reducible exact SetL.here | with_reducible exact SetL.new | (with_reducible apply SetL.there; (focus (dsimp only; decide)))))) ?_)
    refine exs_mono2 (turnA11 hh (by omega) (by omega) hf (by omega) L) ?_
    rintro fl loc own ⟨rfl, sl, rfl⟩
    obtain ⟨j, hj⟩ : ∃ j, s.ps.length - 1 - k = j + 1 := ⟨s.ps.length - 1 - k - 1, (Nat.sub_add_cancel (Nat.sub_pos_of_lt hk')).symm⟩
    have hu : lastHit s.ps c (s.ps.length - 1 - k) = if hit s.ps c (s.ps.length - 1 - k) then some (s.ps.length - 1 - k) else lastHit s.ps c (s.ps.length - 1 - (k + 1)) := by
      rw [show s.ps.length - 1 - (k + 1) = j from by rw [Nat.sub_add_eq, hj]; rfl, hj]; rfl
    cases hq : hit s.ps c (s.ps.length - 1 - k) with
    | false =>
      rw [hq, if_neg (by decide)] at hu
      rw [if_neg (by decide)]
      exact ⟨hk.trans hu, (by (repeat (first | with_reducible exact List.Sublist.refl _ | with_reducible apply List.Sublist.cons_cons | with_reducible apply List.Sublist.cons | exact List.nil_sublist _)) : ([("self", .raw (.ref f)), ("ch", .str ⟨#[c]⟩)] : Loc).Sublist [("self", .raw (.ref f)), ("ch", .str ⟨#[c]⟩), ("i", .int ((s.ps.length - 1 - k : Nat) : Int))]).trans sl, rfl⟩
    | true =>
      rw [hq, if_pos rfl] at hu
      rw [if_pos rfl]
      refine @exs_cons aI _ _ _ _ _ _ (@ex_break aI _ _ _ _ _ ?_)
      refine ⟨rfl, ?_⟩
      rw [hk.trans hu]
      exact ⟨rfl, (by (repeat (first | with_reducible exact List.Sublist.refl _ | with_reducible apply List.Sublist.cons_cons | with_reducible apply List.Sublist.cons | exact List.nil_sublist _)) : ([("self", .raw (.ref f)), ("i", .int ((s.ps.length - 1 - k : Nat) : Int))] : Loc).Sublist [("self", .raw (.ref f)), ("ch", .str ⟨#[c]⟩), ("i", .int ((s.ps.length - 1 - k : Nat) : Int))]).trans sl⟩
  · rintro loc own ⟨hk, sl, rfl⟩
    rw [rangeD_len, Nat.sub_self] at hk
    refine exs_cons (ex_continue ?_)
    refine ⟨rfl, ?_⟩
    rw [hk]
    exact ⟨rfl, (by (repeat (first | with_reducible exact List.Sublist.refl _ | with_reducible apply List.Sublist.cons_cons | with_reducible apply List.Sublist.cons | exact List.nil_sublist _)) : ([("self", .raw (.ref f))] : Loc).Sublist [("self", .raw (.ref f)), ("ch", .str ⟨#[c]⟩)]).trans sl⟩
theorem cutT11 {s : FS} {rest : Own} {i : Nat} (hh : A.handled = none) (hD : A.depth ≤ 600) (hU : A.units ≤ 6000) (hi : i ≤ s.ps.length) (hf : Fits s.ps) (hm : s.ps.length ≤ 190) (hr : s.rows.length ≤ 2000) (L : Addr) {hD' : A.depth ≤ 900} {hU' : A.units ≤ 9000}
    (q : Q .none (fo11 f fd ln x d wd cw sg ⟨s.rows ++ [txt (s.ps.take i)], 0, s.ps.drop i⟩ rest)) :
    Exs (dfFm pr11 w (K11 P) A 113 L _ da11 hh hD' hU') [("self", .raw (.ref f)), ("i", .int i)] (fo11 f fd ln x d wd cw sg s rest) ((ifThen ((bodyOf (fnOf (K11 P) 113)).drop 1)).drop 1)
      fun fl loc own => fl = .next ∧ ∃ o', o'.Sublist own ∧ Q .none o' := by
  obtain ⟨cdF, IF⟩ := insK11 (P := P)
  obtain ⟨rows, n, qs⟩ := s
  dsimp only at hi hf hm hr q ⊢
  have ht : (qs.take i).length ≤ 190 := by rw [List.length_take]; omega
  have hft : Fits (qs.take i) := fun p hp => hf p (List.mem_of_mem_take hp)
  ((refine exs_cons ?_; first | (refine ex_assignS ?hs ?_; (case hs => exact swaps_plain (by rfl))) | refine ex_expr (by kernel_rfl) (by rfl) ?_ | refine ex_if ?_ | refine ex_return ?_ | fail "none"))
  refine ev_meth ?_
  ((refine ev_attrI rfl ?_; walk_at "name"; refine ⟨_, _, _, _, _, _, rfl, by assumption, by walk_at "has", by walk_at "has", by kernel_rfl, rfl, rfl, ?_⟩))
  refine meth_fn (f := 152) accK11 (by walk_at "has") (by walk_at "has") (by kernel_rfl) (by kernel_rfl) (by kernel_rfl) (by kernel_rfl) (by kernel_rfl) (evl_cons ?_)
  walk_at "name"
  refine evl_nil (opN_callT (pop_from11 (ds := qs.map dpair) (n := i) (own' := fo11 f fd ln x d wd cw sg ⟨rows, n, qs.take i⟩ rest) (by rw [clipAt_nat, List.length_map]; omega) hh (by show A.depth + 1 ≤ 900; omega) (by show A.units + 3 ≤ 9000; omega) (by simp; omega) (by rw [← List.map_take]; walk_at "has") fun b => ?_))
  rw [← List.map_drop]
  refine ⟨_, _, by ((refine StoreTo.loc (by kernel_rfl) (by (repeat (first | with_reducible exact SetL.here | with_reducible exact SetL.new | (with_reducible apply SetL.there; (focus (dsimp only; decide)))))))), ?_⟩
  ((refine exs_cons ?_; first | (refine ex_assignS ?hs ?_; (case hs => exact swaps_plain (by rfl))) | refine ex_expr (by kernel_rfl) (by rfl) ?_ | refine ex_if ?_ | refine ex_return ?_ | fail "none"))
  refine ev_meth ?_
  ((refine ev_attrI rfl ?_; walk_at "name"; refine ⟨_, _, _, _, _, _, rfl, by assumption, by walk_at "has", by walk_at "has", by kernel_rfl, rfl, rfl, ?_⟩))
  refine meth_list (ds := rows.map .str) (by walk_at "has") lk_append ty_append (by kernel_rfl) (evl_cons ?_)
  walk_at "fn"
  refine evl_cons ?_
  ((refine ev_attrI rfl ?_; walk_at "name"; refine ⟨_, _, _, _, _, _, rfl, by assumption, by walk_at "has", by walk_at "has", by kernel_rfl, rfl, rfl, ?_⟩))
  refine evl_nil (op_str_acc (f := 174) (C := 200) (d := d) (ds := (qs.take i).map dpair) (by walk_at "has") (by kernel_rfl) (by kernel_rfl) (by show 9000 + 3 + 2 < cLine; decide) (str11 (ps := qs.take i) hh (by show A.depth + 1 ≤ 800; omega) (by show A.units + 3 + 1 + 1 ≤ 8000; omega) (by walk_at "has") (by walk_at "has") hft (by omega) ⟨_, rfl, ?_⟩))
  refine evl_nil (op_append (ds := rows.map .str) (mk := .list) (own' := (b, .list ((qs.drop i).map dpair)) :: fo11 f fd ln x d wd cw sg ⟨rows ++ [txt (qs.take i)], n, qs.take i⟩ rest) ?_ .list (by simp; omega) ?_)
  · rw [show rows.map Dv.str ++ [Dv.str (txt (qs.take i))] = (rows ++ [txt (qs.take i)]).map Dv.str by simp]
    walk_at "has"
  ((refine exs_cons ?_; first | (refine ex_assignS ?hs ?_; (case hs => exact swaps_plain (by rfl))) | refine ex_expr (by kernel_rfl) (by rfl) ?_ | refine ex_if ?_ | refine ex_return ?_ | fail "none"))
  refine ev_meth ?_
  ((refine ev_attrI rfl ?_; walk_at "name"; refine ⟨_, _, _, _, _, _, rfl, by assumption, by walk_at "has", by walk_at "has", by kernel_rfl, rfl, rfl, ?_⟩))
  refine meth_fn (f := 182) accK11 (by walk_at "has") (by walk_at "has") (by kernel_rfl) (by kernel_rfl) (by kernel_rfl) (by kernel_rfl) (by kernel_rfl) (evl_cons ?_)
  walk_at "name"
  refine evl_nil (opN_callT (reset11 (x := x) (d := d) (c := b) (ds := (qs.take i).map dpair) (es := (qs.drop i).map dpair) (l := [("_initial_size", .int n)]) (l' := [("_initial_size", .int 0)]) (own' := (b, .list ((qs.drop i).map dpair)) :: fo11 f fd ln x d wd cw sg ⟨rows ++ [txt (qs.take i)], n, qs.drop i⟩ rest) (own'' := (b, .list ((qs.drop i).map dpair)) :: fo11 f fd ln x d wd cw sg ⟨rows ++ [txt (qs.take i)], 0, qs.drop i⟩ rest)
    hh (by show A.depth + 1 ≤ 800; omega) (by show A.units + 3 ≤ 8000; omega) (by simp; omega) (by simp; omega) (by walk_at "has") (by walk_at "has") (by walk_at "has") .here (by simp) ?_))
  exact exs_nil ⟨rfl, _, .cons _ (List.Sublist.refl _), q⟩

open PySem PySem.W PySem.Builtin PySem.Builtin.ObjectAttr
open PyProof.Rows hiding wpAt wpAt_bind
set_option linter.unusedSectionVars false
set_option maxRecDepth 100000
set_option maxHeartbeats 1000000
set_option linter.unusedVariables false
variable {P : PySem.Params} {w : World} {A : Around} {own own' : Own} {Q : Dv → Own → Prop} {f fd ln x d : Addr} {wd : Int} {cw sg : Str}
noncomputable def forElse : List Stmt → List Stmt
  | .For _ _ _ b _ :: _ => b
  | _ => []
theorem noPlace11 {rows : List Str} {n : Int} {ps : List (Str × Str)} {p : Str × Str} {rest : Own} (hh : A.handled = none) (hD : A.depth ≤ 500) (hU : A.units ≤ 5000) (hs : (⟨rows, n, ps⟩ : FS).Ok) (hp : p.1.length ≤ 1000 ∧ p.2.length ≤ 1000) (L : Addr) {hD' : A.depth ≤ 900} {hU' : A.units ≤ 9000}
    (q : Q .none (fo11 f fd ln x d wd cw sg (if 0 < n then ⟨nlRows rows n (midP ps), 0, [(if p.1.length = 0 then (" " : Str) else p.1, p.2)]⟩ else ⟨rows, n, ps ++ [p]⟩) rest)) :
    Exs (dfFm pr11 w (K11 P) A 113 L _ da11 hh hD' hU') [("self", .raw (.ref f))] (fo11 f fd ln x d wd cw sg ⟨rows, n, ps ++ [p]⟩ rest) (forElse (ifThen ((bodyOf (fnOf (K11 P) 113)).drop 1)))
      fun fl loc own => fl = .ret .none ∧ ∃ o', o'.Sublist own ∧ Q .none o' := by
  obtain ⟨cdF, IF⟩ := insK11 (P := P)
  obtain ⟨cd', S⟩ := storeK11 (P := P)
  obtain ⟨n0, n1, hf, hl, hrl, hsz⟩ := id hs
  dsimp only at n0 n1 hf hl hrl hsz
  have push : ∀ (rows : List Str) (n : Int) (ps : List (Str × Str)) (g : Str), ps.length ≤ 1000 → Q .none (fo11 f fd ln x d wd cw sg ⟨rows, n, ps ++ [(g, p.2)]⟩ rest) →
      Exs (dfFm pr11 w (K11 P) A 113 L _ da11 hh hD' hU') [("self", .raw (.ref f)), ("fws", .str g), ("part", .str p.2)] (fo11 f fd ln x d wd cw sg ⟨rows, n, ps⟩ rest) ((forElse (ifThen ((bodyOf (fnOf (K11 P) 113)).drop 1))).drop 2)
        fun fl loc own => fl = .ret .none ∧ ∃ o', o'.Sublist own ∧ Q .none o' := by
    intro rows n ps g hl q
    ((refine exs_cons ?_; first | (refine ex_assignS ?hs ?_; (case hs => exact swaps_plain (by rfl))) | refine ex_expr (by kernel_rfl) (by rfl) ?_ | refine ex_if ?_ | refine ex_return ?_ | fail "none"))
    refine ev_meth ?_
    ((refine ev_attrI rfl ?_; walk_at "name"; refine ⟨_, _, _, _, _, _, rfl, by assumption, by walk_at "has", by walk_at "has", by kernel_rfl, rfl, rfl, ?_⟩))
    refine meth_fn (f := 144) accK11 (by walk_at "has") (by walk_at "has") (by kernel_rfl) (by kernel_rfl) (by kernel_rfl) (by kernel_rfl) (by kernel_rfl) ?_
    (repeat' ((first | (with_reducible first | refine ev_bin ?_ | refine ev_int ?_ | refine ev_str ?_ | refine ev_bool ?_ | refine ev_none ?_ | walk_at "name" | walk_at "fn" | refine ev_sub ?_ | refine ev_slice ?_ | refine evo_none ?_ | refine evo_some ?_ | refine ev_tuple ?_ | refine ev_list ?_ | refine evl_nil ?_ | refine op_add ?_ | refine op_sub ?_ | refine op_lt ?_ | refine op_gt ?_ | refine op_le ?_ | refine op_eq ?_ | refine op_ne ?_ | refine op_eq_str ?_ | refine op_ne_str ?_ | refine op_max ?_ | refine op_min ?_ | refine op_abs ?_ | refine op_mod (by first | decide | walk_at "om") ?_ | refine op_div (by first | decide | walk_at "om") (by first | decide | walk_at "om") ?_ | refine op_len_str (by first | decide | walk_at "om") ?_ | refine op_cat (by first | decide | walk_at "om") ?_ | refine truth_bool ?_ | refine tst_cmp (by kernel_rfl) ?_ | refine ev_cmp (by kernel_rfl) ?_ | refine tst_not ?_ | fail "none") | ((with_reducible show EvL _ _ _ _ (_ :: _) _); refine evl_cons ?_) | ((with_reducible show Ev _ _ _ (.Call (.Attribute _ _ _) _ [] _) _); refine ev_meth ?_) | fail "none")))
    refine opN_callT (push11s (ps := ps) (f := g) (g := p.2) (own' := fo11 f fd ln x d wd cw sg ⟨rows, n, ps ++ [(g, p.2)]⟩ rest) hh (by show A.depth + 1 ≤ 900; omega) (by show A.units + 3 ≤ 9000; omega) (by omega) (by walk_at "has") (by walk_at "has") (by kernel_rfl) ?_)
    refine exs_cons (ex_returnN ?_)
    exact ⟨rfl, _, List.Sublist.refl _, q⟩
  -- fws, part = self._current_line.pop()
  refine exs_cons (ex_assign1 (by rfl) (ev_meth ?_))
  ((refine ev_attrI rfl ?_; walk_at "name"; refine ⟨_, _, _, _, _, _, rfl, by assumption, by walk_at "has", by walk_at "has", by kernel_rfl, rfl, rfl, ?_⟩))
  refine meth_fn (f := 160) accK11 (by walk_at "has") (by walk_at "has") (by kernel_rfl) (by kernel_rfl) (by kernel_rfl) (by kernel_rfl) (by kernel_rfl) (evl_nil ?_)
  refine opN_callT (pops11 (ps := ps ++ [p]) (l := [("_initial_size", .int n)]) (own' := fo11 f fd ln x d wd cw sg ⟨rows, n, ps⟩ rest) hh (by show A.depth + 1 ≤ 800; omega) (by show A.units + 3 ≤ 8000; omega) (by simp; omega) (by rw [List.dropLast_concat]; walk_at "has") (by walk_at "has") (by kernel_rfl) ?_)
  rw [show lastP (ps ++ [p]) = p by unfold lastP; simp]
  refine as_tuple (by kernel_rfl) rfl ?_
  refine as_name (by kernel_rfl) (by (repeat (first | with_reducible exact SetL.here | with_reducible exact SetL.new | (with_reducible apply SetL.there; (focus (dsimp only; decide)))))) ?_
  refine as_name (by kernel_rfl) (by (repeat (first | with_reducible exact SetL.here | with_reducible exact SetL.new | (with_reducible apply SetL.there; (focus (dsimp only; decide)))))) ?_
  -- if self._current_line._initial_size > 0
  refine exs_cons (ex_if (tst_cmp (by kernel_rfl) (ev_attr (cd := cd') (e := .int n) rfl (by decide +kernel) rfl ?_)))
  ((refine ev_attrI rfl ?_; walk_at "name"; refine ⟨_, _, _, _, _, _, rfl, by assumption, by walk_at "has", by walk_at "has", by kernel_rfl, rfl, rfl, ?_⟩))
  refine ⟨_, _, _, _, _, rfl, accK11, S, by walk_at "has", by walk_at "has", by kernel_rfl, rfl, ?_⟩
  (repeat' ((first | (with_reducible first | refine ev_bin ?_ | refine ev_int ?_ | refine ev_str ?_ | refine ev_bool ?_ | refine ev_none ?_ | walk_at "name" | walk_at "fn" | refine ev_sub ?_ | refine ev_slice ?_ | refine evo_none ?_ | refine evo_some ?_ | refine ev_tuple ?_ | refine ev_list ?_ | refine evl_nil ?_ | refine op_add ?_ | refine op_sub ?_ | refine op_lt ?_ | refine op_gt ?_ | refine op_le ?_ | refine op_eq ?_ | refine op_ne ?_ | refine op_eq_str ?_ | refine op_ne_str ?_ | refine op_max ?_ | refine op_min ?_ | refine op_abs ?_ | refine op_mod (by first | decide | walk_at "om") ?_ | refine op_div (by first | decide | walk_at "om") (by first | decide | walk_at "om") ?_ | refine op_len_str (by first | decide | walk_at "om") ?_ | refine op_cat (by first | decide | walk_at "om") ?_ | refine truth_bool ?_ | refine tst_cmp (by kernel_rfl) ?_ | refine ev_cmp (by kernel_rfl) ?_ | refine tst_not ?_ | fail "none") | ((with_reducible show EvL _ _ _ _ (_ :: _) _); refine evl_cons ?_) | ((with_reducible show Ev _ _ _ (.Call (.Attribute _ _ _) _ [] _) _); refine ev_meth ?_) | fail "none")))
  by_cases h0 : 0 < n
  · rw [if_pos (decide_eq_true h0)]
    rw [if_pos h0] at q
    ((refine exs_cons ?_; first | (refine ex_assignS ?hs ?_; (case hs => exact swaps_plain (by rfl))) | refine ex_expr (by kernel_rfl) (by rfl) ?_ | refine ex_if ?_ | refine ex_return ?_ | fail "none"))
    refine ev_meth ?_
    walk_at "name"
    refine meth_fnI (f := 78) IF (by walk_at "has") (by walk_at "has") (by kernel_rfl) (by kernel_rfl) (by kernel_rfl) (by kernel_rfl) (by kernel_rfl) (evl_nil ?_)
    refine opN_callT (newline11 hh (by show A.depth + 1 ≤ 600; omega) (by show A.units + 3 ≤ 6000; omega) hs ?_)
    refine exs_cons (ex_if (tst_not (tst_plain ?_)))
    walk_at "name"
    refine truth_str (by omega) ?_
    by_cases hz : p.1.length = 0
    · rw [if_pos (by simp [hz])]
      rw [if_pos hz] at q
      ((refine exs_cons ?_; first | (refine ex_assignS ?hs ?_; (case hs => exact swaps_plain (by rfl))) | refine ex_expr (by kernel_rfl) (by rfl) ?_ | refine ex_if ?_ | refine ex_return ?_ | fail "none"))
      (repeat' ((first | (with_reducible first | refine ev_bin ?_ | refine ev_int ?_ | refine ev_str ?_ | refine ev_bool ?_ | refine ev_none ?_ | walk_at "name" | walk_at "fn" | refine ev_sub ?_ | refine ev_slice ?_ | refine evo_none ?_ | refine evo_some ?_ | refine ev_tuple ?_ | refine ev_list ?_ | refine evl_nil ?_ | refine op_add ?_ | refine op_sub ?_ | refine op_lt ?_ | refine op_gt ?_ | refine op_le ?_ | refine op_eq ?_ | refine op_ne ?_ | refine op_eq_str ?_ | refine op_ne_str ?_ | refine op_max ?_ | refine op_min ?_ | refine op_abs ?_ | refine op_mod (by first | decide | walk_at "om") ?_ | refine op_div (by first | decide | walk_at "om") (by first | decide | walk_at "om") ?_ | refine op_len_str (by first | decide | walk_at "om") ?_ | refine op_cat (by first | decide | walk_at "om") ?_ | refine truth_bool ?_ | refine tst_cmp (by kernel_rfl) ?_ | refine ev_cmp (by kernel_rfl) ?_ | refine tst_not ?_ | fail "none") | ((with_reducible show EvL _ _ _ _ (_ :: _) _); refine evl_cons ?_) | ((with_reducible show Ev _ _ _ (.Call (.Attribute _ _ _) _ [] _) _); refine ev_meth ?_) | fail "none")))
      refine ⟨_, _, by ((refine StoreTo.loc (by kernel_rfl) (by (repeat (first | with_reducible exact SetL.here | with_reducible exact SetL.new | (with_reducible apply SetL.there; (focus (dsimp only; decide)))))))), ?_⟩
      exact exs_nil (exs_nil (push _ 0 [] " " (by simp) q))
    · rw [if_neg (by simp [hz])]
      rw [if_neg hz] at q
      exact exs_nil (exs_nil (push _ 0 [] p.1 (by simp) q))
  · rw [if_neg (by simp [h0])]
    rw [if_neg h0] at q
    exact exs_nil (push _ n ps p.1 (by omega) q)
theorem append11 {s : FS} {p : Str × Str} {rest : Own} (hh : A.handled = none) (hD : A.depth ≤ 500) (hU : A.units ≤ 5000) (hs : s.Ok) (hp : p.1.length ≤ 1000 ∧ p.2.length ≤ 1000) (q : Q .none (fo11 f fd ln x d wd cw sg (s.add wd sg p) rest)) :
    CallT pr11 w (K11 P) A (fo11 f fd ln x d wd cw sg s rest) (.ref 113) [.raw (.ref f), .str p.1, .str p.2] Q := by
  obtain ⟨cdF, IF⟩ := insK11 (P := P)
  obtain ⟨rows, n, ps⟩ := s
  obtain ⟨n0, n1, hf, hl, hrl, hsz⟩ := id hs
  dsimp only at n0 n1 hf hl hrl hsz
  have hfq : Fits (ps ++ [p]) := fun r hr => by
    rcases List.mem_append.mp hr with hr | hr
    · exact hf r hr
    · rw [List.mem_singleton.mp hr]; exact hp
  have hql : (ps ++ [p]).length = ps.length + 1 := by simp
  have sg1 := signs_top' hfq
  have sg0 := signs_nn' (ps ++ [p])
  refine callT_weak (callT_fn (ddefs := []) da11 [("self", .raw (.ref f)), ("fws", .str p.1), ("string", .str p.2)] [] lim11 rfl rfl (fun _ => .nil) (fun S vs h => by obtain ⟨a, b, c, rfl⟩ := len3 h; kernel_rfl) hh (by walk_at "om") (by walk_at "om") fun L => ?_)
  -- push
  ((refine exs_cons ?_; first | (refine ex_assignS ?hs ?_; (case hs => exact swaps_plain (by rfl))) | refine ex_expr (by kernel_rfl) (by rfl) ?_ | refine ex_if ?_ | refine ex_return ?_ | fail "none"))
  refine ev_meth ?_
  ((refine ev_attrI rfl ?_; walk_at "name"; refine ⟨_, _, _, _, _, _, rfl, by assumption, by walk_at "has", by walk_at "has", by kernel_rfl, rfl, rfl, ?_⟩))
  refine meth_fn (f := 144) accK11 (by walk_at "has") (by walk_at "has") (by kernel_rfl) (by kernel_rfl) (by kernel_rfl) (by kernel_rfl) (by kernel_rfl) ?_
  (repeat' ((first | (with_reducible first | refine ev_bin ?_ | refine ev_int ?_ | refine ev_str ?_ | refine ev_bool ?_ | refine ev_none ?_ | walk_at "name" | walk_at "fn" | refine ev_sub ?_ | refine ev_slice ?_ | refine evo_none ?_ | refine evo_some ?_ | refine ev_tuple ?_ | refine ev_list ?_ | refine evl_nil ?_ | refine op_add ?_ | refine op_sub ?_ | refine op_lt ?_ | refine op_gt ?_ | refine op_le ?_ | refine op_eq ?_ | refine op_ne ?_ | refine op_eq_str ?_ | refine op_ne_str ?_ | refine op_max ?_ | refine op_min ?_ | refine op_abs ?_ | refine op_mod (by first | decide | walk_at "om") ?_ | refine op_div (by first | decide | walk_at "om") (by first | decide | walk_at "om") ?_ | refine op_len_str (by first | decide | walk_at "om") ?_ | refine op_cat (by first | decide | walk_at "om") ?_ | refine truth_bool ?_ | refine tst_cmp (by kernel_rfl) ?_ | refine ev_cmp (by kernel_rfl) ?_ | refine tst_not ?_ | fail "none") | ((with_reducible show EvL _ _ _ _ (_ :: _) _); refine evl_cons ?_) | ((with_reducible show Ev _ _ _ (.Call (.Attribute _ _ _) _ [] _) _); refine ev_meth ?_) | fail "none")))
  refine opN_callT (push11s (ps := ps) (f := p.1) (g := p.2) (own' := fo11 f fd ln x d wd cw sg ⟨rows, n, ps ++ [p]⟩ rest) hh (by show A.depth + 1 ≤ 900; omega) (by show A.units + 3 ≤ 9000; omega) (by omega) (by walk_at "has") (by walk_at "has") (by kernel_rfl) ?_)
  -- len(self._current_line) > self._maxlen
  refine exs_cons (ex_if (tst_cmp (by kernel_rfl) ?_))
  walk_at "fn"
  refine evl_cons ?_
  ((refine ev_attrI rfl ?_; walk_at "name"; refine ⟨_, _, _, _, _, _, rfl, by assumption, by walk_at "has", by walk_at "has", by kernel_rfl, rfl, rfl, ?_⟩))
  refine evl_nil ?_
  refine op_len_acc (f := 167) (C := 200) (d := d) (ds := (ps ++ [p]).map dpair) (by walk_at "has") (by kernel_rfl) (by kernel_rfl) (len11 (ps := ps ++ [p]) (n := n) (l := [("_initial_size", .int n)]) hh (by show A.depth + 1 ≤ 800; omega) (by show A.units + 3 + 1 ≤ 8000; omega) (by walk_at "has") (by walk_at "has") rfl (by walk_at "has") (fun r hr => by have := hfq r hr; omega) ⟨_, rfl, by omega, by omega, ?_⟩)
  ((refine ev_attrI rfl ?_; walk_at "name"; refine ⟨_, _, _, _, _, _, rfl, by assumption, by walk_at "has", by walk_at "has", by kernel_rfl, rfl, rfl, ?_⟩))
  refine op_gt (truth_bool ?_)
  by_cases hw : n + signs (ps ++ [p]) ≤ wd
  · rw [if_neg (by simp; omega)]
    have e : FS.add wd sg ⟨rows, n, ps⟩ p = ⟨rows, n, ps ++ [p]⟩ := by unfold FS.add; rw [if_pos hw]
    rw [e] at q
    exact exs_nil (exs_nil ⟨_, List.Sublist.refl _, q⟩)
  · rw [if_pos (by simp; omega)]
    have e : FS.add wd sg ⟨rows, n, ps⟩ p = match placeOf (ps ++ [p]) sg.cps.toList with
      | some i => ⟨rows ++ [txt ((ps ++ [p]).take i)], 0, (ps ++ [p]).drop i⟩
      | none => if 0 < n then ⟨nlRows rows n (midP ps), 0, [(if p.1.length = 0 then (" " : Str) else p.1, p.2)]⟩ else ⟨rows, n, ps ++ [p]⟩ := by unfold FS.add; rw [if_neg hw] <;> rfl
    rw [e] at q
    refine exs_cons (ex_forI rfl (fun _ => rfl) (it_str ?_))
    ((refine ev_attrI rfl ?_; walk_at "name"; refine ⟨_, _, _, _, _, _, rfl, by assumption, by walk_at "has", by walk_at "has", by kernel_rfl, rfl, rfl, ?_⟩))
    refine ⟨_, rfl, ?_⟩
    refine ⟨fun k loc own => placeOf (ps ++ [p]) sg.cps.toList = placeOf (ps ++ [p]) (sg.cps.toList.drop k) ∧ ([("self", .raw (.ref f))] : Loc).Sublist loc ∧ own = fo11 f fd ln x d wd cw sg ⟨rows, n, ps ++ [p]⟩ rest, ⟨rfl, by (repeat (first | with_reducible exact List.Sublist.refl _ | with_reducible apply List.Sublist.cons_cons | with_reducible apply List.Sublist.cons | exact List.nil_sublist _)), rfl⟩, fun _ _ _ _ => trivial, ?_, ?_⟩
    · rintro k dv loc own hd ⟨hk, sl, rfl⟩
      obtain ⟨c, hc, rfl⟩ := signsD_get hd
      have hdr : sg.cps.toList.drop k = c :: sg.cps.toList.drop (k + 1) := by
        have h1 : sg.cps.toList[k]? = some c := by rw [Array.getElem?_toList]; exact hc
        obtain ⟨h2, h3⟩ := List.getElem?_eq_some_iff.mp h1
        rw [List.drop_eq_getElem_cons h2, h3]
      rw [hdr, place_cons] at hk
      intro _
      refine as_sub sl (List.Sublist.refl _) (as_name (by kernel_rfl) (by (repeat (first | with_reducible exact SetL.here | with_reducible exact SetL.new | (with_reducible apply SetL.there; (focus (dsimp only; decide)))))) ?_)
      refine exs_mono2 (outer11 (s := ⟨rows, n, ps ++ [p]⟩) hh (by omega) (by omega) (by simp) hfq (by show (ps ++ [p]).length ≤ 190; omega) L) ?_
      rintro fl loc own ⟨rfl, hm⟩
      cases hq : lastHit (ps ++ [p]) c ((ps ++ [p]).length - 1) with
      | none =>
        rw [hq] at hm hk
        obtain ⟨rfl, sl⟩ := hm
        exact ⟨hk, sl, rfl⟩
      | some i =>
        rw [hq] at hm hk
        obtain ⟨rfl, sl⟩ := hm
        have hi := placeOf_le hk
        rw [hk] at q
        have q' : Q .none (fo11 f fd ln x d wd cw sg ⟨rows ++ [txt ((ps ++ [p]).take i)], 0, (ps ++ [p]).drop i⟩ rest) := q
        refine @exs_mono2 aI _ _ _ _ _ _ (@exs_both aI _ _ _ _ _ _ _ sl (List.Sublist.refl _) (@cutT11 aI _ _ _ _ _ _ _ _ _ _ _ _ ⟨rows, n, ps ++ [p]⟩ _ i hh (by omega) (by omega) (by show i ≤ (ps ++ [p]).length; omega) hfq (by show (ps ++ [p]).length ≤ 190; omega) (by show rows.length ≤ 2000; omega) L _ _ q')) ?_
        rintro fl loc own ⟨rfl, h⟩
        exact @exs_nil aI _ _ _ _ h
    · rintro loc own ⟨hk, sl, rfl⟩
      rw [signsD_len, List.drop_of_length_le (by simp)] at hk
      rw [hk] at q
      refine exs_mono2 (exs_both sl (List.Sublist.refl _) (noPlace11 hh (by omega) (by omega) hs hp L q)) ?_
      rintro fl loc own ⟨rfl, h⟩
      exact h

open PySem PySem.W PySem.Builtin PySem.Builtin.ObjectAttr
open PyProof.Rows hiding wpAt wpAt_bind
set_option linter.unusedSectionVars false
set_option maxRecDepth 100000
set_option maxHeartbeats 1000000
set_option linter.unusedVariables false
variable {P : PySem.Params} {w : World} {A : Around} {own own' : Own} {Q : Dv → Own → Prop} {f fd ln x d : Addr} {wd : Int} {cw sg : Str}
theorem cat_snoc (l : List Str) (x : Str) : (cat (l ++ [x])).length = (cat l).length + x.length := by
  rw [cat_append, len_append]
  show _ + (x ++ (⟨#[]⟩ : Str)).length = _
  rw [append_empty]
theorem nlRows_cat (rows : List Str) (n : Int) (ms : List (Str × Str)) : (cat (nlRows rows n ms)).length ≤ (cat rows).length + (txt ms).length ∧ (nlRows rows n ms).length ≤ rows.length + 1 := by
  unfold nlRows
  split
  · split
    · rename_i h
      obtain ⟨ys, y, rfl⟩ : ∃ ys y, rows = ys ++ [y] := ⟨_, _, (List.dropLast_concat_getLast h.2.2).symm⟩
      rw [List.dropLast_concat, List.getLast?_concat, Option.getD_some, cat_snoc, cat_snoc, len_append]
      simp
      omega
    · rw [cat_snoc]; simp
  · exact ⟨Nat.le_add_right _ _, Nat.le_succ _⟩
theorem nl_sz (s : FS) : (cat s.nl.rows).length ≤ (cat s.rows).length + (txt s.ps).length ∧ s.nl.rows.length ≤ s.rows.length + 1 := by
  have h := nlRows_cat s.rows s.n (midP s.ps)
  have h2 := mid_sz s.ps
  exact ⟨by show (cat (nlRows _ _ _)).length ≤ _; omega, h.2⟩
theorem di11 : DefK (K11 P) 57 ["self", "headerlen", "maxlen", "continuation_ws", "splitchars"] := defK_of (by kernel_rfl)
theorem initF11 {n : Int} {rest : Own} (hh : A.handled = none) (hD : A.depth ≤ 700) (hU : A.units ≤ 7000) (hc : cw.length ≤ 1000) (q : ∀ ln x d, Q .none (fo11 f fd ln x d wd cw sg ⟨[], n, []⟩ rest)) :
    CallT pr11 w (K11 P) A ((f, .inst 116 fd) :: (fd, .idict []) :: (162, .tab) :: (169, .tab) :: rest) (.ref 57) [.raw (.ref f), .int n, .int wd, .str cw, .str sg] Q := by
  obtain ⟨cdF, IF⟩ := insK11 (P := P)
  refine callT_pk (callT_fn (ddefs := []) di11 [("self", .raw (.ref f)), ("headerlen", .int n), ("maxlen", .int wd), ("continuation_ws", .str cw), ("splitchars", .str sg)] [] lim11 rfl rfl (fun _ => .nil) (fun S vs h => by
    rcases vs with _ | ⟨a, _ | ⟨b, _ | ⟨c, _ | ⟨d, _ | ⟨e, _ | ⟨g, r⟩⟩⟩⟩⟩⟩ <;> first | (simp at h; done) | kernel_rfl) hh (by walk_at "om") (by walk_at "om") fun L => ?_)
  refine exs_cons (ex_assign1 (by rfl) ?_)
  walk_at "name"
  refine as_attrI ?_
  walk_at "name"
  refine ⟨_, _, _, _, [], _, _, rfl, IF.st, by walk_at "has", by kernel_rfl, by (repeat (first | with_reducible exact SetL.here | with_reducible exact SetL.new | (with_reducible apply SetL.there; (focus (dsimp only; decide))))), by simp, by walk_at "has", ?_⟩
  refine exs_cons (ex_assign1 (by rfl) ?_)
  walk_at "name"
  refine as_attrI ?_
  walk_at "name"
  refine ⟨_, _, _, _, [("_maxlen", .int wd)], _, _, rfl, IF.st, by walk_at "has", by kernel_rfl, by (repeat (first | with_reducible exact SetL.here | with_reducible exact SetL.new | (with_reducible apply SetL.there; (focus (dsimp only; decide))))), by simp, by walk_at "has", ?_⟩
  refine exs_cons (ex_assign1 (by rfl) ?_)
  walk_at "fn"
  refine evl_cons ?_
  walk_at "name"
  refine evl_nil (op_len_str (by omega) ?_)
  refine as_attrI ?_
  walk_at "name"
  refine ⟨_, _, _, _, [("_maxlen", .int wd), ("_continuation_ws", .str cw)], _, _, rfl, IF.st, by walk_at "has", by kernel_rfl, by (repeat (first | with_reducible exact SetL.here | with_reducible exact SetL.new | (with_reducible apply SetL.there; (focus (dsimp only; decide))))), by simp, by walk_at "has", ?_⟩
  refine exs_cons (ex_assign1 (by rfl) ?_)
  walk_at "name"
  refine as_attrI ?_
  walk_at "name"
  refine ⟨_, _, _, _, [("_maxlen", .int wd), ("_continuation_ws", .str cw), ("_continuation_ws_len", .int cw.length)], _, _, rfl, IF.st, by walk_at "has", by kernel_rfl, by (repeat (first | with_reducible exact SetL.here | with_reducible exact SetL.new | (with_reducible apply SetL.there; (focus (dsimp only; decide))))), by simp, by walk_at "has", ?_⟩
  refine exs_cons (ex_assign1 (by rfl) (ev_list (evl_nil ⟨by decide, fun ln => ?_⟩)))
  refine as_attrI ?_
  walk_at "name"
  refine ⟨_, _, _, _, [("_maxlen", .int wd), ("_continuation_ws", .str cw), ("_continuation_ws_len", .int cw.length), ("_splitchars", .str sg)], _, _, rfl, IF.st, by walk_at "has", by kernel_rfl, by (repeat (first | with_reducible exact SetL.here | with_reducible exact SetL.new | (with_reducible apply SetL.there; (focus (dsimp only; decide))))), by simp, by walk_at "has", ?_⟩
  refine exs_cons (ex_assign1 (by rfl) ?_)
  refine ev_call (f := .ref 200) (callee_k (by kernel_rfl)) (by kernel_rfl) ?_
  refine ev_global (by kernel_rfl) (by decide +kernel) (by kernel_rfl) ⟨rfl, ?_⟩
  refine evl_cons ?_
  walk_at "name"
  refine evl_nil (opN_callT (makeI11 (by exact hh) (by show A.depth + 1 ≤ 800; omega) (by show A.units + 3 ≤ 8000; omega) fun x d => ?_))
  refine as_attrI ?_
  walk_at "name"
  refine ⟨_, _, _, _, [("_maxlen", .int wd), ("_continuation_ws", .str cw), ("_continuation_ws_len", .int cw.length), ("_splitchars", .str sg), ("_lines", .raw (.ref ln))], _, _, rfl, IF.st, by walk_at "has", by kernel_rfl, by (repeat (first | with_reducible exact SetL.here | with_reducible exact SetL.new | (with_reducible apply SetL.there; (focus (dsimp only; decide))))), by simp, by walk_at "has", ?_⟩
  refine exs_nil ⟨_, ?_, q ln x d⟩
  exact .head [3, 4, 2, 0, 1] (by decide) (by simp) rfl (a := [(f, .inst 116 fd), (fd, .idict (fa11 ln x wd cw sg)), (ln, .list []), (x, .acc 200 d []), (d, .idict [("_initial_size", .int n)])])
    (b := [(x, .acc 200 d []), (d, .idict [("_initial_size", .int n)]), (ln, .list []), (f, .inst 116 fd), (fd, .idict (fa11 ln x wd cw sg))])
theorem makeF11 {n : Int} {rest : Own} (hh : A.handled = none) (hD : A.depth ≤ 600) (hU : A.units ≤ 6000) (hc : cw.length ≤ 1000) (q : ∀ f fd ln x d, Q (.raw (.ref f)) (fo11 f fd ln x d wd cw sg ⟨[], n, []⟩ rest)) :
    CallT pr11 w (K11 P) A ((162, .tab) :: (169, .tab) :: rest) (.ref 116) [.int n, .int wd, .str cw, .str sg] Q :=
  callT_makeI (by kernel_rfl) (by kernel_rfl) (by kernel_rfl) fun A' f fd e1 e2 e3 => initF11 (e1.trans hh) (by omega) (by omega) hc fun ln x d => ⟨rfl, q f fd ln x d⟩
theorem ds11 : DefK (K11 P) 64 ["self", "linesep"] := defK_of (by kernel_rfl)
theorem strF11 {s : FS} {rest : Own} {sep : Str} (hh : A.handled = none) (hD : A.depth ≤ 500) (hU : A.units ≤ 5000) (hs : s.Ok) (hc : sep.length ≤ 10) (q : Q (.str (Str.join sep s.nl.rows)) (fo11 f fd ln x d wd cw sg s.nl rest)) :
    CallT pr11 w (K11 P) A (fo11 f fd ln x d wd cw sg s rest) (.ref 64) [.raw (.ref f), .str sep] Q := by
  obtain ⟨cdF, IF⟩ := insK11 (P := P)
  have hz := nl_sz s
  have h1 := hs.sz
  have h2 := hs.rl
  have hm : s.nl.rows.length * sep.length ≤ 1001 * 10 := Nat.mul_le_mul (by omega) hc
  refine callT_fn (ddefs := []) ds11 [("self", .raw (.ref f)), ("linesep", .str sep)] [] lim11 rfl rfl (fun _ => .nil) (fun S vs h => by obtain ⟨a, b, rfl⟩ := len2 h; kernel_rfl) hh (by walk_at "om") (by walk_at "om") fun L => ?_
  ((refine exs_cons ?_; first | (refine ex_assignS ?hs ?_; (case hs => exact swaps_plain (by rfl))) | refine ex_expr (by kernel_rfl) (by rfl) ?_ | refine ex_if ?_ | refine ex_return ?_ | fail "none"))
  refine ev_meth ?_
  walk_at "name"
  refine meth_fnI (f := 78) IF (by walk_at "has") (by walk_at "has") (by kernel_rfl) (by kernel_rfl) (by kernel_rfl) (by kernel_rfl) (by kernel_rfl) (evl_nil ?_)
  refine opN_callT (newline11 hh (by show A.depth + 1 ≤ 600; omega) (by show A.units + 3 ≤ 6000; omega) hs ?_)
  refine exs_cons (ex_return (ev_meth ?_))
  walk_at "name"
  refine meth_str (i := "str.join") (fun h => GM.join h) (by kernel_rfl) (evl_cons ?_)
  ((refine ev_attrI rfl ?_; walk_at "name"; refine ⟨_, _, _, _, _, _, rfl, by assumption, by walk_at "has", by walk_at "has", by kernel_rfl, rfl, rfl, ?_⟩))
  refine evl_nil (op_join_list (ys := s.nl.rows) (by walk_at "has") ?_ ?_)
  · rw [← cat_len]; omega
  · exact q
open PySem PySem.W PySem.Builtin PySem.Builtin.ObjectAttr
open PyProof.Rows hiding wpAt wpAt_bind
set_option linter.unusedSectionVars false
set_option maxRecDepth 100000
set_option maxHeartbeats 1000000
set_option linter.unusedVariables false
variable {P : PySem.Params} {w : World} {A : Around} {own own' : Own} {Q : Dv → Own → Prop} {f fd ln x d : Addr} {wd : Int} {cw sg : Str}
theorem len4 {α : Type} {l : List α} (h : l.length = 4) : ∃ a b c d, l = [a, b, c, d] := by
  rcases l with _ | ⟨a, _ | ⟨b, _ | ⟨c, _ | ⟨d, _ | ⟨e, r⟩⟩⟩⟩⟩ <;> first | exact ⟨_, _, _, _, rfl⟩ | cases h
theorem pat11 : PatK (K11 P) 43 := ⟨42, _, _, _, _, 0, _, #[], rfl, by kernel_rfl⟩
theorem dsp11 : DefK (K11 P) 106 ["self", "fws", "string", "splitchars"] := defK_of (by kernel_rfl)
theorem boot_iter1 : bootBuiltins "iter" = some (.builtin "iter") := by kernel_rfl
theorem loop11 {s : FS} {k : Nat} {pl : Addr} {W : List (Str × Str)} {rest : Own} (hh : A.handled = none) (hD : A.depth ≤ 400) (hU : A.units ≤ 4000) (ok : OkK k s) (hf : Fits W) (hk : k + W.length ≤ 98) (L : Addr) {hD' : A.depth ≤ 900} {hU' : A.units ≤ 9000}
    (q : ∀ o, Q .none (fo11 f fd ln x d wd cw sg (feedAll wd sg s W) ((pl, o) :: rest))) :
    Exs (dfFm pr11 w (K11 P) A 106 L _ dsp11 hh hD' hU') [("self", .raw (.ref f)), ("parts", .raw (.ref pl))] (fo11 f fd ln x d wd cw sg s ((pl, .list ((flat2 W).map .str)) :: rest)) ((bodyOf (fnOf (K11 P) 106)).drop 2) fun fl loc own => ∃ o', Sp o' own ∧ Q (retOf fl) o' := by
  obtain ⟨cdF, IF⟩ := insK11 (P := P)
  have e1 : (dfFm pr11 w (K11 P) A 106 L _ dsp11 hh hD' hU').A.depth = A.depth + 1 := rfl
  have e2 : (dfFm pr11 w (K11 P) A 106 L _ dsp11 hh hD' hU').A.units = A.units + 3 := rfl
  refine exs_cons (ex_forI rfl (fun _ => rfl) (it_call_star (T := "zip") ?_))
  refine ev_builtin (by kernel_rfl) (by decide +kernel) (by kernel_rfl) (by decide +kernel) boot_zip ⟨rfl, ?_⟩
  refine ev_bin ?_
  refine ev_list (evl_cons (ev_call (f := .builtin "iter") (.inr (.inl ⟨_, rfl⟩)) (by kernel_rfl) (ev_builtin (by kernel_rfl) (by decide +kernel) (by kernel_rfl) (by decide +kernel) boot_iter1 ⟨rfl, evl_cons ?_⟩)))
  walk_at "name"
  refine evl_nil (op_iter (ds := (flat2 W).map .str) (by walk_at "has") fun i => evl_nil ⟨Nat.le_of_ble_eq_true rfl, fun l1 => ?_⟩)
  (repeat' ((first | (with_reducible first | refine ev_bin ?_ | refine ev_int ?_ | refine ev_str ?_ | refine ev_bool ?_ | refine ev_none ?_ | walk_at "name" | walk_at "fn" | refine ev_sub ?_ | refine ev_slice ?_ | refine evo_none ?_ | refine evo_some ?_ | refine ev_tuple ?_ | refine ev_list ?_ | refine evl_nil ?_ | refine op_add ?_ | refine op_sub ?_ | refine op_lt ?_ | refine op_gt ?_ | refine op_le ?_ | refine op_eq ?_ | refine op_ne ?_ | refine op_eq_str ?_ | refine op_ne_str ?_ | refine op_max ?_ | refine op_min ?_ | refine op_abs ?_ | refine op_mod (by first | decide | walk_at "om") ?_ | refine op_div (by first | decide | walk_at "om") (by first | decide | walk_at "om") ?_ | refine op_len_str (by first | decide | walk_at "om") ?_ | refine op_cat (by first | decide | walk_at "om") ?_ | refine truth_bool ?_ | refine tst_cmp (by kernel_rfl) ?_ | refine ev_cmp (by kernel_rfl) ?_ | refine tst_not ?_ | fail "none") | ((with_reducible show EvL _ _ _ _ (_ :: _) _); refine evl_cons ?_) | ((with_reducible show Ev _ _ _ (.Call (.Attribute _ _ _) _ [] _) _); refine ev_meth ?_) | fail "none")))
  refine op_mul_list2 .here fun l2 => ⟨l2, _, rfl, .here, Nat.le_of_ble_eq_true rfl, ?_⟩
  refine itop_zip1 (n := W.length) (.cons _ (.cons _ (List.Sublist.refl _))) (by walk_at "has") (by rw [List.length_map, flat2_len]) ?_
  rw [pairD_flat]
  refine ⟨fun j loc own => ([("self", .raw (.ref f))] : Loc).Sublist loc ∧ own = fo11 f fd ln x d wd cw sg (feedAll wd sg s (W.take j)) ((pl, .list ((flat2 W).map .str)) :: rest), ⟨by (repeat (first | with_reducible exact List.Sublist.refl _ | with_reducible apply List.Sublist.cons_cons | with_reducible apply List.Sublist.cons | exact List.nil_sublist _)), rfl⟩, fun _ _ _ h => by rw [h.2]; walk_at "has", ?_, ?_⟩
  · rintro j dv loc own hd ⟨sl, rfl⟩
    rw [List.getElem?_map] at hd
    cases hp : W[j]? with
    | none => rw [hp] at hd; cases hd
    | some p =>
      rw [hp] at hd; cases hd
      have hj : j < W.length := (List.getElem?_eq_some_iff.mp hp).1
      intro _
      refine as_sp sl .refl (as_tuple (by kernel_rfl) rfl (as_name (by kernel_rfl) (by (repeat (first | with_reducible exact SetL.here | with_reducible exact SetL.new | (with_reducible apply SetL.there; (focus (dsimp only; decide)))))) (as_name (by kernel_rfl) (by (repeat (first | with_reducible exact SetL.here | with_reducible exact SetL.new | (with_reducible apply SetL.there; (focus (dsimp only; decide)))))) ?_)))
      ((refine exs_cons ?_; first | (refine ex_assignS ?hs ?_; (case hs => exact swaps_plain (by rfl))) | refine ex_expr (by kernel_rfl) (by rfl) ?_ | refine ex_if ?_ | refine ex_return ?_ | fail "none"))
      refine ev_meth ?_
      walk_at "name"
      refine meth_fnI (f := 113) IF (by walk_at "has") (by walk_at "has") (by kernel_rfl) (by kernel_rfl) (by kernel_rfl) (by kernel_rfl) (by kernel_rfl) ?_
      (repeat' ((first | (with_reducible first | refine ev_bin ?_ | refine ev_int ?_ | refine ev_str ?_ | refine ev_bool ?_ | refine ev_none ?_ | walk_at "name" | walk_at "fn" | refine ev_sub ?_ | refine ev_slice ?_ | refine evo_none ?_ | refine evo_some ?_ | refine ev_tuple ?_ | refine ev_list ?_ | refine evl_nil ?_ | refine op_add ?_ | refine op_sub ?_ | refine op_lt ?_ | refine op_gt ?_ | refine op_le ?_ | refine op_eq ?_ | refine op_ne ?_ | refine op_eq_str ?_ | refine op_ne_str ?_ | refine op_max ?_ | refine op_min ?_ | refine op_abs ?_ | refine op_mod (by first | decide | walk_at "om") ?_ | refine op_div (by first | decide | walk_at "om") (by first | decide | walk_at "om") ?_ | refine op_len_str (by first | decide | walk_at "om") ?_ | refine op_cat (by first | decide | walk_at "om") ?_ | refine truth_bool ?_ | refine tst_cmp (by kernel_rfl) ?_ | refine ev_cmp (by kernel_rfl) ?_ | refine tst_not ?_ | fail "none") | ((with_reducible show EvL _ _ _ _ (_ :: _) _); refine evl_cons ?_) | ((with_reducible show Ev _ _ _ (.Call (.Attribute _ _ _) _ [] _) _); refine ev_meth ?_) | fail "none")))
      have okj : OkK (k + (W.take j).length) (feedAll wd sg s (W.take j)) := feed_ok ok fun p hp => hf p (List.mem_of_mem_take hp)
      refine opN_callT (append11 (p := p) hh (by omega) (by omega) (okj.ok (by rw [List.length_take]; omega)) (hf p (List.mem_of_getElem? hp)) ?_)
      refine exs_nil ⟨by (repeat (first | with_reducible exact List.Sublist.refl _ | with_reducible apply List.Sublist.cons_cons | with_reducible apply List.Sublist.cons | exact List.nil_sublist _)), ?_⟩
      rw [← feed_snoc, List.take_add_one, hp]; rfl
  · rintro loc own ⟨sl, rfl⟩
    rw [List.length_map, List.take_of_length_le (Nat.le_refl _)]
    exact exs_nil (exs_nil ⟨_, .refl, q _⟩)
theorem fits_words {x : Str} (hx : x.length ≤ 180) : Fits (wordsOf x) := fun p hp => by
  obtain ⟨i, hi⟩ := List.getElem?_of_mem hp
  have := (words_at hi).2
  omega
theorem split11 {s : FS} {k : Nat} {a b : Str} {rest : Own} (hh : A.handled = none) (hD : A.depth ≤ 400) (hU : A.units ≤ 4000) (ok : OkK k s) (hl : (a ++ b).length ≤ 180) (hk : k ≤ 1) (q : ∀ r, Q .none (fo11 f fd ln x d wd cw sg (feedAll wd sg s (wordsOf (a ++ b))) (r :: rest))) :
    CallT pr11 w (K11 P) A (fo11 f fd ln x d wd cw sg s rest) (.ref 106) [.raw (.ref f), .str a, .str b, .str sg] Q := by
  obtain ⟨cdF, IF⟩ := insK11 (P := P)
  have hla : a.length + b.length ≤ 180 := by rw [len_append] at hl; exact hl
  refine callT_sp (callT_fn (ddefs := []) dsp11 [("self", .raw (.ref f)), ("fws", .str a), ("string", .str b), ("splitchars", .str sg)] [] lim11 rfl rfl (fun _ => .nil) (fun S vs h => by obtain ⟨a, b, c, d, rfl⟩ := len4 h; kernel_rfl) hh (by walk_at "om") (by walk_at "om") fun L => ?_)
  ((refine exs_cons ?_; first | (refine ex_assignS ?hs ?_; (case hs => exact swaps_plain (by rfl))) | refine ex_expr (by kernel_rfl) (by rfl) ?_ | refine ex_if ?_ | refine ex_return ?_ | fail "none"))
  refine ev_meth (ev_global (v := .ref 43) (by kernel_rfl) (by decide +kernel) (by kernel_rfl) ?_)
  refine meth_split pat11 (by kernel_rfl) (evl_cons ?_)
  (repeat' ((first | (with_reducible first | refine ev_bin ?_ | refine ev_int ?_ | refine ev_str ?_ | refine ev_bool ?_ | refine ev_none ?_ | walk_at "name" | walk_at "fn" | refine ev_sub ?_ | refine ev_slice ?_ | refine evo_none ?_ | refine evo_some ?_ | refine ev_tuple ?_ | refine ev_list ?_ | refine evl_nil ?_ | refine op_add ?_ | refine op_sub ?_ | refine op_lt ?_ | refine op_gt ?_ | refine op_le ?_ | refine op_eq ?_ | refine op_ne ?_ | refine op_eq_str ?_ | refine op_ne_str ?_ | refine op_max ?_ | refine op_min ?_ | refine op_abs ?_ | refine op_mod (by first | decide | walk_at "om") ?_ | refine op_div (by first | decide | walk_at "om") (by first | decide | walk_at "om") ?_ | refine op_len_str (by first | decide | walk_at "om") ?_ | refine op_cat (by first | decide | walk_at "om") ?_ | refine truth_bool ?_ | refine tst_cmp (by kernel_rfl) ?_ | refine ev_cmp (by kernel_rfl) ?_ | refine tst_not ?_ | fail "none") | ((with_reducible show EvL _ _ _ _ (_ :: _) _); refine evl_cons ?_) | ((with_reducible show Ev _ _ _ (.Call (.Attribute _ _ _) _ [] _) _); refine ev_meth ?_) | fail "none")))
  refine op_split pat11 (by omega) fun pl => ⟨_, _, by ((refine StoreTo.loc (by kernel_rfl) (by (repeat (first | with_reducible exact SetL.here | with_reducible exact SetL.new | (with_reducible apply SetL.there; (focus (dsimp only; decide)))))))), ?_⟩
  have hW : 2 * (wordsOf (a ++ b)).length ≤ 182 := by have := words_count (a ++ b); omega
  have hfw := fits_words hl
  have hp0 := partsOf_eq (a ++ b)
  have hwo : wordsOf (a ++ b) = (if (a ++ b).cps.toList.takeWhile nwb = [] then [] else [(("" : Str), S ((a ++ b).cps.toList.takeWhile nwb))]) ++ pairW (2 * (a ++ b).cps.size + 3) ((a ++ b).cps.toList.dropWhile nwb) := rfl
  have hlp : ((a ++ b).cps.toList.takeWhile nwb).length ≤ 180 := by have := (word_fuel (a ++ b)).2; omega
  generalize hP : pairW (2 * (a ++ b).cps.size + 3) ((a ++ b).cps.toList.dropWhile nwb) = PW at hp0 hwo
  generalize hQ : (a ++ b).cps.toList.takeWhile nwb = pre at hp0 hwo hlp
  have hPl : PW.length ≤ (wordsOf (a ++ b)).length := by rw [hwo, List.length_append]; exact Nat.le_add_left _ _
  have loop := fun (own1 : Own) (loc1 : Loc) (h1 : ([("self", .raw (.ref f)), ("parts", .raw (.ref pl))] : Loc).Sublist loc1) (h2 : Sp (fo11 f fd ln x d wd cw sg s ((pl, .list ((flat2 (wordsOf (a ++ b))).map .str)) :: rest)) own1) =>
    exs_sp h1 h2 (loop11 (P := P) (w := w) (Q := Q) (cw := cw) hh hD hU ok hfw (by omega) L (hD' := by omega) (hU' := by omega) fun o => q (pl, o))
  rw [hp0]
  have hfl := flat2_len PW
  refine exs_cons (ex_if (tst_plain (ev_sub ?_)))
  (repeat' ((first | (with_reducible first | refine ev_bin ?_ | refine ev_int ?_ | refine ev_str ?_ | refine ev_bool ?_ | refine ev_none ?_ | walk_at "name" | walk_at "fn" | refine ev_sub ?_ | refine ev_slice ?_ | refine evo_none ?_ | refine evo_some ?_ | refine ev_tuple ?_ | refine ev_list ?_ | refine evl_nil ?_ | refine op_add ?_ | refine op_sub ?_ | refine op_lt ?_ | refine op_gt ?_ | refine op_le ?_ | refine op_eq ?_ | refine op_ne ?_ | refine op_eq_str ?_ | refine op_ne_str ?_ | refine op_max ?_ | refine op_min ?_ | refine op_abs ?_ | refine op_mod (by first | decide | walk_at "om") ?_ | refine op_div (by first | decide | walk_at "om") (by first | decide | walk_at "om") ?_ | refine op_len_str (by first | decide | walk_at "om") ?_ | refine op_cat (by first | decide | walk_at "om") ?_ | refine truth_bool ?_ | refine tst_cmp (by kernel_rfl) ?_ | refine ev_cmp (by kernel_rfl) ?_ | refine tst_not ?_ | fail "none") | ((with_reducible show EvL _ _ _ _ (_ :: _) _); refine evl_cons ?_) | ((with_reducible show Ev _ _ _ (.Call (.Attribute _ _ _) _ [] _) _); refine ev_meth ?_) | fail "none")))
  refine sub_list (ds := (S pre :: flat2 PW).map .str) (d := .str (S pre)) .here (by kernel_rfl) (by decide) rfl (by simp; omega) ?_
  refine truth_str (by rw [S_len]; omega) ?_
  by_cases hpre : pre = []
  · subst hpre
    rw [if_neg (by rw [S_len]; simp)]
    rw [if_pos rfl, List.nil_append] at hwo
    ((refine exs_cons ?_; first | (refine ex_assignS ?hs ?_; (case hs => exact swaps_plain (by rfl))) | refine ex_expr (by kernel_rfl) (by rfl) ?_ | refine ex_if ?_ | refine ex_return ?_ | fail "none"))
    refine ev_meth ?_
    walk_at "name"
    refine meth_list (i := "list.pop") .here (by rw [typeLookup_type, builtinLookup_eq_fast]; kernel_rfl) (by show builtinType _ = _; rw [builtinType_eq_fast]; kernel_rfl) (by kernel_rfl) (evl_cons ?_)
    (repeat' ((first | (with_reducible first | refine ev_bin ?_ | refine ev_int ?_ | refine ev_str ?_ | refine ev_bool ?_ | refine ev_none ?_ | walk_at "name" | walk_at "fn" | refine ev_sub ?_ | refine ev_slice ?_ | refine evo_none ?_ | refine evo_some ?_ | refine ev_tuple ?_ | refine ev_list ?_ | refine evl_nil ?_ | refine op_add ?_ | refine op_sub ?_ | refine op_lt ?_ | refine op_gt ?_ | refine op_le ?_ | refine op_eq ?_ | refine op_ne ?_ | refine op_eq_str ?_ | refine op_ne_str ?_ | refine op_max ?_ | refine op_min ?_ | refine op_abs ?_ | refine op_mod (by first | decide | walk_at "om") ?_ | refine op_div (by first | decide | walk_at "om") (by first | decide | walk_at "om") ?_ | refine op_len_str (by first | decide | walk_at "om") ?_ | refine op_cat (by first | decide | walk_at "om") ?_ | refine truth_bool ?_ | refine tst_cmp (by kernel_rfl) ?_ | refine ev_cmp (by kernel_rfl) ?_ | refine tst_not ?_ | fail "none") | ((with_reducible show EvL _ _ _ _ (_ :: _) _); refine evl_cons ?_) | ((with_reducible show Ev _ _ _ (.Call (.Attribute _ _ _) _ [] _) _); refine ev_meth ?_) | fail "none")))
    refine op_pop0 (ds := (flat2 PW).map .str) (d := .str (S [])) .here (by simp; omega) ?_
    refine exs_nil ?_
    rw [hwo] at loop
    exact loop _ _ (by (repeat (first | with_reducible exact List.Sublist.refl _ | with_reducible apply List.Sublist.cons_cons | with_reducible apply List.Sublist.cons | exact List.nil_sublist _))) (.of_perm (List.perm_middle (l₁ := [_, _, _, _, _, _, _])))
  · rw [if_pos (by rw [S_len]; simpa using hpre)]
    rw [if_neg hpre] at hwo
    refine exs_cons (ex_assign1 (by rfl) (ev_list (evl_cons ?_)))
    (repeat' ((first | (with_reducible first | refine ev_bin ?_ | refine ev_int ?_ | refine ev_str ?_ | refine ev_bool ?_ | refine ev_none ?_ | walk_at "name" | walk_at "fn" | refine ev_sub ?_ | refine ev_slice ?_ | refine evo_none ?_ | refine evo_some ?_ | refine ev_tuple ?_ | refine ev_list ?_ | refine evl_nil ?_ | refine op_add ?_ | refine op_sub ?_ | refine op_lt ?_ | refine op_gt ?_ | refine op_le ?_ | refine op_eq ?_ | refine op_ne ?_ | refine op_eq_str ?_ | refine op_ne_str ?_ | refine op_max ?_ | refine op_min ?_ | refine op_abs ?_ | refine op_mod (by first | decide | walk_at "om") ?_ | refine op_div (by first | decide | walk_at "om") (by first | decide | walk_at "om") ?_ | refine op_len_str (by first | decide | walk_at "om") ?_ | refine op_cat (by first | decide | walk_at "om") ?_ | refine truth_bool ?_ | refine tst_cmp (by kernel_rfl) ?_ | refine ev_cmp (by kernel_rfl) ?_ | refine tst_not ?_ | fail "none") | ((with_reducible show EvL _ _ _ _ (_ :: _) _); refine evl_cons ?_) | ((with_reducible show Ev _ _ _ (.Call (.Attribute _ _ _) _ [] _) _); refine ev_meth ?_) | fail "none")))
    refine ⟨Nat.le_of_ble_eq_true rfl, fun e0 => as_slice_list ?_⟩
    walk_at "name"
    refine ev_slice ?_
    (repeat' ((first | (with_reducible first | refine ev_bin ?_ | refine ev_int ?_ | refine ev_str ?_ | refine ev_bool ?_ | refine ev_none ?_ | walk_at "name" | walk_at "fn" | refine ev_sub ?_ | refine ev_slice ?_ | refine evo_none ?_ | refine evo_some ?_ | refine ev_tuple ?_ | refine ev_list ?_ | refine evl_nil ?_ | refine op_add ?_ | refine op_sub ?_ | refine op_lt ?_ | refine op_gt ?_ | refine op_le ?_ | refine op_eq ?_ | refine op_ne ?_ | refine op_eq_str ?_ | refine op_ne_str ?_ | refine op_max ?_ | refine op_min ?_ | refine op_abs ?_ | refine op_mod (by first | decide | walk_at "om") ?_ | refine op_div (by first | decide | walk_at "om") (by first | decide | walk_at "om") ?_ | refine op_len_str (by first | decide | walk_at "om") ?_ | refine op_cat (by first | decide | walk_at "om") ?_ | refine truth_bool ?_ | refine tst_cmp (by kernel_rfl) ?_ | refine ev_cmp (by kernel_rfl) ?_ | refine tst_not ?_ | fail "none") | ((with_reducible show EvL _ _ _ _ (_ :: _) _); refine evl_cons ?_) | ((with_reducible show Ev _ _ _ (.Call (.Attribute _ _ _) _ [] _) _); refine ev_meth ?_) | fail "none")))
    intro a1
    refine ⟨pl, e0, a1, (S pre :: flat2 PW).map .str, [.str ("" : Str)], .none, .int 0, none, some 0, _, rfl, rfl, rfl, .here, .none, .int _, .there .here, fun nd e => ?_, by simp; omega, Nat.le_of_ble_eq_true rfl, .there (.there .here), ?_⟩
    · have := (List.nodup_cons.mp (List.nodup_cons.mp nd).2).1
      exact this (by rw [← e]; exact .head _)
    rw [putS_front]
    refine exs_nil ?_
    rw [hwo] at loop
    exact loop _ _ (by (repeat (first | with_reducible exact List.Sublist.refl _ | with_reducible apply List.Sublist.cons_cons | with_reducible apply List.Sublist.cons | exact List.nil_sublist _))) (.perm (List.perm_middle (l₁ := [_, _, _, _, _, _, _])) (.of_sub (.cons _ (.cons _ (List.Sublist.refl _)))))

open PySem PySem.W PySem.Builtin PySem.Builtin.ObjectAttr
open PyProof.Rows hiding wpAt wpAt_bind
set_option linter.unusedSectionVars false
set_option maxRecDepth 100000
set_option maxHeartbeats 1000000
set_option linter.unusedVariables false
variable {P : PySem.Params} {w : World} {A : Around} {own own' : Own} {Q : Dv → Own → Prop} {f fd ln x d : Addr} {wd : Int} {cw sg : Str}
theorem dfe11 : DefK (K11 P) 92 ["self", "fws", "string", "charset"] := defK_of (by kernel_rfl)
theorem feed11 {s : FS} {k : Nat} {a b : Str} {rest : Own} {pf pd : Addr} {lp : List (Str × Dv)} (hh : A.handled = none) (hD : A.depth ≤ 390) (hU : A.units ≤ 3900) (ok : OkK k s) (hl : (a ++ b).length ≤ 180) (hk : k ≤ 1)
    (hp : HasO pf (.inst 116 pd) (fo11 f fd ln x d wd cw sg s rest)) (hpd : HasO pd (.idict lp) (fo11 f fd ln x d wd cw sg s rest)) (hlp : lp.lookup ("header_encoding" : Str) = some .none)
    (q : ∀ r, Q .none (fo11 f fd ln x d wd cw sg (feedAll wd sg s (wordsOf (a ++ b))) (r :: rest))) :
    CallT pr11 w (K11 P) A (fo11 f fd ln x d wd cw sg s rest) (.ref 92) [.raw (.ref f), .str a, .str b, .raw (.ref pf)] Q := by
  obtain ⟨cdF, IF⟩ := insK11 (P := P)
  have hla : a.length + b.length ≤ 180 := by rw [len_append] at hl; exact hl
  refine callT_sp (callT_fn (ddefs := []) dfe11 [("self", .raw (.ref f)), ("fws", .str a), ("string", .str b), ("charset", .raw (.ref pf))] [] lim11 rfl rfl (fun _ => .nil) (fun S vs h => by obtain ⟨a, b, c, d, rfl⟩ := len4 h; kernel_rfl) hh (by walk_at "om") (by walk_at "om") fun L => ?_)
  refine exs_cons (ex_if (tst_cmp (by kernel_rfl) ?_))
  refine ev_attrI rfl ?_
  walk_at "name"
  refine ⟨_, _, _, _, _, _, rfl, IF, hp, hpd, by kernel_rfl, hlp, rfl, ?_⟩
  (repeat' ((first | (with_reducible first | refine ev_bin ?_ | refine ev_int ?_ | refine ev_str ?_ | refine ev_bool ?_ | refine ev_none ?_ | walk_at "name" | walk_at "fn" | refine ev_sub ?_ | refine ev_slice ?_ | refine evo_none ?_ | refine evo_some ?_ | refine ev_tuple ?_ | refine ev_list ?_ | refine evl_nil ?_ | refine op_add ?_ | refine op_sub ?_ | refine op_lt ?_ | refine op_gt ?_ | refine op_le ?_ | refine op_eq ?_ | refine op_ne ?_ | refine op_eq_str ?_ | refine op_ne_str ?_ | refine op_max ?_ | refine op_min ?_ | refine op_abs ?_ | refine op_mod (by first | decide | walk_at "om") ?_ | refine op_div (by first | decide | walk_at "om") (by first | decide | walk_at "om") ?_ | refine op_len_str (by first | decide | walk_at "om") ?_ | refine op_cat (by first | decide | walk_at "om") ?_ | refine truth_bool ?_ | refine tst_cmp (by kernel_rfl) ?_ | refine ev_cmp (by kernel_rfl) ?_ | refine tst_not ?_ | fail "none") | ((with_reducible show EvL _ _ _ _ (_ :: _) _); refine evl_cons ?_) | ((with_reducible show Ev _ _ _ (.Call (.Attribute _ _ _) _ [] _) _); refine ev_meth ?_) | fail "none")))
  refine op_is_none (.inl ⟨rfl, rfl⟩) (truth_bool ?_)
  rw [if_pos rfl]
  ((refine exs_cons ?_; first | (refine ex_assignS ?hs ?_; (case hs => exact swaps_plain (by rfl))) | refine ex_expr (by kernel_rfl) (by rfl) ?_ | refine ex_if ?_ | refine ex_return ?_ | fail "none"))
  refine ev_meth ?_
  walk_at "name"
  refine meth_fnI (f := 106) IF (by walk_at "has") (by walk_at "has") (by kernel_rfl) (by kernel_rfl) (by kernel_rfl) (by kernel_rfl) (by kernel_rfl) ?_
  (repeat' ((first | (with_reducible first | refine ev_bin ?_ | refine ev_int ?_ | refine ev_str ?_ | refine ev_bool ?_ | refine ev_none ?_ | walk_at "name" | walk_at "fn" | refine ev_sub ?_ | refine ev_slice ?_ | refine evo_none ?_ | refine evo_some ?_ | refine ev_tuple ?_ | refine ev_list ?_ | refine evl_nil ?_ | refine op_add ?_ | refine op_sub ?_ | refine op_lt ?_ | refine op_gt ?_ | refine op_le ?_ | refine op_eq ?_ | refine op_ne ?_ | refine op_eq_str ?_ | refine op_ne_str ?_ | refine op_max ?_ | refine op_min ?_ | refine op_abs ?_ | refine op_mod (by first | decide | walk_at "om") ?_ | refine op_div (by first | decide | walk_at "om") (by first | decide | walk_at "om") ?_ | refine op_len_str (by first | decide | walk_at "om") ?_ | refine op_cat (by first | decide | walk_at "om") ?_ | refine truth_bool ?_ | refine tst_cmp (by kernel_rfl) ?_ | refine ev_cmp (by kernel_rfl) ?_ | refine tst_not ?_ | fail "none") | ((with_reducible show EvL _ _ _ _ (_ :: _) _); refine evl_cons ?_) | ((with_reducible show Ev _ _ _ (.Call (.Attribute _ _ _) _ [] _) _); refine ev_meth ?_) | fail "none")))
  ((refine ev_attrI rfl ?_; walk_at "name"; refine ⟨_, _, _, _, _, _, rfl, by assumption, by walk_at "has", by walk_at "has", by kernel_rfl, rfl, rfl, ?_⟩))
  (repeat' ((first | (with_reducible first | refine ev_bin ?_ | refine ev_int ?_ | refine ev_str ?_ | refine ev_bool ?_ | refine ev_none ?_ | walk_at "name" | walk_at "fn" | refine ev_sub ?_ | refine ev_slice ?_ | refine evo_none ?_ | refine evo_some ?_ | refine ev_tuple ?_ | refine ev_list ?_ | refine evl_nil ?_ | refine op_add ?_ | refine op_sub ?_ | refine op_lt ?_ | refine op_gt ?_ | refine op_le ?_ | refine op_eq ?_ | refine op_ne ?_ | refine op_eq_str ?_ | refine op_ne_str ?_ | refine op_max ?_ | refine op_min ?_ | refine op_abs ?_ | refine op_mod (by first | decide | walk_at "om") ?_ | refine op_div (by first | decide | walk_at "om") (by first | decide | walk_at "om") ?_ | refine op_len_str (by first | decide | walk_at "om") ?_ | refine op_cat (by first | decide | walk_at "om") ?_ | refine truth_bool ?_ | refine tst_cmp (by kernel_rfl) ?_ | refine ev_cmp (by kernel_rfl) ?_ | refine tst_not ?_ | fail "none") | ((with_reducible show EvL _ _ _ _ (_ :: _) _); refine evl_cons ?_) | ((with_reducible show Ev _ _ _ (.Call (.Attribute _ _ _) _ [] _) _); refine ev_meth ?_) | fail "none")))
  refine opN_callT (split11 hh (by show A.depth + 1 ≤ 400; omega) (by show A.units + 3 ≤ 4000; omega) ok hl hk fun r => ?_)
  exact exs_cons (ex_returnN ⟨_, .refl, q r⟩)

open PySem PySem.W PySem.Builtin PySem.Builtin.ObjectAttr
open PyProof.Rows hiding wpAt wpAt_bind
set_option linter.unusedSectionVars false
set_option maxRecDepth 100000
set_option maxHeartbeats 1000000
set_option linter.unusedVariables false
variable {P : PySem.Params} {w : World} {A : Around} {own own' : Own} {Q : Dv → Own → Prop}
theorem chR_snoc (zi : ChL) (z : Addr × (Str × Str)) : chR (zi ++ [z]) = chR zi ++ [.raw (.ref z.1)] := List.map_append
theorem chO_snoc (zi : ChL) (z : Addr × (Str × Str)) : chO (zi ++ [z]) = chO zi ++ [chA z] := List.map_append
theorem chP_snoc (zi : ChL) (z : Addr × (Str × Str)) : chP (zi ++ [z]) = chP zi ++ [z.2] := List.map_append
theorem last_perm {p : Addr × AObj} {zi : ChL} {z : Addr × (Str × Str)} {own : Own} : (p :: chA z :: (chO zi ++ own)).Perm (p :: (chO (zi ++ [z]) ++ own)) := by
  rw [chO_snoc, List.append_assoc]
  exact (List.perm_middle.symm).cons _
theorem sp_set {cl e : Addr} {q q' : Str × Str} {zi : ChL} {own : Own} : Sp ((cl, .list (chR (zi ++ [(e, q')]))) :: (chO (zi ++ [(e, q')]) ++ own)) ((cl, .list (chR (zi ++ [(e, q)]))) :: chA (e, q') :: (chO zi ++ own)) := by
  rw [chR_snoc, chR_snoc]
  exact .of_perm last_perm.symm
theorem sub_chLast {Γ : Fm} {loc : Loc} {own : Own} {Q : QV} {value slice : PySem.Expr} {cl : Addr} {zi : ChL} {z : Addr × (Str × Str)} (ha : HasO cl (.list (chR (zi ++ [z]))) own) (hs : notSlice slice = true) (hl : List.length zi ≤ 1000) (q : Q (.raw (.ref z.1)) loc own) :
    Sub Γ loc own value slice (.raw (.ref cl)) (.int (-1)) Q := by
  have h1 : (chR (zi ++ [z])).length = List.length zi + 1 := by rw [chR_len, List.length_append]; rfl
  refine sub_list_neg ha hs (by decide) (by rw [h1]; omega) ?_ (by rw [h1]; omega) q
  rw [h1, show ((-1 : Int) + ((List.length zi + 1 : Nat) : Int)).toNat = List.length zi by omega, chR_snoc, List.getElem?_append_right (by rw [chR_len]; exact Nat.le_refl _), chR_len, Nat.sub_self]
  rfl
theorem addW_ok {cs : List (Str × Str)} {n c : Nat} (h : ∀ p ∈ cs, p.1.length ≤ n ∧ p.2.length ≤ n) (hne : cs ≠ []) : (∀ p ∈ addW cs c, p.1.length ≤ n + 1 ∧ p.2.length ≤ n + 1) ∧ addW cs c ≠ [] ∧ (addW cs c).length ≤ cs.length + 1 := by
  obtain ⟨a, q, rfl⟩ : ∃ a q, cs = a ++ [q] := ⟨_, _, (List.dropLast_concat_getLast hne).symm⟩
  have hq := h q (by simp)
  have ha : ∀ p ∈ a, p.1.length ≤ n + 1 ∧ p.2.length ≤ n + 1 := fun p hp => by have := h p (List.mem_append_left _ hp); omega
  have hc : (S [c]).length = 1 := rfl
  cases hw : wsb c with
  | false =>
    rw [addW_n hw]
    refine ⟨fun p hp => ?_, by simp, by simp⟩
    rcases List.mem_append.mp hp with hp | hp
    · exact ha p hp
    · rw [List.mem_singleton.mp hp]
      refine ⟨by show q.1.length ≤ _; omega, ?_⟩
      show (q.2 ++ S [c]).length ≤ _
      rw [len_append]; omega
  | true =>
    by_cases h2 : q.2.length = 0
    · rw [addW_w0 hw h2]
      refine ⟨fun p hp => ?_, by simp, by simp⟩
      rcases List.mem_append.mp hp with hp | hp
      · exact ha p hp
      · rw [List.mem_singleton.mp hp]
        refine ⟨?_, by show q.2.length ≤ _; omega⟩
        show (q.1 ++ S [c]).length ≤ _
        rw [len_append]; omega
    · rw [addW_w1 hw h2]
      refine ⟨fun p hp => ?_, by simp, by simp⟩
      rcases List.mem_append.mp hp with hp | hp
      · have := h p hp; omega
      · rw [List.mem_singleton.mp hp]
        refine ⟨by show (S [c]).length ≤ _; omega, Nat.zero_le _⟩
theorem foldW_ok (l : List Nat) : ∀ k, k ≤ l.length → (∀ p ∈ (l.take k).foldl addW [nilP], p.1.length ≤ k ∧ p.2.length ≤ k) ∧ (l.take k).foldl addW [nilP] ≠ [] ∧ ((l.take k).foldl addW [nilP]).length ≤ k + 1
  | 0, _ => by
    rw [List.take_zero]
    refine ⟨fun p hp => ?_, by simp, Nat.le_refl _⟩
    rw [List.mem_singleton.mp hp]
    exact ⟨Nat.le_refl _, Nat.le_refl _⟩
  | k + 1, h => by
    obtain ⟨h1, h2, h3⟩ := foldW_ok l k (by omega)
    rw [List.take_add_one, List.getElem?_eq_getElem (by omega), List.foldl_append]
    obtain ⟨g1, g2, g3⟩ := addW_ok (c := l[k]) h1 h2
    exact ⟨g1, g2, Nat.le_trans g3 (by omega)⟩
theorem dlw11 : DefK (K11 P) 209 ["text"] := defK_of (by kernel_rfl)
theorem words11 {x : Str} (hh : A.handled = none) (hD : A.depth ≤ 800) (hU : A.units ≤ 8000) (hx : x.length ≤ 180)
    (q : ∀ (cl : Addr) (zs : ChL), chP zs = wordsOf x → Q (.raw (.ref cl)) ((cl, .list (chR zs)) :: (chO zs ++ own))) : CallT pr11 w (K11 P) A own (.ref 209) [.str x] Q := by
  refine callT_sp (callT_fn (ddefs := []) dlw11 [("text", .str x)] [] lim11 rfl rfl (fun _ => .nil) (fun S vs h => by obtain ⟨a, rfl⟩ := len1 h; kernel_rfl) hh (by walk_at "om") (by walk_at "om") fun L => ?_)
  ((refine exs_cons ?_; first | (refine ex_assignS ?hs ?_; (case hs => exact swaps_plain (by rfl))) | refine ex_expr (by kernel_rfl) (by rfl) ?_ | refine ex_if ?_ | refine ex_return ?_ | fail "none"))
  refine ev_list (evl_cons (ev_list ?_))
  (repeat' ((first | (with_reducible first | refine ev_bin ?_ | refine ev_int ?_ | refine ev_str ?_ | refine ev_bool ?_ | refine ev_none ?_ | walk_at "name" | walk_at "fn" | refine ev_sub ?_ | refine ev_slice ?_ | refine evo_none ?_ | refine evo_some ?_ | refine ev_tuple ?_ | refine ev_list ?_ | refine evl_nil ?_ | refine op_add ?_ | refine op_sub ?_ | refine op_lt ?_ | refine op_gt ?_ | refine op_le ?_ | refine op_eq ?_ | refine op_ne ?_ | refine op_eq_str ?_ | refine op_ne_str ?_ | refine op_max ?_ | refine op_min ?_ | refine op_abs ?_ | refine op_mod (by first | decide | walk_at "om") ?_ | refine op_div (by first | decide | walk_at "om") (by first | decide | walk_at "om") ?_ | refine op_len_str (by first | decide | walk_at "om") ?_ | refine op_cat (by first | decide | walk_at "om") ?_ | refine truth_bool ?_ | refine tst_cmp (by kernel_rfl) ?_ | refine ev_cmp (by kernel_rfl) ?_ | refine tst_not ?_ | fail "none") | ((with_reducible show EvL _ _ _ _ (_ :: _) _); refine evl_cons ?_) | ((with_reducible show Ev _ _ _ (.Call (.Attribute _ _ _) _ [] _) _); refine ev_meth ?_) | fail "none")))
  refine ⟨Nat.le_of_ble_eq_true rfl, fun c0 => evl_nil ⟨Nat.le_of_ble_eq_true rfl, fun cl => ⟨_, _, by ((refine StoreTo.loc (by kernel_rfl) (by (repeat (first | with_reducible exact SetL.here | with_reducible exact SetL.new | (with_reducible apply SetL.there; (focus (dsimp only; decide)))))))), ?_⟩⟩⟩
  refine exs_cons (ex_forI rfl (fun _ => rfl) (it_str ?_))
  walk_at "name"
  refine ⟨_, rfl, ?_⟩
  refine ⟨fun k loc o => ∃ zs : ChL, chP zs = (x.cps.toList.take k).foldl addW [nilP] ∧ ([("chunks", .raw (.ref cl))] : Loc).Sublist loc ∧ Sp ((cl, .list (chR zs)) :: (chO zs ++ own)) o, ⟨[(c0, nilP)], rfl, by (repeat (first | with_reducible exact List.Sublist.refl _ | with_reducible apply List.Sublist.cons_cons | with_reducible apply List.Sublist.cons | exact List.nil_sublist _)), .refl⟩, fun _ _ _ _ => trivial, ?_, ?_⟩
  · rintro k dv loc o hd ⟨zs, hz, sl, so⟩
    obtain ⟨c, hc, rfl⟩ := signsD_get hd
    have hk : k < x.length := (Array.getElem?_eq_some_iff.mp hc).1
    obtain ⟨b1, b2, b3⟩ := foldW_ok x.cps.toList k (by rw [← len_list]; omega)
    have hnx : (x.cps.toList.take (k + 1)).foldl addW [nilP] = addW (chP zs) c := by
      rw [List.take_add_one, Array.getElem?_toList, hc, List.foldl_append, ← hz]; rfl
    rw [← hz] at b1 b2 b3
    clear hz hd hc
    obtain ⟨zi, z, rfl⟩ : ∃ zi z, zs = zi ++ [z] := ⟨_, _, (List.dropLast_concat_getLast (l := zs) fun z => b2 (by rw [z]; rfl)).symm⟩
    obtain ⟨e, q1, q2⟩ := z
    have bz := b1 (q1, q2) (by rw [chP_snoc]; simp)
    have bz1 : q1.length ≤ k := bz.1
    have bz2 : q2.length ≤ k := bz.2
    have bl : List.length zi ≤ 181 := by
      rw [chP_snoc, List.length_append, List.length_map] at b3
      omega
    rw [chP_snoc] at hnx
    intro _
    refine as_sp sl (so.perm last_perm) (as_name (by kernel_rfl) (by (repeat (first | with_reducible exact SetL.here | with_reducible exact SetL.new | (with_reducible apply SetL.there; (focus (dsimp only; decide)))))) ?_)
    refine exs_cons (ex_if (tst_cmp (by kernel_rfl) ?_))
    walk_at "name"
    (first | (with_reducible first | refine ev_bin ?_ | refine ev_int ?_ | refine ev_str ?_ | refine ev_bool ?_ | refine ev_none ?_ | walk_at "name" | walk_at "fn" | refine ev_sub ?_ | refine ev_slice ?_ | refine evo_none ?_ | refine evo_some ?_ | refine ev_tuple ?_ | refine ev_list ?_ | refine evl_nil ?_ | refine op_add ?_ | refine op_sub ?_ | refine op_lt ?_ | refine op_gt ?_ | refine op_le ?_ | refine op_eq ?_ | refine op_ne ?_ | refine op_eq_str ?_ | refine op_ne_str ?_ | refine op_max ?_ | refine op_min ?_ | refine op_abs ?_ | refine op_mod (by first | decide | walk_at "om") ?_ | refine op_div (by first | decide | walk_at "om") (by first | decide | walk_at "om") ?_ | refine op_len_str (by first | decide | walk_at "om") ?_ | refine op_cat (by first | decide | walk_at "om") ?_ | refine truth_bool ?_ | refine tst_cmp (by kernel_rfl) ?_ | refine ev_cmp (by kernel_rfl) ?_ | refine tst_not ?_ | fail "none") | ((with_reducible show EvL _ _ _ _ (_ :: _) _); refine evl_cons ?_) | ((with_reducible show Ev _ _ _ (.Call (.Attribute _ _ _) _ [] _) _); refine ev_meth ?_) | fail "none")
    refine op_in_ws (truth_bool ?_)
    cases hw : wsb c with
    | false =>
      rw [addW_n hw] at hnx
      rw [if_neg (by decide)]
      refine exs_cons (ex_aug_item (ev_sub ?_) (by intros; rfl))
      walk_at "name"
      refine ev_neg ?_
      (repeat' ((first | (with_reducible first | refine ev_bin ?_ | refine ev_int ?_ | refine ev_str ?_ | refine ev_bool ?_ | refine ev_none ?_ | walk_at "name" | walk_at "fn" | refine ev_sub ?_ | refine ev_slice ?_ | refine evo_none ?_ | refine evo_some ?_ | refine ev_tuple ?_ | refine ev_list ?_ | refine evl_nil ?_ | refine op_add ?_ | refine op_sub ?_ | refine op_lt ?_ | refine op_gt ?_ | refine op_le ?_ | refine op_eq ?_ | refine op_ne ?_ | refine op_eq_str ?_ | refine op_ne_str ?_ | refine op_max ?_ | refine op_min ?_ | refine op_abs ?_ | refine op_mod (by first | decide | walk_at "om") ?_ | refine op_div (by first | decide | walk_at "om") (by first | decide | walk_at "om") ?_ | refine op_len_str (by first | decide | walk_at "om") ?_ | refine op_cat (by first | decide | walk_at "om") ?_ | refine truth_bool ?_ | refine tst_cmp (by kernel_rfl) ?_ | refine ev_cmp (by kernel_rfl) ?_ | refine tst_not ?_ | fail "none") | ((with_reducible show EvL _ _ _ _ (_ :: _) _); refine evl_cons ?_) | ((with_reducible show Ev _ _ _ (.Call (.Attribute _ _ _) _ [] _) _); refine ev_meth ?_) | fail "none")))
      refine ⟨_, rfl, sub_chLast .here (by kernel_rfl) (by omega) ?_⟩
      (repeat' ((first | (with_reducible first | refine ev_bin ?_ | refine ev_int ?_ | refine ev_str ?_ | refine ev_bool ?_ | refine ev_none ?_ | walk_at "name" | walk_at "fn" | refine ev_sub ?_ | refine ev_slice ?_ | refine evo_none ?_ | refine evo_some ?_ | refine ev_tuple ?_ | refine ev_list ?_ | refine evl_nil ?_ | refine op_add ?_ | refine op_sub ?_ | refine op_lt ?_ | refine op_gt ?_ | refine op_le ?_ | refine op_eq ?_ | refine op_ne ?_ | refine op_eq_str ?_ | refine op_ne_str ?_ | refine op_max ?_ | refine op_min ?_ | refine op_abs ?_ | refine op_mod (by first | decide | walk_at "om") ?_ | refine op_div (by first | decide | walk_at "om") (by first | decide | walk_at "om") ?_ | refine op_len_str (by first | decide | walk_at "om") ?_ | refine op_cat (by first | decide | walk_at "om") ?_ | refine truth_bool ?_ | refine tst_cmp (by kernel_rfl) ?_ | refine ev_cmp (by kernel_rfl) ?_ | refine tst_not ?_ | fail "none") | ((with_reducible show EvL _ _ _ _ (_ :: _) _); refine evl_cons ?_) | ((with_reducible show Ev _ _ _ (.Call (.Attribute _ _ _) _ [] _) _); refine ev_meth ?_) | fail "none")))
      refine ⟨e, [q1, q2], q2, 1, rfl, rfl, .there .here, Nat.le_of_ble_eq_true rfl, rfl, ?_⟩
      walk_at "name"
      refine ⟨_, _, rfl, by show q2.length + 1 ≤ 1000000; omega, .there .here, ?_⟩
      exact exs_nil (exs_nil ⟨zi ++ [(e, q1, q2 ++ S [c])], by rw [hnx, chP_snoc], by (repeat (first | with_reducible exact List.Sublist.refl _ | with_reducible apply List.Sublist.cons_cons | with_reducible apply List.Sublist.cons | exact List.nil_sublist _)), sp_set⟩)
    | true =>
      rw [if_pos rfl]
      refine exs_cons (ex_if (tst_cmp (by kernel_rfl) (ev_sub (ev_sub ?_))))
      walk_at "name"
      refine ev_neg ?_
      (repeat' ((first | (with_reducible first | refine ev_bin ?_ | refine ev_int ?_ | refine ev_str ?_ | refine ev_bool ?_ | refine ev_none ?_ | walk_at "name" | walk_at "fn" | refine ev_sub ?_ | refine ev_slice ?_ | refine evo_none ?_ | refine evo_some ?_ | refine ev_tuple ?_ | refine ev_list ?_ | refine evl_nil ?_ | refine op_add ?_ | refine op_sub ?_ | refine op_lt ?_ | refine op_gt ?_ | refine op_le ?_ | refine op_eq ?_ | refine op_ne ?_ | refine op_eq_str ?_ | refine op_ne_str ?_ | refine op_max ?_ | refine op_min ?_ | refine op_abs ?_ | refine op_mod (by first | decide | walk_at "om") ?_ | refine op_div (by first | decide | walk_at "om") (by first | decide | walk_at "om") ?_ | refine op_len_str (by first | decide | walk_at "om") ?_ | refine op_cat (by first | decide | walk_at "om") ?_ | refine truth_bool ?_ | refine tst_cmp (by kernel_rfl) ?_ | refine ev_cmp (by kernel_rfl) ?_ | refine tst_not ?_ | fail "none") | ((with_reducible show EvL _ _ _ _ (_ :: _) _); refine evl_cons ?_) | ((with_reducible show Ev _ _ _ (.Call (.Attribute _ _ _) _ [] _) _); refine ev_meth ?_) | fail "none")))
      refine ⟨_, rfl, sub_chLast .here (by kernel_rfl) (by omega) ?_⟩
      (repeat' ((first | (with_reducible first | refine ev_bin ?_ | refine ev_int ?_ | refine ev_str ?_ | refine ev_bool ?_ | refine ev_none ?_ | walk_at "name" | walk_at "fn" | refine ev_sub ?_ | refine ev_slice ?_ | refine evo_none ?_ | refine evo_some ?_ | refine ev_tuple ?_ | refine ev_list ?_ | refine evl_nil ?_ | refine op_add ?_ | refine op_sub ?_ | refine op_lt ?_ | refine op_gt ?_ | refine op_le ?_ | refine op_eq ?_ | refine op_ne ?_ | refine op_eq_str ?_ | refine op_ne_str ?_ | refine op_max ?_ | refine op_min ?_ | refine op_abs ?_ | refine op_mod (by first | decide | walk_at "om") ?_ | refine op_div (by first | decide | walk_at "om") (by first | decide | walk_at "om") ?_ | refine op_len_str (by first | decide | walk_at "om") ?_ | refine op_cat (by first | decide | walk_at "om") ?_ | refine truth_bool ?_ | refine tst_cmp (by kernel_rfl) ?_ | refine ev_cmp (by kernel_rfl) ?_ | refine tst_not ?_ | fail "none") | ((with_reducible show EvL _ _ _ _ (_ :: _) _); refine evl_cons ?_) | ((with_reducible show Ev _ _ _ (.Call (.Attribute _ _ _) _ [] _) _); refine ev_meth ?_) | fail "none")))
      refine sub_list (ds := [.str q1, .str q2]) (d := .str q2) (.there .here) (by kernel_rfl) (by decide) rfl (Nat.le_of_ble_eq_true rfl) ?_
      (repeat' ((first | (with_reducible first | refine ev_bin ?_ | refine ev_int ?_ | refine ev_str ?_ | refine ev_bool ?_ | refine ev_none ?_ | walk_at "name" | walk_at "fn" | refine ev_sub ?_ | refine ev_slice ?_ | refine evo_none ?_ | refine evo_some ?_ | refine ev_tuple ?_ | refine ev_list ?_ | refine evl_nil ?_ | refine op_add ?_ | refine op_sub ?_ | refine op_lt ?_ | refine op_gt ?_ | refine op_le ?_ | refine op_eq ?_ | refine op_ne ?_ | refine op_eq_str ?_ | refine op_ne_str ?_ | refine op_max ?_ | refine op_min ?_ | refine op_abs ?_ | refine op_mod (by first | decide | walk_at "om") ?_ | refine op_div (by first | decide | walk_at "om") (by first | decide | walk_at "om") ?_ | refine op_len_str (by first | decide | walk_at "om") ?_ | refine op_cat (by first | decide | walk_at "om") ?_ | refine truth_bool ?_ | refine tst_cmp (by kernel_rfl) ?_ | refine ev_cmp (by kernel_rfl) ?_ | refine tst_not ?_ | fail "none") | ((with_reducible show EvL _ _ _ _ (_ :: _) _); refine evl_cons ?_) | ((with_reducible show Ev _ _ _ (.Call (.Attribute _ _ _) _ [] _) _); refine ev_meth ?_) | fail "none")))
      by_cases h2 : q2.length = 0
      · rw [addW_w0 hw h2] at hnx
        have h2e := len0_e h2
        rw [if_neg (by rw [h2e]; decide)]
        refine exs_nil (exs_cons (ex_aug_item (ev_sub ?_) (by intros; rfl)))
        walk_at "name"
        refine ev_neg ?_
        (repeat' ((first | (with_reducible first | refine ev_bin ?_ | refine ev_int ?_ | refine ev_str ?_ | refine ev_bool ?_ | refine ev_none ?_ | walk_at "name" | walk_at "fn" | refine ev_sub ?_ | refine ev_slice ?_ | refine evo_none ?_ | refine evo_some ?_ | refine ev_tuple ?_ | refine ev_list ?_ | refine evl_nil ?_ | refine op_add ?_ | refine op_sub ?_ | refine op_lt ?_ | refine op_gt ?_ | refine op_le ?_ | refine op_eq ?_ | refine op_ne ?_ | refine op_eq_str ?_ | refine op_ne_str ?_ | refine op_max ?_ | refine op_min ?_ | refine op_abs ?_ | refine op_mod (by first | decide | walk_at "om") ?_ | refine op_div (by first | decide | walk_at "om") (by first | decide | walk_at "om") ?_ | refine op_len_str (by first | decide | walk_at "om") ?_ | refine op_cat (by first | decide | walk_at "om") ?_ | refine truth_bool ?_ | refine tst_cmp (by kernel_rfl) ?_ | refine ev_cmp (by kernel_rfl) ?_ | refine tst_not ?_ | fail "none") | ((with_reducible show EvL _ _ _ _ (_ :: _) _); refine evl_cons ?_) | ((with_reducible show Ev _ _ _ (.Call (.Attribute _ _ _) _ [] _) _); refine ev_meth ?_) | fail "none")))
        refine ⟨_, rfl, sub_chLast .here (by kernel_rfl) (by omega) ?_⟩
        (repeat' ((first | (with_reducible first | refine ev_bin ?_ | refine ev_int ?_ | refine ev_str ?_ | refine ev_bool ?_ | refine ev_none ?_ | walk_at "name" | walk_at "fn" | refine ev_sub ?_ | refine ev_slice ?_ | refine evo_none ?_ | refine evo_some ?_ | refine ev_tuple ?_ | refine ev_list ?_ | refine evl_nil ?_ | refine op_add ?_ | refine op_sub ?_ | refine op_lt ?_ | refine op_gt ?_ | refine op_le ?_ | refine op_eq ?_ | refine op_ne ?_ | refine op_eq_str ?_ | refine op_ne_str ?_ | refine op_max ?_ | refine op_min ?_ | refine op_abs ?_ | refine op_mod (by first | decide | walk_at "om") ?_ | refine op_div (by first | decide | walk_at "om") (by first | decide | walk_at "om") ?_ | refine op_len_str (by first | decide | walk_at "om") ?_ | refine op_cat (by first | decide | walk_at "om") ?_ | refine truth_bool ?_ | refine tst_cmp (by kernel_rfl) ?_ | refine ev_cmp (by kernel_rfl) ?_ | refine tst_not ?_ | fail "none") | ((with_reducible show EvL _ _ _ _ (_ :: _) _); refine evl_cons ?_) | ((with_reducible show Ev _ _ _ (.Call (.Attribute _ _ _) _ [] _) _); refine ev_meth ?_) | fail "none")))
        refine ⟨e, [q1, q2], q1, 0, rfl, rfl, .there .here, Nat.le_of_ble_eq_true rfl, rfl, ?_⟩
        walk_at "name"
        refine ⟨_, _, rfl, by show q1.length + 1 ≤ 1000000; omega, .there .here, ?_⟩
        exact exs_nil (exs_nil ⟨zi ++ [(e, q1 ++ S [c], q2)], by rw [hnx, chP_snoc], by (repeat (first | with_reducible exact List.Sublist.refl _ | with_reducible apply List.Sublist.cons_cons | with_reducible apply List.Sublist.cons | exact List.nil_sublist _)), sp_set⟩)
      · rw [addW_w1 hw h2] at hnx
        rw [if_pos (by simp; intro z; rw [z] at h2; exact h2 rfl)]
        ((refine exs_cons ?_; first | (refine ex_assignS ?hs ?_; (case hs => exact swaps_plain (by rfl))) | refine ex_expr (by kernel_rfl) (by rfl) ?_ | refine ex_if ?_ | refine ex_return ?_ | fail "none"))
        (repeat' ((first | (with_reducible first | refine ev_bin ?_ | refine ev_int ?_ | refine ev_str ?_ | refine ev_bool ?_ | refine ev_none ?_ | walk_at "name" | walk_at "fn" | refine ev_sub ?_ | refine ev_slice ?_ | refine evo_none ?_ | refine evo_some ?_ | refine ev_tuple ?_ | refine ev_list ?_ | refine evl_nil ?_ | refine op_add ?_ | refine op_sub ?_ | refine op_lt ?_ | refine op_gt ?_ | refine op_le ?_ | refine op_eq ?_ | refine op_ne ?_ | refine op_eq_str ?_ | refine op_ne_str ?_ | refine op_max ?_ | refine op_min ?_ | refine op_abs ?_ | refine op_mod (by first | decide | walk_at "om") ?_ | refine op_div (by first | decide | walk_at "om") (by first | decide | walk_at "om") ?_ | refine op_len_str (by first | decide | walk_at "om") ?_ | refine op_cat (by first | decide | walk_at "om") ?_ | refine truth_bool ?_ | refine tst_cmp (by kernel_rfl) ?_ | refine ev_cmp (by kernel_rfl) ?_ | refine tst_not ?_ | fail "none") | ((with_reducible show EvL _ _ _ _ (_ :: _) _); refine evl_cons ?_) | ((with_reducible show Ev _ _ _ (.Call (.Attribute _ _ _) _ [] _) _); refine ev_meth ?_) | fail "none")))
        refine meth_list (ds := chR (zi ++ [(e, q1, q2)])) .here lk_append ty_append (by kernel_rfl) (evl_cons (ev_list ?_))
        (repeat' ((first | (with_reducible first | refine ev_bin ?_ | refine ev_int ?_ | refine ev_str ?_ | refine ev_bool ?_ | refine ev_none ?_ | walk_at "name" | walk_at "fn" | refine ev_sub ?_ | refine ev_slice ?_ | refine evo_none ?_ | refine evo_some ?_ | refine ev_tuple ?_ | refine ev_list ?_ | refine evl_nil ?_ | refine op_add ?_ | refine op_sub ?_ | refine op_lt ?_ | refine op_gt ?_ | refine op_le ?_ | refine op_eq ?_ | refine op_ne ?_ | refine op_eq_str ?_ | refine op_ne_str ?_ | refine op_max ?_ | refine op_min ?_ | refine op_abs ?_ | refine op_mod (by first | decide | walk_at "om") ?_ | refine op_div (by first | decide | walk_at "om") (by first | decide | walk_at "om") ?_ | refine op_len_str (by first | decide | walk_at "om") ?_ | refine op_cat (by first | decide | walk_at "om") ?_ | refine truth_bool ?_ | refine tst_cmp (by kernel_rfl) ?_ | refine ev_cmp (by kernel_rfl) ?_ | refine tst_not ?_ | fail "none") | ((with_reducible show EvL _ _ _ _ (_ :: _) _); refine evl_cons ?_) | ((with_reducible show Ev _ _ _ (.Call (.Attribute _ _ _) _ [] _) _); refine ev_meth ?_) | fail "none")))
        refine ⟨Nat.le_of_ble_eq_true rfl, fun e2 => evl_nil ?_⟩
        refine op_append (ds := chR (zi ++ [(e, q1, q2)])) (mk := .list) (own' := chA (e2, nilP) :: (cl, .list (chR ((zi ++ [(e, q1, q2)]) ++ [(e2, nilP)]))) :: chA (e, q1, q2) :: (chO zi ++ own)) ?_ .list (by rw [chR_len, List.length_append]; show _ + 1 ≤ _; omega) ?_
        · rw [chR_snoc (zi ++ [(e, q1, q2)])]
          exact .there .here
        refine exs_nil (exs_cons (ex_aug_item (ev_sub ?_) (by intros; rfl)))
        walk_at "name"
        refine ev_neg ?_
        (repeat' ((first | (with_reducible first | refine ev_bin ?_ | refine ev_int ?_ | refine ev_str ?_ | refine ev_bool ?_ | refine ev_none ?_ | walk_at "name" | walk_at "fn" | refine ev_sub ?_ | refine ev_slice ?_ | refine evo_none ?_ | refine evo_some ?_ | refine ev_tuple ?_ | refine ev_list ?_ | refine evl_nil ?_ | refine op_add ?_ | refine op_sub ?_ | refine op_lt ?_ | refine op_gt ?_ | refine op_le ?_ | refine op_eq ?_ | refine op_ne ?_ | refine op_eq_str ?_ | refine op_ne_str ?_ | refine op_max ?_ | refine op_min ?_ | refine op_abs ?_ | refine op_mod (by first | decide | walk_at "om") ?_ | refine op_div (by first | decide | walk_at "om") (by first | decide | walk_at "om") ?_ | refine op_len_str (by first | decide | walk_at "om") ?_ | refine op_cat (by first | decide | walk_at "om") ?_ | refine truth_bool ?_ | refine tst_cmp (by kernel_rfl) ?_ | refine ev_cmp (by kernel_rfl) ?_ | refine tst_not ?_ | fail "none") | ((with_reducible show EvL _ _ _ _ (_ :: _) _); refine evl_cons ?_) | ((with_reducible show Ev _ _ _ (.Call (.Attribute _ _ _) _ [] _) _); refine ev_meth ?_) | fail "none")))
        refine ⟨_, rfl, sub_chLast (.there .here) (by kernel_rfl) (by rw [List.length_append]; show _ + 1 ≤ _; omega) ?_⟩
        (repeat' ((first | (with_reducible first | refine ev_bin ?_ | refine ev_int ?_ | refine ev_str ?_ | refine ev_bool ?_ | refine ev_none ?_ | walk_at "name" | walk_at "fn" | refine ev_sub ?_ | refine ev_slice ?_ | refine evo_none ?_ | refine evo_some ?_ | refine ev_tuple ?_ | refine ev_list ?_ | refine evl_nil ?_ | refine op_add ?_ | refine op_sub ?_ | refine op_lt ?_ | refine op_gt ?_ | refine op_le ?_ | refine op_eq ?_ | refine op_ne ?_ | refine op_eq_str ?_ | refine op_ne_str ?_ | refine op_max ?_ | refine op_min ?_ | refine op_abs ?_ | refine op_mod (by first | decide | walk_at "om") ?_ | refine op_div (by first | decide | walk_at "om") (by first | decide | walk_at "om") ?_ | refine op_len_str (by first | decide | walk_at "om") ?_ | refine op_cat (by first | decide | walk_at "om") ?_ | refine truth_bool ?_ | refine tst_cmp (by kernel_rfl) ?_ | refine ev_cmp (by kernel_rfl) ?_ | refine tst_not ?_ | fail "none") | ((with_reducible show EvL _ _ _ _ (_ :: _) _); refine evl_cons ?_) | ((with_reducible show Ev _ _ _ (.Call (.Attribute _ _ _) _ [] _) _); refine ev_meth ?_) | fail "none")))
        refine ⟨e2, ["", ""], "", 0, rfl, rfl, .here, Nat.le_of_ble_eq_true rfl, rfl, ?_⟩
        walk_at "name"
        refine ⟨_, _, rfl, Nat.le_of_ble_eq_true rfl, .here, ?_⟩
        refine exs_nil (exs_nil ⟨(zi ++ [(e, q1, q2)]) ++ [(e2, S [c], ("" : Str))], by rw [hnx, chP_snoc, chP_snoc], by (repeat (first | with_reducible exact List.Sublist.refl _ | with_reducible apply List.Sublist.cons_cons | with_reducible apply List.Sublist.cons | exact List.nil_sublist _)), ?_⟩)
        rw [chR_snoc _ (e2, S [c], ("" : Str)), chR_snoc _ (e2, nilP), show (("" : Str) ++ (⟨#[c]⟩ : Str)) = S [c] from empty_append _]
        refine .of_perm ?_
        refine (last_perm.symm).trans (.trans ?_ (.swap _ _ _))
        exact ((last_perm (p := (e2, AObj.list [.str (S [c]), .str ""])).symm).cons _)
  · rintro loc o ⟨zs, hz, sl, so⟩
    rw [signsD_len, List.take_of_length_le (by simp)] at hz
    obtain ⟨_, _, b3⟩ := foldW_ok x.cps.toList x.length (by rw [← len_list]; exact Nat.le_refl _)
    rw [List.take_of_length_le (by rw [← len_list]; exact Nat.le_refl _), ← hz, List.length_map] at b3
    refine exs_nil (exs_sp sl so (exs_cons (ex_return (ev_comp [] rfl ⟨rfl, rfl, by decide, by decide, fun _ => rfl⟩ (it_list ?_)))))
    walk_at "name"
    refine ⟨cl, chR zs, rfl, .here, ?_⟩
    refine comp_pure (xs := zs) (enc := fun z => .raw (.ref z.1)) (fun z => if z.2 = nilP then none else some (.raw (.ref z.1))) .here (by omega) (fun C ac z res hz => ?_) ?_
    · refine as_name (by kernel_rfl) .new ?_
      show Tst _ _ _ _ _
      refine tst_cmp (by kernel_rfl) ?_
      walk_at "name"
      refine ev_list ?_
      (repeat' ((first | (with_reducible first | refine ev_bin ?_ | refine ev_int ?_ | refine ev_str ?_ | refine ev_bool ?_ | refine ev_none ?_ | walk_at "name" | walk_at "fn" | refine ev_sub ?_ | refine ev_slice ?_ | refine evo_none ?_ | refine evo_some ?_ | refine ev_tuple ?_ | refine ev_list ?_ | refine evl_nil ?_ | refine op_add ?_ | refine op_sub ?_ | refine op_lt ?_ | refine op_gt ?_ | refine op_le ?_ | refine op_eq ?_ | refine op_ne ?_ | refine op_eq_str ?_ | refine op_ne_str ?_ | refine op_max ?_ | refine op_min ?_ | refine op_abs ?_ | refine op_mod (by first | decide | walk_at "om") ?_ | refine op_div (by first | decide | walk_at "om") (by first | decide | walk_at "om") ?_ | refine op_len_str (by first | decide | walk_at "om") ?_ | refine op_cat (by first | decide | walk_at "om") ?_ | refine truth_bool ?_ | refine tst_cmp (by kernel_rfl) ?_ | refine ev_cmp (by kernel_rfl) ?_ | refine tst_not ?_ | fail "none") | ((with_reducible show EvL _ _ _ _ (_ :: _) _); refine evl_cons ?_) | ((with_reducible show Ev _ _ _ (.Call (.Attribute _ _ _) _ [] _) _); refine ev_meth ?_) | fail "none")))
      refine ⟨Nat.le_of_ble_eq_true rfl, fun g => ?_⟩
      refine op_ne_list cmpStr (xs := [z.2.1, z.2.2]) (ys := ["", ""]) (.of_mem (.tail _ (.tail _ (.tail _ (List.mem_append_left _ (chO_has hz)))))) .here (by show 9000 + 3 + 1 < cLine; decide) (truth_bool ?_)
      by_cases hn : z.2 = nilP
      · rw [if_neg (by rw [hn]; decide)]
        exact ⟨by rw [if_pos hn], .cons _ (List.Sublist.refl _)⟩
      · rw [if_pos (by
          have hd : ¬([z.2.1, z.2.2] = (["", ""] : List Str)) := fun e => by
            injection e with e1 e
            injection e with e2 e
            exact hn (Prod.ext e1 e2)
          rw [decide_eq_false hd]; rfl)]
        walk_at "name"
        exact ⟨by rw [if_neg hn], .cons _ (List.Sublist.refl _)⟩
    · intro a
      have hf : zs.filterMap (fun z => if z.2 = nilP then none else some (Dv.raw (.ref z.1))) = chR (zs.filter fun z => decide (z.2 ≠ nilP)) := by
        clear hz so b3
        induction zs with
        | nil => rfl
        | cons z zs ih =>
          rw [List.filterMap_cons, List.filter_cons]
          by_cases hn : z.2 = nilP
          · rw [if_pos hn, if_neg (by simpa using hn)]; exact ih
          · rw [if_neg hn, if_pos (by simpa using hn)]
            show _ :: _ = _ :: _
            rw [ih]
      rw [hf]
      refine ⟨_, ?_, q a (zs.filter fun z => decide (z.2 ≠ nilP)) ?_⟩
      · exact .of_sub (.cons_cons _ (.cons _ (List.Sublist.append (List.Sublist.map _ List.filter_sublist) (List.Sublist.refl _))))
      · rw [← words_read, ← hz]
        show List.map _ (List.filter _ zs) = List.filter _ (List.map _ zs)
        rw [List.filter_map]; rfl

open PySem PySem.W PySem.Builtin PySem.Builtin.ObjectAttr
open PyProof.Rows hiding wpAt wpAt_bind
set_option linter.unusedSectionVars false
set_option maxRecDepth 100000
set_option maxHeartbeats 1000000
set_option linter.unusedVariables false
variable {P : PySem.Params} {w : World} {L fa : Addr} {cdv : Value}
theorem k214 : (fnOf (K11 P) 214).scope.kind = .function := by kernel_rfl
noncomputable abbrev lf11 (w : World) (P : PySem.Params) (L fa : Addr) (cdv : Value) : Fm := lawFm pr11 w (K11 P) "law" (fnOf (K11 P) 214).scope L fa cdv k214
noncomputable abbrev g5 (f fd ln x d : Addr) (wd : Int) (cw sg : Str) (s : FS) (rest : Own) : Own := (f, .inst 116 fd) :: (fd, .idict (fa11 ln x wd cw sg)) :: (ln, .list (s.rows.map .str)) :: (x, .acc 200 d (s.ps.map dpair)) :: (d, .idict [("_initial_size", .int s.n)]) :: rest
theorem swap_mid {α : Type} (F T G R : List α) : (G ++ (T ++ (F ++ R))).Perm (F ++ (T ++ (G ++ R))) :=
  (List.perm_append_comm_assoc G T (F ++ R)).trans (((List.perm_append_comm_assoc G F R).append_left T).trans (List.perm_append_comm_assoc T F (G ++ R)))
theorem swap11 {f fd ln x d g gd gln gx gxd : Addr} {wd wd' : Int} {cw cw' sg sg' : Str} {s s' : FS} {R : Own} : Sp (fo11 g gd gln gx gxd wd' cw' sg' s' (g5 f fd ln x d wd cw sg s R)) (fo11 f fd ln x d wd cw sg s (g5 g gd gln gx gxd wd' cw' sg' s' R)) :=
  .of_perm (swap_mid [_, _, _, _, _] [_, _] [_, _, _, _, _] R)
inductive EndP11 (sc0 : Addr) (o0 : Obj) (ns : List Int) (fl : Fl) (loc : Loc) (own : Own) : Prop
  | mk : fl = .ret (.bool true) → (∀ p ∈ [((166 : Addr), (162 : Addr)), (173, 169)], (p.2, AObj.tab) ∈ own) → (sc0, AObj.fix o0 (ns.map .int)) ∈ own → EndP11 sc0 o0 ns fl loc own
theorem last11 {f fd ln x d g gd gln gx gxd cl sc0 : Addr} {wd head : Int} {sg : Str} {s : FS} {k : Nat} {W : List (Str × Str)} {o0 : Obj} {ns : List Int} {R : Own} (ok : OkK k s) (hk : k ≤ 92) (hcat : cat s.nl.rows = preW wd head W ++ txt (trimP W)) (hh : ∀ r ∈ s.nl.rows.tail, HeadW r) (hs : (sc0, AObj.fix o0 (ns.map .int)) ∈ R) :
    Exs (lf11 w P L fa cdv) [("whole", .raw (.ref f)), ("single", .raw (.ref g)), ("due", .str (dueW wd head W (txt W)))] (fo11 f fd ln x d wd " " sg s (g5 g gd gln gx gxd wd "\t" sg s R)) ((bodyOf (fnOf (K11 P) 214)).drop 21) (EndP11 sc0 o0 ns) := by
  obtain ⟨cdF, IF⟩ := insK11 (P := P)
  have e1 : (lf11 w P L fa cdv).A.depth ≤ 400 := by show callerA.depth + 1 ≤ 400; decide
  have e2 : (lf11 w P L fa cdv).A.units ≤ 10 := by show callerA.units + 3 ≤ 10; decide
  have okF := ok.ok (by omega)
  have okF2 := ok.nl.ok (by omega)
  have hnn := nl_nl s
  have hjoin : ∀ sep : Str, sep.length ≤ 10 → (s.nl.rows.map (·.length)).sum + s.nl.rows.length * sep.length ≤ 16777216 := fun sep hs => by
    rw [← cat_len]
    have h1 := okF2.sz
    have h2 := okF2.rl
    have hm : s.nl.rows.length * sep.length ≤ 1000 * 10 := Nat.mul_le_mul h2 hs
    omega
  have hrl := okF2.rl
  have hrow : ∀ r ∈ s.nl.rows, r.length ≤ 1000000 := fun r hr => by have := cat_mem hr; have := okF2.sz; omega
  -- told
  ((refine exs_cons ?_; first | (refine ex_assignS ?hs ?_; (case hs => exact swaps_plain (by rfl))) | refine ex_expr (by kernel_rfl) (by rfl) ?_ | refine ex_if ?_ | refine ex_return ?_ | fail "none"))
  refine ev_meth ?_
  walk_at "name"
  refine meth_fnI (f := 64) IF (by walk_at "has") (by walk_at "has") (by kernel_rfl) (by kernel_rfl) (by kernel_rfl) (by kernel_rfl) (by kernel_rfl) ?_
  (repeat' ((first | (with_reducible first | refine ev_bin ?_ | refine ev_int ?_ | refine ev_str ?_ | refine ev_bool ?_ | refine ev_none ?_ | walk_at "name" | walk_at "fn" | refine ev_sub ?_ | refine ev_slice ?_ | refine evo_none ?_ | refine evo_some ?_ | refine ev_tuple ?_ | refine ev_list ?_ | refine evl_nil ?_ | refine op_add ?_ | refine op_sub ?_ | refine op_lt ?_ | refine op_gt ?_ | refine op_le ?_ | refine op_eq ?_ | refine op_ne ?_ | refine op_eq_str ?_ | refine op_ne_str ?_ | refine op_max ?_ | refine op_min ?_ | refine op_abs ?_ | refine op_mod (by first | decide | walk_at "om") ?_ | refine op_div (by first | decide | walk_at "om") (by first | decide | walk_at "om") ?_ | refine op_len_str (by first | decide | walk_at "om") ?_ | refine op_cat (by first | decide | walk_at "om") ?_ | refine truth_bool ?_ | refine tst_cmp (by kernel_rfl) ?_ | refine ev_cmp (by kernel_rfl) ?_ | refine tst_not ?_ | fail "none") | ((with_reducible show EvL _ _ _ _ (_ :: _) _); refine evl_cons ?_) | ((with_reducible show Ev _ _ _ (.Call (.Attribute _ _ _) _ [] _) _); refine ev_meth ?_) | fail "none")))
  refine opN_callT (strF11 rfl (by omega) (by omega) okF (by decide +kernel) ?_)
  refine ⟨_, _, by ((refine StoreTo.loc (by kernel_rfl) (by (repeat (first | with_reducible exact SetL.here | with_reducible exact SetL.new | (with_reducible apply SetL.there; (focus (dsimp only; decide)))))))), ?_⟩
  -- the rows' first signs
  refine exs_cons (ex_forI rfl (fun _ => rfl) (it_list (ev_sub ?_)))
  ((refine ev_attrI rfl ?_; walk_at "name"; refine ⟨_, _, _, _, _, _, rfl, by assumption, by walk_at "has", by walk_at "has", by kernel_rfl, rfl, rfl, ?_⟩))
  refine ev_slice (evo_some ?_)
  (repeat' ((first | (with_reducible first | refine ev_bin ?_ | refine ev_int ?_ | refine ev_str ?_ | refine ev_bool ?_ | refine ev_none ?_ | walk_at "name" | walk_at "fn" | refine ev_sub ?_ | refine ev_slice ?_ | refine evo_none ?_ | refine evo_some ?_ | refine ev_tuple ?_ | refine ev_list ?_ | refine evl_nil ?_ | refine op_add ?_ | refine op_sub ?_ | refine op_lt ?_ | refine op_gt ?_ | refine op_le ?_ | refine op_eq ?_ | refine op_ne ?_ | refine op_eq_str ?_ | refine op_ne_str ?_ | refine op_max ?_ | refine op_min ?_ | refine op_abs ?_ | refine op_mod (by first | decide | walk_at "om") ?_ | refine op_div (by first | decide | walk_at "om") (by first | decide | walk_at "om") ?_ | refine op_len_str (by first | decide | walk_at "om") ?_ | refine op_cat (by first | decide | walk_at "om") ?_ | refine truth_bool ?_ | refine tst_cmp (by kernel_rfl) ?_ | refine ev_cmp (by kernel_rfl) ?_ | refine tst_not ?_ | fail "none") | ((with_reducible show EvL _ _ _ _ (_ :: _) _); refine evl_cons ?_) | ((with_reducible show Ev _ _ _ (.Call (.Attribute _ _ _) _ [] _) _); refine ev_meth ?_) | fail "none")))
  intro a1
  refine sub_list_slice (ds := s.nl.rows.map .str) (by walk_at "has") .here (.int _) .none .none (by decide) (by simp; omega) fun l1 => ?_
  rw [show (1 : Int) = ((1 : Nat) : Int) from rfl, pickL_from, ← List.map_drop, List.drop_one]
  refine ⟨l1, _, rfl, .here, fun k loc own => ([("whole", .raw (.ref f)), ("single", .raw (.ref g)), ("due", .str (dueW wd head W (txt W))), ("told", .str (Str.join "\n" s.nl.rows))] : Loc).Sublist loc ∧ Sp ((l1, .list (s.nl.rows.tail.map .str)) :: fo11 f fd ln x d wd " " sg s.nl (g5 g gd gln gx gxd wd "\t" sg s R)) own, ⟨by (repeat (first | with_reducible exact List.Sublist.refl _ | with_reducible apply List.Sublist.cons_cons | with_reducible apply List.Sublist.cons | exact List.nil_sublist _)), .of_sub (.cons_cons _ (.cons _ (List.Sublist.refl _)))⟩, fun _ _ _ h => h.2.has .here, ?_, ?_⟩
  · rintro k dv loc own hd ⟨sl, so⟩
    rw [List.getElem?_map] at hd
    cases hr : s.nl.rows.tail[k]? with
    | none => rw [hr] at hd; cases hd
    | some r =>
      rw [hr] at hd; cases hd
      have hrt := List.mem_of_getElem? hr
      have hf := head_first (hh r hrt)
      have hrle := hrow r (List.mem_of_mem_tail hrt)
      intro _
      refine as_sp sl so (as_name (by kernel_rfl) (by (repeat (first | with_reducible exact SetL.here | with_reducible exact SetL.new | (with_reducible apply SetL.there; (focus (dsimp only; decide)))))) ?_)
      refine exs_cons (ex_if (tst_cmp (by kernel_rfl) (ev_sub ?_)))
      (repeat' ((first | (with_reducible first | refine ev_bin ?_ | refine ev_int ?_ | refine ev_str ?_ | refine ev_bool ?_ | refine ev_none ?_ | walk_at "name" | walk_at "fn" | refine ev_sub ?_ | refine ev_slice ?_ | refine evo_none ?_ | refine evo_some ?_ | refine ev_tuple ?_ | refine ev_list ?_ | refine evl_nil ?_ | refine op_add ?_ | refine op_sub ?_ | refine op_lt ?_ | refine op_gt ?_ | refine op_le ?_ | refine op_eq ?_ | refine op_ne ?_ | refine op_eq_str ?_ | refine op_ne_str ?_ | refine op_max ?_ | refine op_min ?_ | refine op_abs ?_ | refine op_mod (by first | decide | walk_at "om") ?_ | refine op_div (by first | decide | walk_at "om") (by first | decide | walk_at "om") ?_ | refine op_len_str (by first | decide | walk_at "om") ?_ | refine op_cat (by first | decide | walk_at "om") ?_ | refine truth_bool ?_ | refine tst_cmp (by kernel_rfl) ?_ | refine ev_cmp (by kernel_rfl) ?_ | refine tst_not ?_ | fail "none") | ((with_reducible show EvL _ _ _ _ (_ :: _) _); refine evl_cons ?_) | ((with_reducible show Ev _ _ _ (.Call (.Attribute _ _ _) _ [] _) _); refine ev_meth ?_) | fail "none")))
      intro a2
      refine sub_str_slice .here .none (.int _) hrle ?_
      refine ev_tuple ?_
      (repeat' (first | (first | (with_reducible first | refine ev_bin ?_ | refine ev_int ?_ | refine ev_str ?_ | refine ev_bool ?_ | refine ev_none ?_ | walk_at "name" | walk_at "fn" | refine ev_sub ?_ | refine ev_slice ?_ | refine evo_none ?_ | refine evo_some ?_ | refine ev_tuple ?_ | refine ev_list ?_ | refine evl_nil ?_ | refine op_add ?_ | refine op_sub ?_ | refine op_lt ?_ | refine op_gt ?_ | refine op_le ?_ | refine op_eq ?_ | refine op_ne ?_ | refine op_eq_str ?_ | refine op_ne_str ?_ | refine op_max ?_ | refine op_min ?_ | refine op_abs ?_ | refine op_mod (by first | decide | walk_at "om") ?_ | refine op_div (by first | decide | walk_at "om") (by first | decide | walk_at "om") ?_ | refine op_len_str (by first | decide | walk_at "om") ?_ | refine op_cat (by first | decide | walk_at "om") ?_ | refine truth_bool ?_ | refine tst_cmp (by kernel_rfl) ?_ | refine ev_cmp (by kernel_rfl) ?_ | refine tst_not ?_ | fail "none") | ((with_reducible show EvL _ _ _ _ (_ :: _) _); refine evl_cons ?_) | ((with_reducible show Ev _ _ _ (.Call (.Attribute _ _ _) _ [] _) _); refine ev_meth ?_) | fail "none") | ((with_reducible show List.length _ ≤ 1000 ∧ _); refine And.intro (Nat.le_of_ble_eq_true rfl) ?_) | fail "none"))
      refine op_notin_tup (ys := [" ", "\t"]) (by show 10 + 2 < cLine; decide) (truth_bool ?_)
      refine iteN (by rw [show ([" ", "\t"] : List Str).any (fun z => decide (z = Txt.slice r none (some ((1 : Nat) : Int)))) = true from hf]; decide) ?_
      exact exs_nil (exs_nil ⟨by (repeat (first | with_reducible exact List.Sublist.refl _ | with_reducible apply List.Sublist.cons_cons | with_reducible apply List.Sublist.cons | exact List.nil_sublist _)), .of_sub (.cons _ (List.Sublist.refl _))⟩)
  rintro loc own ⟨sl, so⟩
  refine exs_nil (exs_sp sl (so.sub (.cons _ (List.Sublist.refl _))) ?_)
  clear so sl own loc
  -- the texts
  refine exs_cons (ex_return (ev_and2 (ev_cmp (by kernel_rfl) (ev_meth ?_))))
  (repeat' ((first | (with_reducible first | refine ev_bin ?_ | refine ev_int ?_ | refine ev_str ?_ | refine ev_bool ?_ | refine ev_none ?_ | walk_at "name" | walk_at "fn" | refine ev_sub ?_ | refine ev_slice ?_ | refine evo_none ?_ | refine evo_some ?_ | refine ev_tuple ?_ | refine ev_list ?_ | refine evl_nil ?_ | refine op_add ?_ | refine op_sub ?_ | refine op_lt ?_ | refine op_gt ?_ | refine op_le ?_ | refine op_eq ?_ | refine op_ne ?_ | refine op_eq_str ?_ | refine op_ne_str ?_ | refine op_max ?_ | refine op_min ?_ | refine op_abs ?_ | refine op_mod (by first | decide | walk_at "om") ?_ | refine op_div (by first | decide | walk_at "om") (by first | decide | walk_at "om") ?_ | refine op_len_str (by first | decide | walk_at "om") ?_ | refine op_cat (by first | decide | walk_at "om") ?_ | refine truth_bool ?_ | refine tst_cmp (by kernel_rfl) ?_ | refine ev_cmp (by kernel_rfl) ?_ | refine tst_not ?_ | fail "none") | ((with_reducible show EvL _ _ _ _ (_ :: _) _); refine evl_cons ?_) | ((with_reducible show Ev _ _ _ (.Call (.Attribute _ _ _) _ [] _) _); refine ev_meth ?_) | fail "none")))
  refine meth_str (i := "str.join") (fun h => GM.join h) (by kernel_rfl) (evl_cons ?_)
  ((refine ev_attrI rfl ?_; walk_at "name"; refine ⟨_, _, _, _, _, _, rfl, by assumption, by walk_at "has", by walk_at "has", by kernel_rfl, rfl, rfl, ?_⟩))
  refine evl_nil (op_join_list (ys := s.nl.rows) (by walk_at "has") (hjoin _ (by decide +kernel)) ?_)
  walk_at "name"
  refine op_eq_str ⟨_, rfl, ?_⟩
  have hdue : Str.join (Str.ofString "") s.nl.rows = dueW wd head W (txt W) := by
    rw [due_is, ← hcat]
    exact join_cat _
  refine iteY (decide_eq_true hdue) ?_
  refine ev_cmp2 (by kernel_rfl) ?_
  walk_at "name"
  refine ev_meth ?_
  (repeat' ((first | (with_reducible first | refine ev_bin ?_ | refine ev_int ?_ | refine ev_str ?_ | refine ev_bool ?_ | refine ev_none ?_ | walk_at "name" | walk_at "fn" | refine ev_sub ?_ | refine ev_slice ?_ | refine evo_none ?_ | refine evo_some ?_ | refine ev_tuple ?_ | refine ev_list ?_ | refine evl_nil ?_ | refine op_add ?_ | refine op_sub ?_ | refine op_lt ?_ | refine op_gt ?_ | refine op_le ?_ | refine op_eq ?_ | refine op_ne ?_ | refine op_eq_str ?_ | refine op_ne_str ?_ | refine op_max ?_ | refine op_min ?_ | refine op_abs ?_ | refine op_mod (by first | decide | walk_at "om") ?_ | refine op_div (by first | decide | walk_at "om") (by first | decide | walk_at "om") ?_ | refine op_len_str (by first | decide | walk_at "om") ?_ | refine op_cat (by first | decide | walk_at "om") ?_ | refine truth_bool ?_ | refine tst_cmp (by kernel_rfl) ?_ | refine ev_cmp (by kernel_rfl) ?_ | refine tst_not ?_ | fail "none") | ((with_reducible show EvL _ _ _ _ (_ :: _) _); refine evl_cons ?_) | ((with_reducible show Ev _ _ _ (.Call (.Attribute _ _ _) _ [] _) _); refine ev_meth ?_) | fail "none")))
  refine meth_str (i := "str.join") (fun h => GM.join h) (by kernel_rfl) (evl_cons ?_)
  ((refine ev_attrI rfl ?_; walk_at "name"; refine ⟨_, _, _, _, _, _, rfl, by assumption, by walk_at "has", by walk_at "has", by kernel_rfl, rfl, rfl, ?_⟩))
  refine evl_nil (op_join_list (ys := s.nl.rows) (by walk_at "has") (hjoin _ (by decide +kernel)) ?_)
  refine op_eq_str ⟨_, rfl, ?_⟩
  refine iteY (decide_eq_true rfl) ?_
  refine ev_sp (List.Sublist.refl _) swap11 (ev_meth ?_)
  walk_at "name"
  refine meth_fnI (f := 64) IF (by walk_at "has") (by walk_at "has") (by kernel_rfl) (by kernel_rfl) (by kernel_rfl) (by kernel_rfl) (by kernel_rfl) ?_
  (repeat' ((first | (with_reducible first | refine ev_bin ?_ | refine ev_int ?_ | refine ev_str ?_ | refine ev_bool ?_ | refine ev_none ?_ | walk_at "name" | walk_at "fn" | refine ev_sub ?_ | refine ev_slice ?_ | refine evo_none ?_ | refine evo_some ?_ | refine ev_tuple ?_ | refine ev_list ?_ | refine evl_nil ?_ | refine op_add ?_ | refine op_sub ?_ | refine op_lt ?_ | refine op_gt ?_ | refine op_le ?_ | refine op_eq ?_ | refine op_ne ?_ | refine op_eq_str ?_ | refine op_ne_str ?_ | refine op_max ?_ | refine op_min ?_ | refine op_abs ?_ | refine op_mod (by first | decide | walk_at "om") ?_ | refine op_div (by first | decide | walk_at "om") (by first | decide | walk_at "om") ?_ | refine op_len_str (by first | decide | walk_at "om") ?_ | refine op_cat (by first | decide | walk_at "om") ?_ | refine truth_bool ?_ | refine tst_cmp (by kernel_rfl) ?_ | refine ev_cmp (by kernel_rfl) ?_ | refine tst_not ?_ | fail "none") | ((with_reducible show EvL _ _ _ _ (_ :: _) _); refine evl_cons ?_) | ((with_reducible show Ev _ _ _ (.Call (.Attribute _ _ _) _ [] _) _); refine ev_meth ?_) | fail "none")))
  refine opN_callT (strF11 rfl (by omega) (by omega) okF (by decide +kernel) ?_)
  refine op_eq_str ?_
  rw [decide_eq_true rfl]
  refine .mk rfl (fun p hp => ?_) ?_
  · simp only [List.mem_cons, List.not_mem_nil, or_false] at hp
    rcases hp with rfl | rfl <;> simp
  · exact List.mem_append_right [_, _, _, _, _, _, _, _, _, _, _, _] hs

open PySem PySem.W PySem.Builtin PySem.Builtin.ObjectAttr
open PyProof.Rows hiding wpAt wpAt_bind
set_option linter.unusedSectionVars false
set_option maxRecDepth 100000
set_option maxHeartbeats 1000000
set_option linter.unusedVariables false
variable {P : PySem.Params} {w : World} {L fa : Addr} {cdv : Value}
noncomputable abbrev ow11 (f fd ln x d g gd gln gx gxd cl sc0 : Addr) (wd : Int) (sg : Str) (s : FS) (zs : ChL) (o0 : Obj) (ns : List Int) : Own :=
  fo11 f fd ln x d wd " " sg s (g5 g gd gln gx gxd wd "\t" sg s ((cl, .list (chR zs)) :: (sc0, .fix o0 (ns.map .int)) :: chO zs))
noncomputable def cutW (W : List (Str × Str)) : Str := if W.getLast? = some oneSp then Txt.slice (txt W) none (some (-1)) else txt W
theorem clip_last (n : Nat) : clipAt n (-1) = n - 1 := by
  have h := clipAt_cast n (-1)
  rw [if_pos (by decide)] at h
  omega
theorem due_cut (wd head : Int) (W : List (Str × Str)) : dueW wd head W (txt W) = preW wd head W ++ cutW W := rfl
theorem open11 {f fd ln x d g gd gln gx gxd cl sc0 : Addr} {wd head : Int} {sg : Str} {s : FS} {k : Nat} {zs : ChL} {o0 : Obj} {ns : List Int} (ok : OkK k s) (hk : k ≤ 92) (hcat : cat s.nl.rows = preW wd head (chP zs) ++ txt (trimP (chP zs))) (hh : ∀ r ∈ s.nl.rows.tail, HeadW r)
    (hzl : List.length zs ≤ 92) (hf : Fits (chP zs)) (hdl : (cutW (chP zs)).length ≤ 1000) :
    Exs (lf11 w P L fa cdv) [("width", .int wd), ("head", .int head), ("chunks", .raw (.ref cl)), ("whole", .raw (.ref f)), ("single", .raw (.ref g)), ("due", .str (cutW (chP zs)))] (ow11 f fd ln x d g gd gln gx gxd cl sc0 wd sg s zs o0 ns) ((bodyOf (fnOf (K11 P) 214)).drop 20) (EndP11 sc0 o0 ns) := by
  have e1 : (lf11 w P L fa cdv).A.depth ≤ 400 := by show callerA.depth + 1 ≤ 400; decide
  have e2 : (lf11 w P L fa cdv).A.units ≤ 10 := by show callerA.units + 3 ≤ 10; decide
  have fin := fun (du : Str) (loc1 : Loc) (own1 : Own) (e : du = dueW wd head (chP zs) (txt (chP zs))) (sl : ([("whole", .raw (.ref f)), ("single", .raw (.ref g)), ("due", .str du)] : Loc).Sublist loc1) (so : Sp (ow11 f fd ln x d g gd gln gx gxd cl sc0 wd sg s zs o0 ns) own1) =>
    exs_sp (e ▸ sl) so (last11 (P := P) (w := w) (L := L) (fa := fa) (cdv := cdv) (f := f) (fd := fd) (ln := ln) (x := x) (d := d) (g := g) (gd := gd) (gln := gln) (gx := gx) (gxd := gxd) (cl := cl) (sc0 := sc0) (o0 := o0) (ns := ns) (sg := sg) ok hk hcat hh (by simp))
  refine exs_cons (ex_if (tst_bool (all_and_cons (tst_cmp (by kernel_rfl) ?_))))
  walk_at "name"
  refine ev_list (evl_nil ⟨by decide, fun e => ?_⟩)
  refine op_ne_nil (ds := chR zs) (by walk_at "has") .here (by show 10 + 2 < cLine; decide) (truth_bool ?_)
  cases zs with
  | nil =>
    refine iteN (by decide) ?_
    refine iteN (by decide) ?_
    refine exs_nil (fin _ _ _ ?_ (by (repeat (first | with_reducible exact List.Sublist.refl _ | with_reducible apply List.Sublist.cons_cons | with_reducible apply List.Sublist.cons | exact List.nil_sublist _))) (.of_sub (.cons _ (List.Sublist.refl _))))
    exact (empty_append _).symm
  | cons z zr =>
    refine iteY (by simp) ?_
    obtain ⟨z0, q1, q2⟩ := z
    have hz2 := (hf (q1, q2) (.head _)).2
    have hz1 := (hf (q1, q2) (.head _)).1
    dsimp only at hz1 hz2
    have hz : ∀ own : Own, HasO z0 (.list [.str q1, .str q2]) ((e, .list []) :: ow11 f fd ln x d g gd gln gx gxd cl sc0 wd sg s ((z0, q1, q2) :: zr) o0 ns) := fun _ => .of_mem (List.mem_append_right [_, _, _, _, _, _, _, _, _, _, _, _, _, _, _] (.head _))
    have skip := fun (hc : ¬(q1.length = 0 ∧ 0 < head ∧ wd < head + q2.length)) => fin (cutW (chP ((z0, q1, q2) :: zr))) [("width", .int wd), ("head", .int head), ("chunks", .raw (.ref cl)), ("whole", .raw (.ref f)), ("single", .raw (.ref g)), ("due", .str (cutW (chP ((z0, q1, q2) :: zr))))] ((e, .list []) :: ow11 f fd ln x d g gd gln gx gxd cl sc0 wd sg s ((z0, q1, q2) :: zr) o0 ns) (by
      rw [due_cut]
      show _ = (if q1.length = 0 ∧ 0 < head ∧ wd < head + q2.length then (" " : Str) else ("" : Str)) ++ _
      rw [if_neg hc]
      exact (empty_append _).symm) (by (repeat (first | with_reducible exact List.Sublist.refl _ | with_reducible apply List.Sublist.cons_cons | with_reducible apply List.Sublist.cons | exact List.nil_sublist _))) (.of_sub (.cons _ (List.Sublist.refl _)))
    refine all_and_cons (tst_cmp (by kernel_rfl) (ev_sub (ev_sub ?_)))
    (repeat' ((first | (with_reducible first | refine ev_bin ?_ | refine ev_int ?_ | refine ev_str ?_ | refine ev_bool ?_ | refine ev_none ?_ | walk_at "name" | walk_at "fn" | refine ev_sub ?_ | refine ev_slice ?_ | refine evo_none ?_ | refine evo_some ?_ | refine ev_tuple ?_ | refine ev_list ?_ | refine evl_nil ?_ | refine op_add ?_ | refine op_sub ?_ | refine op_lt ?_ | refine op_gt ?_ | refine op_le ?_ | refine op_eq ?_ | refine op_ne ?_ | refine op_eq_str ?_ | refine op_ne_str ?_ | refine op_max ?_ | refine op_min ?_ | refine op_abs ?_ | refine op_mod (by first | decide | walk_at "om") ?_ | refine op_div (by first | decide | walk_at "om") (by first | decide | walk_at "om") ?_ | refine op_len_str (by first | decide | walk_at "om") ?_ | refine op_cat (by first | decide | walk_at "om") ?_ | refine truth_bool ?_ | refine tst_cmp (by kernel_rfl) ?_ | refine ev_cmp (by kernel_rfl) ?_ | refine tst_not ?_ | fail "none") | ((with_reducible show EvL _ _ _ _ (_ :: _) _); refine evl_cons ?_) | ((with_reducible show Ev _ _ _ (.Call (.Attribute _ _ _) _ [] _) _); refine ev_meth ?_) | fail "none")))
    refine sub_list (ds := chR ((z0, q1, q2) :: zr)) (d := .raw (.ref z0)) (by walk_at "has") (by kernel_rfl) (by decide) rfl (by rw [chR_len]; omega) ?_
    (repeat' ((first | (with_reducible first | refine ev_bin ?_ | refine ev_int ?_ | refine ev_str ?_ | refine ev_bool ?_ | refine ev_none ?_ | walk_at "name" | walk_at "fn" | refine ev_sub ?_ | refine ev_slice ?_ | refine evo_none ?_ | refine evo_some ?_ | refine ev_tuple ?_ | refine ev_list ?_ | refine evl_nil ?_ | refine op_add ?_ | refine op_sub ?_ | refine op_lt ?_ | refine op_gt ?_ | refine op_le ?_ | refine op_eq ?_ | refine op_ne ?_ | refine op_eq_str ?_ | refine op_ne_str ?_ | refine op_max ?_ | refine op_min ?_ | refine op_abs ?_ | refine op_mod (by first | decide | walk_at "om") ?_ | refine op_div (by first | decide | walk_at "om") (by first | decide | walk_at "om") ?_ | refine op_len_str (by first | decide | walk_at "om") ?_ | refine op_cat (by first | decide | walk_at "om") ?_ | refine truth_bool ?_ | refine tst_cmp (by kernel_rfl) ?_ | refine ev_cmp (by kernel_rfl) ?_ | refine tst_not ?_ | fail "none") | ((with_reducible show EvL _ _ _ _ (_ :: _) _); refine evl_cons ?_) | ((with_reducible show Ev _ _ _ (.Call (.Attribute _ _ _) _ [] _) _); refine ev_meth ?_) | fail "none")))
    refine sub_list (ds := [.str q1, .str q2]) (d := .str q1) (hz []) (by kernel_rfl) (by decide) rfl (Nat.le_of_ble_eq_true rfl) ?_
    (repeat' ((first | (with_reducible first | refine ev_bin ?_ | refine ev_int ?_ | refine ev_str ?_ | refine ev_bool ?_ | refine ev_none ?_ | walk_at "name" | walk_at "fn" | refine ev_sub ?_ | refine ev_slice ?_ | refine evo_none ?_ | refine evo_some ?_ | refine ev_tuple ?_ | refine ev_list ?_ | refine evl_nil ?_ | refine op_add ?_ | refine op_sub ?_ | refine op_lt ?_ | refine op_gt ?_ | refine op_le ?_ | refine op_eq ?_ | refine op_ne ?_ | refine op_eq_str ?_ | refine op_ne_str ?_ | refine op_max ?_ | refine op_min ?_ | refine op_abs ?_ | refine op_mod (by first | decide | walk_at "om") ?_ | refine op_div (by first | decide | walk_at "om") (by first | decide | walk_at "om") ?_ | refine op_len_str (by first | decide | walk_at "om") ?_ | refine op_cat (by first | decide | walk_at "om") ?_ | refine truth_bool ?_ | refine tst_cmp (by kernel_rfl) ?_ | refine ev_cmp (by kernel_rfl) ?_ | refine tst_not ?_ | fail "none") | ((with_reducible show EvL _ _ _ _ (_ :: _) _); refine evl_cons ?_) | ((with_reducible show Ev _ _ _ (.Call (.Attribute _ _ _) _ [] _) _); refine ev_meth ?_) | fail "none")))
    by_cases h1 : q1.length = 0
    · refine iteY (decide_eq_true (len0_e h1)) ?_
      refine all_and_cons (tst_cmp (by kernel_rfl) ?_)
      (repeat' ((first | (with_reducible first | refine ev_bin ?_ | refine ev_int ?_ | refine ev_str ?_ | refine ev_bool ?_ | refine ev_none ?_ | walk_at "name" | walk_at "fn" | refine ev_sub ?_ | refine ev_slice ?_ | refine evo_none ?_ | refine evo_some ?_ | refine ev_tuple ?_ | refine ev_list ?_ | refine evl_nil ?_ | refine op_add ?_ | refine op_sub ?_ | refine op_lt ?_ | refine op_gt ?_ | refine op_le ?_ | refine op_eq ?_ | refine op_ne ?_ | refine op_eq_str ?_ | refine op_ne_str ?_ | refine op_max ?_ | refine op_min ?_ | refine op_abs ?_ | refine op_mod (by first | decide | walk_at "om") ?_ | refine op_div (by first | decide | walk_at "om") (by first | decide | walk_at "om") ?_ | refine op_len_str (by first | decide | walk_at "om") ?_ | refine op_cat (by first | decide | walk_at "om") ?_ | refine truth_bool ?_ | refine tst_cmp (by kernel_rfl) ?_ | refine ev_cmp (by kernel_rfl) ?_ | refine tst_not ?_ | fail "none") | ((with_reducible show EvL _ _ _ _ (_ :: _) _); refine evl_cons ?_) | ((with_reducible show Ev _ _ _ (.Call (.Attribute _ _ _) _ [] _) _); refine ev_meth ?_) | fail "none")))
      by_cases h2 : 0 < head
      · refine iteY (decide_eq_true h2) ?_
        refine all_and_cons (tst_cmp (by kernel_rfl) ?_)
        (repeat' ((first | (with_reducible first | refine ev_bin ?_ | refine ev_int ?_ | refine ev_str ?_ | refine ev_bool ?_ | refine ev_none ?_ | walk_at "name" | walk_at "fn" | refine ev_sub ?_ | refine ev_slice ?_ | refine evo_none ?_ | refine evo_some ?_ | refine ev_tuple ?_ | refine ev_list ?_ | refine evl_nil ?_ | refine op_add ?_ | refine op_sub ?_ | refine op_lt ?_ | refine op_gt ?_ | refine op_le ?_ | refine op_eq ?_ | refine op_ne ?_ | refine op_eq_str ?_ | refine op_ne_str ?_ | refine op_max ?_ | refine op_min ?_ | refine op_abs ?_ | refine op_mod (by first | decide | walk_at "om") ?_ | refine op_div (by first | decide | walk_at "om") (by first | decide | walk_at "om") ?_ | refine op_len_str (by first | decide | walk_at "om") ?_ | refine op_cat (by first | decide | walk_at "om") ?_ | refine truth_bool ?_ | refine tst_cmp (by kernel_rfl) ?_ | refine ev_cmp (by kernel_rfl) ?_ | refine tst_not ?_ | fail "none") | ((with_reducible show EvL _ _ _ _ (_ :: _) _); refine evl_cons ?_) | ((with_reducible show Ev _ _ _ (.Call (.Attribute _ _ _) _ [] _) _); refine ev_meth ?_) | fail "none")))
        refine sub_list (ds := chR ((z0, q1, q2) :: zr)) (d := .raw (.ref z0)) (by walk_at "has") (by kernel_rfl) (by decide) rfl (by rw [chR_len]; omega) ?_
        (repeat' ((first | (with_reducible first | refine ev_bin ?_ | refine ev_int ?_ | refine ev_str ?_ | refine ev_bool ?_ | refine ev_none ?_ | walk_at "name" | walk_at "fn" | refine ev_sub ?_ | refine ev_slice ?_ | refine evo_none ?_ | refine evo_some ?_ | refine ev_tuple ?_ | refine ev_list ?_ | refine evl_nil ?_ | refine op_add ?_ | refine op_sub ?_ | refine op_lt ?_ | refine op_gt ?_ | refine op_le ?_ | refine op_eq ?_ | refine op_ne ?_ | refine op_eq_str ?_ | refine op_ne_str ?_ | refine op_max ?_ | refine op_min ?_ | refine op_abs ?_ | refine op_mod (by first | decide | walk_at "om") ?_ | refine op_div (by first | decide | walk_at "om") (by first | decide | walk_at "om") ?_ | refine op_len_str (by first | decide | walk_at "om") ?_ | refine op_cat (by first | decide | walk_at "om") ?_ | refine truth_bool ?_ | refine tst_cmp (by kernel_rfl) ?_ | refine ev_cmp (by kernel_rfl) ?_ | refine tst_not ?_ | fail "none") | ((with_reducible show EvL _ _ _ _ (_ :: _) _); refine evl_cons ?_) | ((with_reducible show Ev _ _ _ (.Call (.Attribute _ _ _) _ [] _) _); refine ev_meth ?_) | fail "none")))
        refine sub_list (ds := [.str q1, .str q2]) (d := .str q2) (hz []) (by kernel_rfl) (by decide) rfl (Nat.le_of_ble_eq_true rfl) ?_
        (repeat' ((first | (with_reducible first | refine ev_bin ?_ | refine ev_int ?_ | refine ev_str ?_ | refine ev_bool ?_ | refine ev_none ?_ | walk_at "name" | walk_at "fn" | refine ev_sub ?_ | refine ev_slice ?_ | refine evo_none ?_ | refine evo_some ?_ | refine ev_tuple ?_ | refine ev_list ?_ | refine evl_nil ?_ | refine op_add ?_ | refine op_sub ?_ | refine op_lt ?_ | refine op_gt ?_ | refine op_le ?_ | refine op_eq ?_ | refine op_ne ?_ | refine op_eq_str ?_ | refine op_ne_str ?_ | refine op_max ?_ | refine op_min ?_ | refine op_abs ?_ | refine op_mod (by first | decide | walk_at "om") ?_ | refine op_div (by first | decide | walk_at "om") (by first | decide | walk_at "om") ?_ | refine op_len_str (by first | decide | walk_at "om") ?_ | refine op_cat (by first | decide | walk_at "om") ?_ | refine truth_bool ?_ | refine tst_cmp (by kernel_rfl) ?_ | refine ev_cmp (by kernel_rfl) ?_ | refine tst_not ?_ | fail "none") | ((with_reducible show EvL _ _ _ _ (_ :: _) _); refine evl_cons ?_) | ((with_reducible show Ev _ _ _ (.Call (.Attribute _ _ _) _ [] _) _); refine ev_meth ?_) | fail "none")))
        by_cases h3 : wd < head + q2.length
        · refine iteY (decide_eq_true h3) ?_
          refine all_and_nil ?_
          refine iteY rfl ?_
          ((refine exs_cons ?_; first | (refine ex_assignS ?hs ?_; (case hs => exact swaps_plain (by rfl))) | refine ex_expr (by kernel_rfl) (by rfl) ?_ | refine ex_if ?_ | refine ex_return ?_ | fail "none"))
          (repeat' ((first | (with_reducible first | refine ev_bin ?_ | refine ev_int ?_ | refine ev_str ?_ | refine ev_bool ?_ | refine ev_none ?_ | walk_at "name" | walk_at "fn" | refine ev_sub ?_ | refine ev_slice ?_ | refine evo_none ?_ | refine evo_some ?_ | refine ev_tuple ?_ | refine ev_list ?_ | refine evl_nil ?_ | refine op_add ?_ | refine op_sub ?_ | refine op_lt ?_ | refine op_gt ?_ | refine op_le ?_ | refine op_eq ?_ | refine op_ne ?_ | refine op_eq_str ?_ | refine op_ne_str ?_ | refine op_max ?_ | refine op_min ?_ | refine op_abs ?_ | refine op_mod (by first | decide | walk_at "om") ?_ | refine op_div (by first | decide | walk_at "om") (by first | decide | walk_at "om") ?_ | refine op_len_str (by first | decide | walk_at "om") ?_ | refine op_cat (by first | decide | walk_at "om") ?_ | refine truth_bool ?_ | refine tst_cmp (by kernel_rfl) ?_ | refine ev_cmp (by kernel_rfl) ?_ | refine tst_not ?_ | fail "none") | ((with_reducible show EvL _ _ _ _ (_ :: _) _); refine evl_cons ?_) | ((with_reducible show Ev _ _ _ (.Call (.Attribute _ _ _) _ [] _) _); refine ev_meth ?_) | fail "none")))
          refine op_cat (by have : (" " : Str).length = 1 := rfl; omega) ?_
          refine ⟨_, _, by ((refine StoreTo.loc (by kernel_rfl) (by (repeat (first | with_reducible exact SetL.here | with_reducible exact SetL.new | (with_reducible apply SetL.there; (focus (dsimp only; decide)))))))), ?_⟩
          refine exs_nil (fin _ _ _ ?_ (by (repeat (first | with_reducible exact List.Sublist.refl _ | with_reducible apply List.Sublist.cons_cons | with_reducible apply List.Sublist.cons | exact List.nil_sublist _))) (.of_sub (.cons _ (List.Sublist.refl _))))
          rw [due_cut]
          show _ = (if q1.length = 0 ∧ 0 < head ∧ wd < head + q2.length then (" " : Str) else ("" : Str)) ++ _
          rw [if_pos ⟨h1, h2, h3⟩]
        · refine iteN (by simpa using h3) ?_
          refine iteN (by decide) ?_
          exact exs_nil (skip fun z => h3 z.2.2)
      · refine iteN (by simpa using h2) ?_
        refine iteN (by decide) ?_
        exact exs_nil (skip fun z => h2 z.2.1)
    · refine iteN (by
        have : q1 ≠ "" := fun z => h1 (by rw [z]; rfl)
        rw [decide_eq_false this]; decide) ?_
      refine iteN (by decide) ?_
      exact exs_nil (skip fun z => h1 z.1)
theorem tail_rows {W : List (Str × Str)} : ((W.drop (W.length - 1)).map (fun q => [q.1, q.2]) = [[(" " : Str), ("" : Str)]]) ↔ W.getLast? = some oneSp := by
  cases hW : W.reverse with
  | nil =>
    have : W = [] := by simpa using hW
    subst this
    constructor <;> intro h <;> cases h
  | cons p r =>
    have e : W = r.reverse ++ [p] := by
      have := congrArg List.reverse hW
      simpa using this
    subst e
    rw [List.length_append, List.getLast?_concat, show (r.reverse).length + [p].length - 1 = (r.reverse).length from rfl, List.drop_left]
    obtain ⟨a, b⟩ := p
    show [[a, b]] = _ ↔ some (a, b) = some ((" " : Str), ("" : Str))
    constructor
    · intro h
      injection h with h _
      injection h with h1 h
      injection h with h2 h
      rw [h1, h2]
    · intro h
      injection h with h
      injection h with h1 h2
      rw [h1, h2]
theorem end11 {f fd ln x d g gd gln gx gxd cl sc0 : Addr} {wd head : Int} {sg t : Str} {s : FS} {k : Nat} {zs : ChL} {o0 : Obj} {ns : List Int} (ok : OkK k s) (hk : k ≤ 92) (hcat : cat s.nl.rows = preW wd head (chP zs) ++ txt (trimP (chP zs))) (hh : ∀ r ∈ s.nl.rows.tail, HeadW r)
    (hzl : List.length zs ≤ 92) (hf : Fits (chP zs)) (ht : txt (chP zs) = t) (htl : t.length ≤ 180) :
    Exs (lf11 w P L fa cdv) [("width", .int wd), ("head", .int head), ("text", .str t), ("chunks", .raw (.ref cl)), ("whole", .raw (.ref f)), ("single", .raw (.ref g))] (ow11 f fd ln x d g gd gln gx gxd cl sc0 wd sg s zs o0 ns) ((bodyOf (fnOf (K11 P) 214)).drop 15) (EndP11 sc0 o0 ns) := by
  obtain ⟨cdF, IF⟩ := insK11 (P := P)
  have e1 : (lf11 w P L fa cdv).A.depth ≤ 400 := by show callerA.depth + 1 ≤ 400; decide
  have e2 : (lf11 w P L fa cdv).A.units ≤ 10 := by show callerA.units + 3 ≤ 10; decide
  obtain ⟨n0, n1, okf, okl, okr, oks⟩ := id ok
  have sg1 := signs_top' okf
  have sg0 := signs_nn' s.ps
  -- the rows that are done
  refine exs_cons (ex_if (tst_cmp (by kernel_rfl) ?_))
  ((refine ev_attrI rfl ?_; walk_at "name"; refine ⟨_, _, _, _, _, _, rfl, by assumption, by walk_at "has", by walk_at "has", by kernel_rfl, rfl, rfl, ?_⟩))
  ((refine ev_attrI rfl ?_; walk_at "name"; refine ⟨_, _, _, _, _, _, rfl, by assumption, by walk_at "has", by walk_at "has", by kernel_rfl, rfl, rfl, ?_⟩))
  refine op_ne_list cmpStr (xs := s.rows) (ys := s.rows) (by walk_at "has") (by walk_at "has") (by show 10 + 1 < cLine; decide) (truth_bool ?_)
  refine iteN (by simp) ?_
  refine exs_nil ?_
  -- the open rows
  refine exs_cons (ex_if (tst_cmp (by kernel_rfl) (ev_comp [] rfl ⟨rfl, rfl, by decide, by decide, fun _ => rfl⟩ (it_acc ?_))))
  ((refine ev_attrI rfl ?_; walk_at "name"; refine ⟨_, _, _, _, _, _, rfl, by assumption, by walk_at "has", by walk_at "has", by kernel_rfl, rfl, rfl, ?_⟩))
  refine ⟨x, 200, d, s.ps.map dpair, rfl, accK11, by walk_at "has", ?_⟩
  refine comp_pure (fun p => some (dpair p)) (by walk_at "has") (by omega) (fun C ac p res hp => ?_) ?_
  · refine as_name (by kernel_rfl) .new ?_
    show Ev _ _ _ _ _
    (repeat' ((first | (with_reducible first | refine ev_bin ?_ | refine ev_int ?_ | refine ev_str ?_ | refine ev_bool ?_ | refine ev_none ?_ | walk_at "name" | walk_at "fn" | refine ev_sub ?_ | refine ev_slice ?_ | refine evo_none ?_ | refine evo_some ?_ | refine ev_tuple ?_ | refine ev_list ?_ | refine evl_nil ?_ | refine op_add ?_ | refine op_sub ?_ | refine op_lt ?_ | refine op_gt ?_ | refine op_le ?_ | refine op_eq ?_ | refine op_ne ?_ | refine op_eq_str ?_ | refine op_ne_str ?_ | refine op_max ?_ | refine op_min ?_ | refine op_abs ?_ | refine op_mod (by first | decide | walk_at "om") ?_ | refine op_div (by first | decide | walk_at "om") (by first | decide | walk_at "om") ?_ | refine op_len_str (by first | decide | walk_at "om") ?_ | refine op_cat (by first | decide | walk_at "om") ?_ | refine truth_bool ?_ | refine tst_cmp (by kernel_rfl) ?_ | refine ev_cmp (by kernel_rfl) ?_ | refine tst_not ?_ | fail "none") | ((with_reducible show EvL _ _ _ _ (_ :: _) _); refine evl_cons ?_) | ((with_reducible show Ev _ _ _ (.Call (.Attribute _ _ _) _ [] _) _); refine ev_meth ?_) | fail "none")))
    exact ⟨rfl, List.Sublist.refl _⟩
  intro b1
  rw [List.filterMap_eq_map']
  refine ev_comp [] rfl ⟨rfl, rfl, by decide, by decide, fun _ => rfl⟩ (it_acc ?_)
  ((refine ev_attrI rfl ?_; walk_at "name"; refine ⟨_, _, _, _, _, _, rfl, by assumption, by walk_at "has", by walk_at "has", by kernel_rfl, rfl, rfl, ?_⟩))
  refine ⟨gx, 200, gxd, s.ps.map dpair, rfl, accK11, by walk_at "has", ?_⟩
  refine comp_pure (fun p => some (dpair p)) (by walk_at "has") (by omega) (fun C ac p res hp => ?_) ?_
  · refine as_name (by kernel_rfl) .new ?_
    show Ev _ _ _ _ _
    (repeat' ((first | (with_reducible first | refine ev_bin ?_ | refine ev_int ?_ | refine ev_str ?_ | refine ev_bool ?_ | refine ev_none ?_ | walk_at "name" | walk_at "fn" | refine ev_sub ?_ | refine ev_slice ?_ | refine evo_none ?_ | refine evo_some ?_ | refine ev_tuple ?_ | refine ev_list ?_ | refine evl_nil ?_ | refine op_add ?_ | refine op_sub ?_ | refine op_lt ?_ | refine op_gt ?_ | refine op_le ?_ | refine op_eq ?_ | refine op_ne ?_ | refine op_eq_str ?_ | refine op_ne_str ?_ | refine op_max ?_ | refine op_min ?_ | refine op_abs ?_ | refine op_mod (by first | decide | walk_at "om") ?_ | refine op_div (by first | decide | walk_at "om") (by first | decide | walk_at "om") ?_ | refine op_len_str (by first | decide | walk_at "om") ?_ | refine op_cat (by first | decide | walk_at "om") ?_ | refine truth_bool ?_ | refine tst_cmp (by kernel_rfl) ?_ | refine ev_cmp (by kernel_rfl) ?_ | refine tst_not ?_ | fail "none") | ((with_reducible show EvL _ _ _ _ (_ :: _) _); refine evl_cons ?_) | ((with_reducible show Ev _ _ _ (.Call (.Attribute _ _ _) _ [] _) _); refine ev_meth ?_) | fail "none")))
    exact ⟨rfl, List.Sublist.refl _⟩
  intro b2
  rw [List.filterMap_eq_map']
  refine op_ne_list cmpPair (xs := s.ps) (ys := s.ps) (.there .here) .here (by show 10 + _ < cLine; decide) (truth_bool ?_)
  refine iteN (by simp) ?_
  refine exs_nil (exs_sp (List.Sublist.refl _) (.of_sub (.cons _ (.cons _ (List.Sublist.refl (ow11 f fd ln x d g gd gln gx gxd cl sc0 wd sg s zs o0 ns))))) ?_)
  -- their lengths
  refine exs_cons (ex_if (tst_cmp (by kernel_rfl) ?_))
  walk_at "fn"
  refine evl_cons ?_
  ((refine ev_attrI rfl ?_; walk_at "name"; refine ⟨_, _, _, _, _, _, rfl, by assumption, by walk_at "has", by walk_at "has", by kernel_rfl, rfl, rfl, ?_⟩))
  refine evl_nil ?_
  refine op_len_acc (f := 167) (C := 200) (d := d) (ds := s.ps.map dpair) (by walk_at "has") (by kernel_rfl) (by kernel_rfl) (len11 (ps := s.ps) (n := s.n) (l := [("_initial_size", .int s.n)]) rfl (by show callerA.depth + 1 ≤ 800; decide) (by show callerA.units + 3 + 1 ≤ 8000; decide) (by walk_at "has") (by walk_at "has") rfl (by walk_at "has") (fun p hp => by have := okf p hp; omega) ⟨_, rfl, by omega, by omega, ?_⟩)
  walk_at "fn"
  refine evl_cons ?_
  ((refine ev_attrI rfl ?_; walk_at "name"; refine ⟨_, _, _, _, _, _, rfl, by assumption, by walk_at "has", by walk_at "has", by kernel_rfl, rfl, rfl, ?_⟩))
  refine evl_nil ?_
  refine op_len_acc (f := 167) (C := 200) (d := gxd) (ds := s.ps.map dpair) (by walk_at "has") (by kernel_rfl) (by kernel_rfl) (len11 (ps := s.ps) (n := s.n) (l := [("_initial_size", .int s.n)]) rfl (by show callerA.depth + 1 ≤ 800; decide) (by show callerA.units + 3 + 1 ≤ 8000; decide) (by walk_at "has") (by walk_at "has") rfl (by walk_at "has") (fun p hp => by have := okf p hp; omega) ⟨_, rfl, by omega, by omega, ?_⟩)
  (repeat' ((first | (with_reducible first | refine ev_bin ?_ | refine ev_int ?_ | refine ev_str ?_ | refine ev_bool ?_ | refine ev_none ?_ | walk_at "name" | walk_at "fn" | refine ev_sub ?_ | refine ev_slice ?_ | refine evo_none ?_ | refine evo_some ?_ | refine ev_tuple ?_ | refine ev_list ?_ | refine evl_nil ?_ | refine op_add ?_ | refine op_sub ?_ | refine op_lt ?_ | refine op_gt ?_ | refine op_le ?_ | refine op_eq ?_ | refine op_ne ?_ | refine op_eq_str ?_ | refine op_ne_str ?_ | refine op_max ?_ | refine op_min ?_ | refine op_abs ?_ | refine op_mod (by first | decide | walk_at "om") ?_ | refine op_div (by first | decide | walk_at "om") (by first | decide | walk_at "om") ?_ | refine op_len_str (by first | decide | walk_at "om") ?_ | refine op_cat (by first | decide | walk_at "om") ?_ | refine truth_bool ?_ | refine tst_cmp (by kernel_rfl) ?_ | refine ev_cmp (by kernel_rfl) ?_ | refine tst_not ?_ | fail "none") | ((with_reducible show EvL _ _ _ _ (_ :: _) _); refine evl_cons ?_) | ((with_reducible show Ev _ _ _ (.Call (.Attribute _ _ _) _ [] _) _); refine ev_meth ?_) | fail "none")))
  refine iteN (by simp) ?_
  refine exs_nil ?_
  -- due
  ((refine exs_cons ?_; first | (refine ex_assignS ?hs ?_; (case hs => exact swaps_plain (by rfl))) | refine ex_expr (by kernel_rfl) (by rfl) ?_ | refine ex_if ?_ | refine ex_return ?_ | fail "none"))
  walk_at "name"
  refine ⟨_, _, by ((refine StoreTo.loc (by kernel_rfl) (by (repeat (first | with_reducible exact SetL.here | with_reducible exact SetL.new | (with_reducible apply SetL.there; (focus (dsimp only; decide)))))))), ?_⟩
  have hcl : (cutW (chP zs)).length ≤ 1000 := by
    unfold cutW
    rw [ht]
    split
    · exact Nat.le_trans (Txt.slice_le _ _ _) (by omega)
    · omega
  have fin := fun (du : Str) (loc1 : Loc) (own1 : Own) (e : du = cutW (chP zs)) (sl : ([("width", .int wd), ("head", .int head), ("chunks", .raw (.ref cl)), ("whole", .raw (.ref f)), ("single", .raw (.ref g)), ("due", .str du)] : Loc).Sublist loc1) (so : Sp (ow11 f fd ln x d g gd gln gx gxd cl sc0 wd sg s zs o0 ns) own1) =>
    exs_sp (e ▸ sl) so (open11 (P := P) (w := w) (L := L) (fa := fa) (cdv := cdv) (f := f) (fd := fd) (ln := ln) (x := x) (d := d) (g := g) (gd := gd) (gln := gln) (gx := gx) (gxd := gxd) (cl := cl) (sc0 := sc0) (o0 := o0) (ns := ns) (sg := sg) ok hk hcat hh hzl hf hcl)
  refine exs_cons (ex_if (tst_cmp (by kernel_rfl) (ev_sub ?_)))
  walk_at "name"
  refine ev_slice (evo_some (ev_neg ?_))
  (repeat' ((first | (with_reducible first | refine ev_bin ?_ | refine ev_int ?_ | refine ev_str ?_ | refine ev_bool ?_ | refine ev_none ?_ | walk_at "name" | walk_at "fn" | refine ev_sub ?_ | refine ev_slice ?_ | refine evo_none ?_ | refine evo_some ?_ | refine ev_tuple ?_ | refine ev_list ?_ | refine evl_nil ?_ | refine op_add ?_ | refine op_sub ?_ | refine op_lt ?_ | refine op_gt ?_ | refine op_le ?_ | refine op_eq ?_ | refine op_ne ?_ | refine op_eq_str ?_ | refine op_ne_str ?_ | refine op_max ?_ | refine op_min ?_ | refine op_abs ?_ | refine op_mod (by first | decide | walk_at "om") ?_ | refine op_div (by first | decide | walk_at "om") (by first | decide | walk_at "om") ?_ | refine op_len_str (by first | decide | walk_at "om") ?_ | refine op_cat (by first | decide | walk_at "om") ?_ | refine truth_bool ?_ | refine tst_cmp (by kernel_rfl) ?_ | refine ev_cmp (by kernel_rfl) ?_ | refine tst_not ?_ | fail "none") | ((with_reducible show EvL _ _ _ _ (_ :: _) _); refine evl_cons ?_) | ((with_reducible show Ev _ _ _ (.Call (.Attribute _ _ _) _ [] _) _); refine ev_meth ?_) | fail "none")))
  refine ⟨_, rfl, evo_none (evo_none fun s1 => ?_)⟩
  refine sub_list_slice (ds := chR zs) (by walk_at "has") .here (.int _) .none .none (by decide) (by rw [chR_len]; omega) fun l1 => ?_
  rw [pickL_clip, chR_len, clip_last, show (chR zs).drop (List.length zs - 1) = chR (zs.drop (List.length zs - 1)) from (List.map_drop).symm]
  refine ev_list (evl_cons (ev_list ?_))
  (repeat' ((first | (with_reducible first | refine ev_bin ?_ | refine ev_int ?_ | refine ev_str ?_ | refine ev_bool ?_ | refine ev_none ?_ | walk_at "name" | walk_at "fn" | refine ev_sub ?_ | refine ev_slice ?_ | refine evo_none ?_ | refine evo_some ?_ | refine ev_tuple ?_ | refine ev_list ?_ | refine evl_nil ?_ | refine op_add ?_ | refine op_sub ?_ | refine op_lt ?_ | refine op_gt ?_ | refine op_le ?_ | refine op_eq ?_ | refine op_ne ?_ | refine op_eq_str ?_ | refine op_ne_str ?_ | refine op_max ?_ | refine op_min ?_ | refine op_abs ?_ | refine op_mod (by first | decide | walk_at "om") ?_ | refine op_div (by first | decide | walk_at "om") (by first | decide | walk_at "om") ?_ | refine op_len_str (by first | decide | walk_at "om") ?_ | refine op_cat (by first | decide | walk_at "om") ?_ | refine truth_bool ?_ | refine tst_cmp (by kernel_rfl) ?_ | refine ev_cmp (by kernel_rfl) ?_ | refine tst_not ?_ | fail "none") | ((with_reducible show EvL _ _ _ _ (_ :: _) _); refine evl_cons ?_) | ((with_reducible show Ev _ _ _ (.Call (.Attribute _ _ _) _ [] _) _); refine ev_meth ?_) | fail "none")))
  refine ⟨Nat.le_of_ble_eq_true rfl, fun l2 => evl_nil ⟨Nat.le_of_ble_eq_true rfl, fun l3 => ?_⟩⟩
  have hrows : (zs.drop (List.length zs - 1)).map (fun q => [q.2.1, q.2.2]) = ((chP zs).drop ((chP zs).length - 1)).map (fun q => [q.1, q.2]) := by
    rw [List.length_map]
    show _ = List.map _ (List.drop _ (List.map _ zs))
    rw [← List.map_drop, List.map_map]; rfl
  refine op_eq_rows cmpStr (as := (zs.drop (List.length zs - 1)).map (·.1)) (bs := [l2]) (xss := (zs.drop (List.length zs - 1)).map fun q => [q.2.1, q.2.2]) (yss := [[" ", ""]]) (by rw [← chR_zip]; exact .there (.there .here)) .here ⟨by rw [List.length_map, List.length_map], fun i a xs ha hx => ?_⟩ ⟨rfl, fun i a xs ha hx => ?_⟩ (by show 10 + 2 < cLine; decide) (truth_bool ?_)
  · rw [List.getElem?_map] at ha hx
    cases hz : (zs.drop (List.length zs - 1))[i]? with
    | none => rw [hz] at ha; cases ha
    | some q =>
      rw [hz] at ha hx
      cases ha; cases hx
      exact .of_mem (List.mem_append_right [_, _, _, _, _, _, _, _, _, _, _, _, _, _, _, _, _, _] (chO_has (List.mem_of_mem_drop (List.mem_of_getElem? hz))))
  · match i with
    | 0 => cases ha; cases hx; exact .there .here
    | i + 1 => cases ha
  by_cases hL : (chP zs).getLast? = some oneSp
  · refine iteY (decide_eq_true (hrows.trans (tail_rows.mpr hL))) ?_
    ((refine exs_cons ?_; first | (refine ex_assignS ?hs ?_; (case hs => exact swaps_plain (by rfl))) | refine ex_expr (by kernel_rfl) (by rfl) ?_ | refine ex_if ?_ | refine ex_return ?_ | fail "none"))
    refine ev_sub ?_
    walk_at "name"
    refine ev_slice (evo_none (evo_some (ev_neg ?_)))
    (repeat' ((first | (with_reducible first | refine ev_bin ?_ | refine ev_int ?_ | refine ev_str ?_ | refine ev_bool ?_ | refine ev_none ?_ | walk_at "name" | walk_at "fn" | refine ev_sub ?_ | refine ev_slice ?_ | refine evo_none ?_ | refine evo_some ?_ | refine ev_tuple ?_ | refine ev_list ?_ | refine evl_nil ?_ | refine op_add ?_ | refine op_sub ?_ | refine op_lt ?_ | refine op_gt ?_ | refine op_le ?_ | refine op_eq ?_ | refine op_ne ?_ | refine op_eq_str ?_ | refine op_ne_str ?_ | refine op_max ?_ | refine op_min ?_ | refine op_abs ?_ | refine op_mod (by first | decide | walk_at "om") ?_ | refine op_div (by first | decide | walk_at "om") (by first | decide | walk_at "om") ?_ | refine op_len_str (by first | decide | walk_at "om") ?_ | refine op_cat (by first | decide | walk_at "om") ?_ | refine truth_bool ?_ | refine tst_cmp (by kernel_rfl) ?_ | refine ev_cmp (by kernel_rfl) ?_ | refine tst_not ?_ | fail "none") | ((with_reducible show EvL _ _ _ _ (_ :: _) _); refine evl_cons ?_) | ((with_reducible show Ev _ _ _ (.Call (.Attribute _ _ _) _ [] _) _); refine ev_meth ?_) | fail "none")))
    refine ⟨_, rfl, evo_none fun s2 => ?_⟩
    refine sub_str_slice .here .none (.int _) (by omega) ?_
    refine ⟨_, _, by ((refine StoreTo.loc (by kernel_rfl) (by (repeat (first | with_reducible exact SetL.here | with_reducible exact SetL.new | (with_reducible apply SetL.there; (focus (dsimp only; decide)))))))), ?_⟩
    refine exs_nil (fin _ _ _ ?_ (by (repeat (first | with_reducible exact List.Sublist.refl _ | with_reducible apply List.Sublist.cons_cons | with_reducible apply List.Sublist.cons | exact List.nil_sublist _))) (.of_sub (.cons _ (.cons _ (.cons _ (.cons _ (.cons _ (List.Sublist.refl _))))))))
    unfold cutW
    rw [if_pos hL, ht]
  · refine iteN (by
      have : ¬((zs.drop (List.length zs - 1)).map (fun q => [q.2.1, q.2.2]) = [[(" " : Str), ("" : Str)]]) := fun h => hL (tail_rows.mp (hrows.symm.trans h))
      rw [decide_eq_false this]; decide) ?_
    refine exs_nil (fin _ _ _ ?_ (by (repeat (first | with_reducible exact List.Sublist.refl _ | with_reducible apply List.Sublist.cons_cons | with_reducible apply List.Sublist.cons | exact List.nil_sublist _))) (.of_sub (.cons _ (.cons _ (.cons _ (.cons _ (List.Sublist.refl _)))))))
    unfold cutW
    rw [if_neg hL, ht]

open PySem PySem.W PySem.Builtin PySem.Builtin.ObjectAttr
open PyProof.Rows hiding wpAt wpAt_bind
set_option linter.unusedSectionVars false
set_option maxRecDepth 100000
set_option maxHeartbeats 1000000
set_option linter.unusedVariables false
variable {P : PySem.Params} {w : World} {L fa : Addr} {cdv : Value}
theorem opn_sp {Γ : Fm} {loc loc1 : Loc} {own own1 : Own} {Q : QV} {ds : List Dv} {f : List Value → Sem Value} (a : loc1.Sublist loc) (b : Sp own1 own) (x : OpN Γ loc1 own1 ds f Q) : OpN Γ loc own ds f Q := fun h₀ s vs g rel vr => x h₀ s vs g (rel.sp a b) vr
theorem mid11 {cl sc0 : Addr} {first wd head : Int} {sg t : Str} {zs : ChL} {o0 : Obj} {ns : List Int} (h0 : 0 ≤ head) (h1 : head ≤ 1000) (hs : sg.length ≤ 10) (ht : chP zs = wordsOf t) (htl : t.length ≤ 180) :
    Exs (lf11 w P L fa cdv) [("first", .int first), ("width", .int wd), ("head", .int head), ("signs", .str sg), ("text", .str t), ("chunks", .raw (.ref cl))] ((162, .tab) :: (169, .tab) :: (cl, .list (chR zs)) :: (sc0, .fix o0 (ns.map .int)) :: chO zs) ((bodyOf (fnOf (K11 P) 214)).drop 8) (EndP11 sc0 o0 ns) := by
  obtain ⟨cdF, IF⟩ := insK11 (P := P)
  have e1 : (lf11 w P L fa cdv).A.depth ≤ 390 := by show callerA.depth + 1 ≤ 390; decide
  have e2 : (lf11 w P L fa cdv).A.units ≤ 10 := by show callerA.units + 3 ≤ 10; decide
  have hWl : 2 * (chP zs).length ≤ t.length + 2 := by rw [ht]; exact words_count t
  have hzl : (chP zs).length = List.length zs := List.length_map _
  have hfit : Fits (chP zs) := by rw [ht]; exact fits_words htl
  have htx : txt (chP zs) = t := by rw [ht]; exact words_txt t
  have hwl : WordL (chP zs) := by rw [ht]; exact wordL t
  -- cut
  ((refine exs_cons ?_; first | (refine ex_assignS ?hs ?_; (case hs => exact swaps_plain (by rfl))) | refine ex_expr (by kernel_rfl) (by rfl) ?_ | refine ex_if ?_ | refine ex_return ?_ | fail "none"))
  (repeat' ((first | (with_reducible first | refine ev_bin ?_ | refine ev_int ?_ | refine ev_str ?_ | refine ev_bool ?_ | refine ev_none ?_ | walk_at "name" | walk_at "fn" | refine ev_sub ?_ | refine ev_slice ?_ | refine evo_none ?_ | refine evo_some ?_ | refine ev_tuple ?_ | refine ev_list ?_ | refine evl_nil ?_ | refine op_add ?_ | refine op_sub ?_ | refine op_lt ?_ | refine op_gt ?_ | refine op_le ?_ | refine op_eq ?_ | refine op_ne ?_ | refine op_eq_str ?_ | refine op_ne_str ?_ | refine op_max ?_ | refine op_min ?_ | refine op_abs ?_ | refine op_mod (by first | decide | walk_at "om") ?_ | refine op_div (by first | decide | walk_at "om") (by first | decide | walk_at "om") ?_ | refine op_len_str (by first | decide | walk_at "om") ?_ | refine op_cat (by first | decide | walk_at "om") ?_ | refine truth_bool ?_ | refine tst_cmp (by kernel_rfl) ?_ | refine ev_cmp (by kernel_rfl) ?_ | refine tst_not ?_ | fail "none") | ((with_reducible show EvL _ _ _ _ (_ :: _) _); refine evl_cons ?_) | ((with_reducible show Ev _ _ _ (.Call (.Attribute _ _ _) _ [] _) _); refine ev_meth ?_) | fail "none")))
  obtain ⟨c, hc, hct⟩ : ∃ c : Nat, first / 195 % ((t.length : Int) + 1) = c ∧ c ≤ t.length := by
    have a0 := Int.emod_nonneg (first / 195) (show (t.length : Int) + 1 ≠ 0 by omega)
    have a1 := Int.emod_lt_of_pos (first / 195) (show (0 : Int) < (t.length : Int) + 1 by omega)
    exact ⟨(first / 195 % ((t.length : Int) + 1)).toNat, by omega, by omega⟩
  rw [hc]
  refine ⟨_, _, by ((refine StoreTo.loc (by kernel_rfl) (by (repeat (first | with_reducible exact SetL.here | with_reducible exact SetL.new | (with_reducible apply SetL.there; (focus (dsimp only; decide)))))))), ?_⟩
  -- plain
  ((refine exs_cons ?_; first | (refine ex_assignS ?hs ?_; (case hs => exact swaps_plain (by rfl))) | refine ex_expr (by kernel_rfl) (by rfl) ?_ | refine ex_if ?_ | refine ex_return ?_ | fail "none"))
  refine ev_call (f := .ref 116) (callee_k (by kernel_rfl)) (by kernel_rfl) (ev_global (by kernel_rfl) (by decide +kernel) (by kernel_rfl) ⟨rfl, ?_⟩)
  (repeat' ((first | (with_reducible first | refine ev_bin ?_ | refine ev_int ?_ | refine ev_str ?_ | refine ev_bool ?_ | refine ev_none ?_ | walk_at "name" | walk_at "fn" | refine ev_sub ?_ | refine ev_slice ?_ | refine evo_none ?_ | refine evo_some ?_ | refine ev_tuple ?_ | refine ev_list ?_ | refine evl_nil ?_ | refine op_add ?_ | refine op_sub ?_ | refine op_lt ?_ | refine op_gt ?_ | refine op_le ?_ | refine op_eq ?_ | refine op_ne ?_ | refine op_eq_str ?_ | refine op_ne_str ?_ | refine op_max ?_ | refine op_min ?_ | refine op_abs ?_ | refine op_mod (by first | decide | walk_at "om") ?_ | refine op_div (by first | decide | walk_at "om") (by first | decide | walk_at "om") ?_ | refine op_len_str (by first | decide | walk_at "om") ?_ | refine op_cat (by first | decide | walk_at "om") ?_ | refine truth_bool ?_ | refine tst_cmp (by kernel_rfl) ?_ | refine ev_cmp (by kernel_rfl) ?_ | refine tst_not ?_ | fail "none") | ((with_reducible show EvL _ _ _ _ (_ :: _) _); refine evl_cons ?_) | ((with_reducible show Ev _ _ _ (.Call (.Attribute _ _ _) _ [] _) _); refine ev_meth ?_) | fail "none")))
  refine opN_callT (makeF11 rfl (by omega) (by omega) (by decide +kernel) fun pf pd pln px pxd => ⟨_, _, by ((refine StoreTo.loc (by kernel_rfl) (by (repeat (first | with_reducible exact SetL.here | with_reducible exact SetL.new | (with_reducible apply SetL.there; (focus (dsimp only; decide)))))))), ?_⟩)
  refine exs_cons (ex_assign1 (by rfl) (ev_none ?_))
  refine as_attrI ?_
  walk_at "name"
  refine ⟨_, _, _, _, fa11 pln px 0 "" "", _, _, rfl, IF.st, by walk_at "has", by kernel_rfl, by (repeat (first | with_reducible exact SetL.here | with_reducible exact SetL.new | (with_reducible apply SetL.there; (focus (dsimp only; decide))))), by simp, by walk_at "has", ?_⟩
  refine exs_sp (own1 := (162, .tab) :: (169, .tab) :: (pf, .inst 116 pd) :: (pd, .idict (fa11 pln px 0 "" "" ++ [(("header_encoding" : Str), Dv.none)])) :: (cl, .list (chR zs)) :: (sc0, .fix o0 (ns.map .int)) :: chO zs) (loc1 := [("width", .int wd), ("head", .int head), ("signs", .str sg), ("text", .str t), ("chunks", .raw (.ref cl)), ("cut", .int c), ("plain", .raw (.ref pf))]) (by (repeat (first | with_reducible exact List.Sublist.refl _ | with_reducible apply List.Sublist.cons_cons | with_reducible apply List.Sublist.cons | exact List.nil_sublist _)))
    (.perm (List.perm_append_comm_assoc [_, _] [_, _] _) (.of_sub (.cons_cons _ (.cons_cons _ (.cons _ (.cons _ (.cons _ (List.Sublist.refl _)))))))) ?_
  -- whole
  ((refine exs_cons ?_; first | (refine ex_assignS ?hs ?_; (case hs => exact swaps_plain (by rfl))) | refine ex_expr (by kernel_rfl) (by rfl) ?_ | refine ex_if ?_ | refine ex_return ?_ | fail "none"))
  refine ev_call (f := .ref 116) (callee_k (by kernel_rfl)) (by kernel_rfl) (ev_global (by kernel_rfl) (by decide +kernel) (by kernel_rfl) ⟨rfl, ?_⟩)
  (repeat' ((first | (with_reducible first | refine ev_bin ?_ | refine ev_int ?_ | refine ev_str ?_ | refine ev_bool ?_ | refine ev_none ?_ | walk_at "name" | walk_at "fn" | refine ev_sub ?_ | refine ev_slice ?_ | refine evo_none ?_ | refine evo_some ?_ | refine ev_tuple ?_ | refine ev_list ?_ | refine evl_nil ?_ | refine op_add ?_ | refine op_sub ?_ | refine op_lt ?_ | refine op_gt ?_ | refine op_le ?_ | refine op_eq ?_ | refine op_ne ?_ | refine op_eq_str ?_ | refine op_ne_str ?_ | refine op_max ?_ | refine op_min ?_ | refine op_abs ?_ | refine op_mod (by first | decide | walk_at "om") ?_ | refine op_div (by first | decide | walk_at "om") (by first | decide | walk_at "om") ?_ | refine op_len_str (by first | decide | walk_at "om") ?_ | refine op_cat (by first | decide | walk_at "om") ?_ | refine truth_bool ?_ | refine tst_cmp (by kernel_rfl) ?_ | refine ev_cmp (by kernel_rfl) ?_ | refine tst_not ?_ | fail "none") | ((with_reducible show EvL _ _ _ _ (_ :: _) _); refine evl_cons ?_) | ((with_reducible show Ev _ _ _ (.Call (.Attribute _ _ _) _ [] _) _); refine ev_meth ?_) | fail "none")))
  refine opN_callT (makeF11 rfl (by omega) (by omega) (by decide +kernel) fun f fd ln x d => ⟨_, _, by ((refine StoreTo.loc (by kernel_rfl) (by (repeat (first | with_reducible exact SetL.here | with_reducible exact SetL.new | (with_reducible apply SetL.there; (focus (dsimp only; decide)))))))), ?_⟩)
  ((refine exs_cons ?_; first | (refine ex_assignS ?hs ?_; (case hs => exact swaps_plain (by rfl))) | refine ex_expr (by kernel_rfl) (by rfl) ?_ | refine ex_if ?_ | refine ex_return ?_ | fail "none"))
  refine ev_meth ?_
  walk_at "name"
  refine meth_fnI (f := 92) IF (by walk_at "has") (by walk_at "has") (by kernel_rfl) (by kernel_rfl) (by kernel_rfl) (by kernel_rfl) (by kernel_rfl) (evl_cons (ev_sub ?_))
  (repeat' ((first | (with_reducible first | refine ev_bin ?_ | refine ev_int ?_ | refine ev_str ?_ | refine ev_bool ?_ | refine ev_none ?_ | walk_at "name" | walk_at "fn" | refine ev_sub ?_ | refine ev_slice ?_ | refine evo_none ?_ | refine evo_some ?_ | refine ev_tuple ?_ | refine ev_list ?_ | refine evl_nil ?_ | refine op_add ?_ | refine op_sub ?_ | refine op_lt ?_ | refine op_gt ?_ | refine op_le ?_ | refine op_eq ?_ | refine op_ne ?_ | refine op_eq_str ?_ | refine op_ne_str ?_ | refine op_max ?_ | refine op_min ?_ | refine op_abs ?_ | refine op_mod (by first | decide | walk_at "om") ?_ | refine op_div (by first | decide | walk_at "om") (by first | decide | walk_at "om") ?_ | refine op_len_str (by first | decide | walk_at "om") ?_ | refine op_cat (by first | decide | walk_at "om") ?_ | refine truth_bool ?_ | refine tst_cmp (by kernel_rfl) ?_ | refine ev_cmp (by kernel_rfl) ?_ | refine tst_not ?_ | fail "none") | ((with_reducible show EvL _ _ _ _ (_ :: _) _); refine evl_cons ?_) | ((with_reducible show Ev _ _ _ (.Call (.Attribute _ _ _) _ [] _) _); refine ev_meth ?_) | fail "none")))
  intro a1
  refine sub_str_slice .here .none (.int _) (by omega) (evl_cons (ev_sub ?_))
  (repeat' ((first | (with_reducible first | refine ev_bin ?_ | refine ev_int ?_ | refine ev_str ?_ | refine ev_bool ?_ | refine ev_none ?_ | walk_at "name" | walk_at "fn" | refine ev_sub ?_ | refine ev_slice ?_ | refine evo_none ?_ | refine evo_some ?_ | refine ev_tuple ?_ | refine ev_list ?_ | refine evl_nil ?_ | refine op_add ?_ | refine op_sub ?_ | refine op_lt ?_ | refine op_gt ?_ | refine op_le ?_ | refine op_eq ?_ | refine op_ne ?_ | refine op_eq_str ?_ | refine op_ne_str ?_ | refine op_max ?_ | refine op_min ?_ | refine op_abs ?_ | refine op_mod (by first | decide | walk_at "om") ?_ | refine op_div (by first | decide | walk_at "om") (by first | decide | walk_at "om") ?_ | refine op_len_str (by first | decide | walk_at "om") ?_ | refine op_cat (by first | decide | walk_at "om") ?_ | refine truth_bool ?_ | refine tst_cmp (by kernel_rfl) ?_ | refine ev_cmp (by kernel_rfl) ?_ | refine tst_not ?_ | fail "none") | ((with_reducible show EvL _ _ _ _ (_ :: _) _); refine evl_cons ?_) | ((with_reducible show Ev _ _ _ (.Call (.Attribute _ _ _) _ [] _) _); refine ev_meth ?_) | fail "none")))
  intro a2
  refine sub_str_slice .here (.int _) .none (by omega) ?_
  (repeat' ((first | (with_reducible first | refine ev_bin ?_ | refine ev_int ?_ | refine ev_str ?_ | refine ev_bool ?_ | refine ev_none ?_ | walk_at "name" | walk_at "fn" | refine ev_sub ?_ | refine ev_slice ?_ | refine evo_none ?_ | refine evo_some ?_ | refine ev_tuple ?_ | refine ev_list ?_ | refine evl_nil ?_ | refine op_add ?_ | refine op_sub ?_ | refine op_lt ?_ | refine op_gt ?_ | refine op_le ?_ | refine op_eq ?_ | refine op_ne ?_ | refine op_eq_str ?_ | refine op_ne_str ?_ | refine op_max ?_ | refine op_min ?_ | refine op_abs ?_ | refine op_mod (by first | decide | walk_at "om") ?_ | refine op_div (by first | decide | walk_at "om") (by first | decide | walk_at "om") ?_ | refine op_len_str (by first | decide | walk_at "om") ?_ | refine op_cat (by first | decide | walk_at "om") ?_ | refine truth_bool ?_ | refine tst_cmp (by kernel_rfl) ?_ | refine ev_cmp (by kernel_rfl) ?_ | refine tst_not ?_ | fail "none") | ((with_reducible show EvL _ _ _ _ (_ :: _) _); refine evl_cons ?_) | ((with_reducible show Ev _ _ _ (.Call (.Attribute _ _ _) _ [] _) _); refine ev_meth ?_) | fail "none")))
  rw [slice_to, slice_from]
  have hab := take_drop_S t c
  have okk : ∀ k, k ≤ (chP zs).length → OkK k (feedAll wd sg ⟨[], head, []⟩ ((chP zs).take k)) := fun k hk => by
    have := feed_ok (wd := wd) (sg := sg) (cs := (chP zs).take k) (okK0 h0 h1) fun p hp => hfit p (List.mem_of_mem_take hp)
    rw [List.length_take, Nat.min_eq_left hk, Nat.zero_add] at this
    exact this
  refine opn_sp (List.Sublist.refl _) (.of_sub (.cons _ (.cons _ (List.Sublist.refl _)))) (opN_callT (feed11 (k := 0) rfl (by omega) (by omega) (okK0 h0 h1) (by rw [hab]; exact htl) (by decide) (by walk_at "has") (by walk_at "has") (by kernel_rfl) fun r => ?_))
  rw [hab, ← ht]
  have hinv := feed_invW (wd := wd) (head := head) (sg := sg) hwl _ (Nat.le_refl _)
  have okS := okk _ (Nat.le_refl _)
  have hall : (chP zs).take (chP zs).length = chP zs := List.take_of_length_le (Nat.le_refl _)
  rw [hall] at hinv okS
  have okn := okS.1
  have hcat := hinv.join hwl okn
  have hhd := hinv.heads okn
  have stn : ∀ k p, (chP zs)[k]? = some p → feedAll wd sg ⟨[], head, []⟩ ((chP zs).take (k + 1)) = (feedAll wd sg ⟨[], head, []⟩ ((chP zs).take k)).add wd sg p := fun k p hp => by
    rw [List.take_add_one, hp]
    exact feed_snoc _ _ _ _ _
  generalize hS : feedAll wd sg ⟨[], head, []⟩ (chP zs) = S at hinv okS okn hcat hhd
  clear hinv okn hab hc hct
  refine exs_sp (own1 := (162, .tab) :: (169, .tab) :: g5 f fd ln x d wd " " sg S ((cl, .list (chR zs)) :: (sc0, .fix o0 (ns.map .int)) :: chO zs)) (loc1 := [("width", .int wd), ("head", .int head), ("signs", .str sg), ("text", .str t), ("chunks", .raw (.ref cl)), ("whole", .raw (.ref f))]) (by (repeat (first | with_reducible exact List.Sublist.refl _ | with_reducible apply List.Sublist.cons_cons | with_reducible apply List.Sublist.cons | exact List.nil_sublist _)))
    (.perm (List.perm_append_comm_assoc [_, _] [_, _, _, _, _] _) (.of_sub (.cons_cons _ (.cons_cons _ (.cons_cons _ (.cons_cons _ (.cons_cons _ (.cons_cons _ (.cons_cons _ (.cons _ (.cons _ (.cons _ (List.Sublist.refl _)))))))))))) ) ?_
  -- single
  ((refine exs_cons ?_; first | (refine ex_assignS ?hs ?_; (case hs => exact swaps_plain (by rfl))) | refine ex_expr (by kernel_rfl) (by rfl) ?_ | refine ex_if ?_ | refine ex_return ?_ | fail "none"))
  refine ev_call (f := .ref 116) (callee_k (by kernel_rfl)) (by kernel_rfl) (ev_global (by kernel_rfl) (by decide +kernel) (by kernel_rfl) ⟨rfl, ?_⟩)
  (repeat' ((first | (with_reducible first | refine ev_bin ?_ | refine ev_int ?_ | refine ev_str ?_ | refine ev_bool ?_ | refine ev_none ?_ | walk_at "name" | walk_at "fn" | refine ev_sub ?_ | refine ev_slice ?_ | refine evo_none ?_ | refine evo_some ?_ | refine ev_tuple ?_ | refine ev_list ?_ | refine evl_nil ?_ | refine op_add ?_ | refine op_sub ?_ | refine op_lt ?_ | refine op_gt ?_ | refine op_le ?_ | refine op_eq ?_ | refine op_ne ?_ | refine op_eq_str ?_ | refine op_ne_str ?_ | refine op_max ?_ | refine op_min ?_ | refine op_abs ?_ | refine op_mod (by first | decide | walk_at "om") ?_ | refine op_div (by first | decide | walk_at "om") (by first | decide | walk_at "om") ?_ | refine op_len_str (by first | decide | walk_at "om") ?_ | refine op_cat (by first | decide | walk_at "om") ?_ | refine truth_bool ?_ | refine tst_cmp (by kernel_rfl) ?_ | refine ev_cmp (by kernel_rfl) ?_ | refine tst_not ?_ | fail "none") | ((with_reducible show EvL _ _ _ _ (_ :: _) _); refine evl_cons ?_) | ((with_reducible show Ev _ _ _ (.Call (.Attribute _ _ _) _ [] _) _); refine ev_meth ?_) | fail "none")))
  refine opN_callT (makeF11 rfl (by omega) (by omega) (by decide +kernel) fun g gd gln gx gxd => ⟨_, _, by ((refine StoreTo.loc (by kernel_rfl) (by (repeat (first | with_reducible exact SetL.here | with_reducible exact SetL.new | (with_reducible apply SetL.there; (focus (dsimp only; decide)))))))), ?_⟩)
  refine exs_cons (ex_forI rfl (fun _ => rfl) (it_list ?_))
  (repeat' ((first | (with_reducible first | refine ev_bin ?_ | refine ev_int ?_ | refine ev_str ?_ | refine ev_bool ?_ | refine ev_none ?_ | walk_at "name" | walk_at "fn" | refine ev_sub ?_ | refine ev_slice ?_ | refine evo_none ?_ | refine evo_some ?_ | refine ev_tuple ?_ | refine ev_list ?_ | refine evl_nil ?_ | refine op_add ?_ | refine op_sub ?_ | refine op_lt ?_ | refine op_gt ?_ | refine op_le ?_ | refine op_eq ?_ | refine op_ne ?_ | refine op_eq_str ?_ | refine op_ne_str ?_ | refine op_max ?_ | refine op_min ?_ | refine op_abs ?_ | refine op_mod (by first | decide | walk_at "om") ?_ | refine op_div (by first | decide | walk_at "om") (by first | decide | walk_at "om") ?_ | refine op_len_str (by first | decide | walk_at "om") ?_ | refine op_cat (by first | decide | walk_at "om") ?_ | refine truth_bool ?_ | refine tst_cmp (by kernel_rfl) ?_ | refine ev_cmp (by kernel_rfl) ?_ | refine tst_not ?_ | fail "none") | ((with_reducible show EvL _ _ _ _ (_ :: _) _); refine evl_cons ?_) | ((with_reducible show Ev _ _ _ (.Call (.Attribute _ _ _) _ [] _) _); refine ev_meth ?_) | fail "none")))
  refine ⟨cl, chR zs, rfl, by walk_at "has", fun k loc own => ([("width", .int wd), ("head", .int head), ("text", .str t), ("chunks", .raw (.ref cl)), ("whole", .raw (.ref f)), ("single", .raw (.ref g))] : Loc).Sublist loc ∧ own = fo11 g gd gln gx gxd wd "\t" sg (feedAll wd sg ⟨[], head, []⟩ ((chP zs).take k)) (g5 f fd ln x d wd " " sg S ((cl, .list (chR zs)) :: (sc0, .fix o0 (ns.map .int)) :: chO zs)), ⟨by (repeat (first | with_reducible exact List.Sublist.refl _ | with_reducible apply List.Sublist.cons_cons | with_reducible apply List.Sublist.cons | exact List.nil_sublist _)), rfl⟩, ?_, ?_, ?_⟩
  · rintro k loc own ⟨_, rfl⟩
    walk_at "has"
  · rintro k dv loc own hd ⟨sl, rfl⟩
    rw [List.getElem?_map] at hd
    cases hq : zs[k]? with
    | none => rw [hq] at hd; cases hd
    | some q =>
      rw [hq] at hd; cases hd
      have hkl := (List.getElem?_eq_some_iff.mp hq).1
      have hpk : (chP zs)[k]? = some q.2 := by rw [List.getElem?_map, hq]; rfl
      have hqf := hfit _ (List.mem_of_getElem? hpk)
      intro _
      refine as_sub sl (List.Sublist.refl _) ?_
      refine as_tuple_list (ds := [.str q.2.1, .str q.2.2]) (.of_mem (List.mem_append_right [_, _, _, _, _, _, _, _, _, _, _, _, _, _] (chO_has (List.mem_of_getElem? hq)))) (by kernel_rfl) rfl ?_
      refine as_name (by kernel_rfl) (by (repeat (first | with_reducible exact SetL.here | with_reducible exact SetL.new | (with_reducible apply SetL.there; (focus (dsimp only; decide)))))) (as_name (by kernel_rfl) (by (repeat (first | with_reducible exact SetL.here | with_reducible exact SetL.new | (with_reducible apply SetL.there; (focus (dsimp only; decide)))))) ?_)
      ((refine exs_cons ?_; first | (refine ex_assignS ?hs ?_; (case hs => exact swaps_plain (by rfl))) | refine ex_expr (by kernel_rfl) (by rfl) ?_ | refine ex_if ?_ | refine ex_return ?_ | fail "none"))
      refine ev_meth ?_
      walk_at "name"
      refine meth_fnI (f := 113) IF (by walk_at "has") (by walk_at "has") (by kernel_rfl) (by kernel_rfl) (by kernel_rfl) (by kernel_rfl) (by kernel_rfl) ?_
      (repeat' ((first | (with_reducible first | refine ev_bin ?_ | refine ev_int ?_ | refine ev_str ?_ | refine ev_bool ?_ | refine ev_none ?_ | walk_at "name" | walk_at "fn" | refine ev_sub ?_ | refine ev_slice ?_ | refine evo_none ?_ | refine evo_some ?_ | refine ev_tuple ?_ | refine ev_list ?_ | refine evl_nil ?_ | refine op_add ?_ | refine op_sub ?_ | refine op_lt ?_ | refine op_gt ?_ | refine op_le ?_ | refine op_eq ?_ | refine op_ne ?_ | refine op_eq_str ?_ | refine op_ne_str ?_ | refine op_max ?_ | refine op_min ?_ | refine op_abs ?_ | refine op_mod (by first | decide | walk_at "om") ?_ | refine op_div (by first | decide | walk_at "om") (by first | decide | walk_at "om") ?_ | refine op_len_str (by first | decide | walk_at "om") ?_ | refine op_cat (by first | decide | walk_at "om") ?_ | refine truth_bool ?_ | refine tst_cmp (by kernel_rfl) ?_ | refine ev_cmp (by kernel_rfl) ?_ | refine tst_not ?_ | fail "none") | ((with_reducible show EvL _ _ _ _ (_ :: _) _); refine evl_cons ?_) | ((with_reducible show Ev _ _ _ (.Call (.Attribute _ _ _) _ [] _) _); refine ev_meth ?_) | fail "none")))
      refine opN_callT (append11 (p := q.2) rfl (by show callerA.depth + 1 ≤ 500; decide) (by show callerA.units + 3 ≤ 5000; decide) ((okk k (by omega)).ok (by omega)) hqf ?_)
      refine exs_nil ⟨by (repeat (first | with_reducible exact List.Sublist.refl _ | with_reducible apply List.Sublist.cons_cons | with_reducible apply List.Sublist.cons | exact List.nil_sublist _)), ?_⟩
      rw [stn k _ hpk]
  rintro loc own ⟨sl, rfl⟩
  rw [chR_len, ← hzl, hall, hS]
  refine exs_nil (exs_sp sl swap11 ?_)
  exact end11 okS (by omega) hcat hhd (by omega) hfit htx htl

open PySem PySem.W PySem.Builtin PySem.Builtin.ObjectAttr
open PyProof.Rows hiding wpAt wpAt_bind
set_option linter.unusedSectionVars false
set_option maxRecDepth 100000
set_option maxHeartbeats 1000000
set_option linter.unusedVariables false
variable {P : PySem.Params} {w : World} {L fa : Addr} {cdv : Value}
noncomputable def menuG : List Str := [" ", ";, \t", ",\t", "", "a"]
theorem menuG_len (j : Nat) : (menuG.getD j "").length ≤ 10 := by
  have : ∀ x ∈ menuG, x.length ≤ 10 := by decide +kernel
  rw [List.getD_eq_getElem?_getD]
  cases h : menuG[j]? with
  | none => decide +kernel
  | some x => exact this x (List.mem_of_getElem? h)
theorem mul_le5 (c : Str) (hc : c = "a" ∨ c = " ") (j : Int) (h0 : 0 ≤ j) (h1 : j ≤ 5) : (Txt.mul c j).length ≤ 5 := by
  have ha : ∀ j : Fin 6, (Txt.mul "a" ((j : Nat) : Int)).length ≤ 5 := by decide +kernel
  have hb : ∀ j : Fin 6, (Txt.mul " " ((j : Nat) : Int)).length ≤ 5 := by decide +kernel
  obtain ⟨n, rfl⟩ := Int.eq_ofNat_of_zero_le h0
  rcases hc with rfl | rfl
  · exact ha ⟨n, by omega⟩
  · exact hb ⟨n, by omega⟩
theorem sub_str1 {Γ : Fm} {loc : Loc} {own : Own} {Q : QV} {value slice : PySem.Expr} {x : Str} {i : Int} (hs : notSlice slice = true) (ht : ∀ t r, letTemporaryGo value (.str x t) r = pure ()) (h1 : -(x.length : Int) ≤ i) (h2 : i < x.length) (hx : x.length ≤ 1000000) (q : ∀ z : Str, z.length = 1 → Q (.str z) loc own) :
    Sub Γ loc own value slice (.str x) (.int i) Q := sub_str hs ht h1 h2 hx (q _ rfl)
theorem two_is {ms : List Int} {k : Nat} (h : k < ms.length) : ∃ a b, (((ms.drop k).take 2) ++ [0]).take 2 = [a, b] := by
  have hl : ((((ms.drop k).take 2) ++ [0]).take 2).length = 2 := by
    simp
    omega
  exact len2 hl
theorem pick2 {ms : List Int} {k : Nat} (h : k < ms.length) : pickL (ms.map Dv.int) (some ((k : Nat) : Int)) (some (((k : Nat) : Int) + 2)) none = ((ms.drop k).take 2).map Dv.int := by
  rw [show ((k : Nat) : Int) + 2 = ((k + 2 : Nat) : Int) by omega, pickL_plain]
  show List.take (clipAt _ _ - clipAt _ _) (List.drop (clipAt _ _) _) = _
  rw [clipAt_nat, clipAt_nat, List.length_map, Nat.min_eq_left (show k ≤ ms.length by omega), List.map_take, List.map_drop]
  rw [List.take_eq_take_iff]
  simp only [List.length_take, List.length_drop, List.length_map]
  omega
theorem law11 {sc0 : Addr} {o0 : Obj} {ns : List Int} (hns : ns.length ≤ 100000) :
    Exs (lf11 w P L fa cdv) [("script", .raw (.ref sc0))] [(162, .tab), (169, .tab), (sc0, .fix o0 (ns.map .int))] (bodyOf (fnOf (K11 P) 214))
      (fun fl loc own => fl = .ret (.bool true) ∧ (∀ p ∈ [((166 : Addr), (162 : Addr)), (173, 169)], (p.2, AObj.tab) ∈ own) ∧ (sc0, AObj.fix o0 (ns.map .int)) ∈ own) := by
  have e1 : (lf11 w P L fa cdv).A.depth ≤ 390 := by show callerA.depth + 1 ≤ 390; decide
  have e2 : (lf11 w P L fa cdv).A.units ≤ 10 := by show callerA.units + 3 ≤ 10; decide
  -- script
  ((refine exs_cons ?_; first | (refine ex_assignS ?hs ?_; (case hs => exact swaps_plain (by rfl))) | refine ex_expr (by kernel_rfl) (by rfl) ?_ | refine ex_if ?_ | refine ex_return ?_ | fail "none"))
  (repeat' ((first | (with_reducible first | refine ev_bin ?_ | refine ev_int ?_ | refine ev_str ?_ | refine ev_bool ?_ | refine ev_none ?_ | walk_at "name" | walk_at "fn" | refine ev_sub ?_ | refine ev_slice ?_ | refine evo_none ?_ | refine evo_some ?_ | refine ev_tuple ?_ | refine ev_list ?_ | refine evl_nil ?_ | refine op_add ?_ | refine op_sub ?_ | refine op_lt ?_ | refine op_gt ?_ | refine op_le ?_ | refine op_eq ?_ | refine op_ne ?_ | refine op_eq_str ?_ | refine op_ne_str ?_ | refine op_max ?_ | refine op_min ?_ | refine op_abs ?_ | refine op_mod (by first | decide | walk_at "om") ?_ | refine op_div (by first | decide | walk_at "om") (by first | decide | walk_at "om") ?_ | refine op_len_str (by first | decide | walk_at "om") ?_ | refine op_cat (by first | decide | walk_at "om") ?_ | refine truth_bool ?_ | refine tst_cmp (by kernel_rfl) ?_ | refine ev_cmp (by kernel_rfl) ?_ | refine tst_not ?_ | fail "none") | ((with_reducible show EvL _ _ _ _ (_ :: _) _); refine evl_cons ?_) | ((with_reducible show Ev _ _ _ (.Call (.Attribute _ _ _) _ [] _) _); refine ev_meth ?_) | fail "none")))
  intro s1
  refine sub_fix_slice (ds := ns.map .int) (by walk_at "has") .here .none (.int _) .none (by decide) (by simp; omega) fun l1 => ?_
  rw [show (63 : Int) = ((63 : Nat) : Int) from rfl, pickL_upto, ← List.map_take]
  refine ⟨_, _, by ((refine StoreTo.loc (by kernel_rfl) (by (repeat (first | with_reducible exact SetL.here | with_reducible exact SetL.new | (with_reducible apply SetL.there; (focus (dsimp only; decide)))))))), ?_⟩
  have hms : (ns.take 63).length ≤ 63 := by rw [List.length_take]; omega
  generalize ns.take 63 = ms at hms
  -- first
  ((refine exs_cons ?_; first | (refine ex_assignS ?hs ?_; (case hs => exact swaps_plain (by rfl))) | refine ex_expr (by kernel_rfl) (by rfl) ?_ | refine ex_if ?_ | refine ex_return ?_ | fail "none"))
  refine ev_sub (ev_bin ?_)
  (repeat' (first | (first | (with_reducible first | refine ev_bin ?_ | refine ev_int ?_ | refine ev_str ?_ | refine ev_bool ?_ | refine ev_none ?_ | walk_at "name" | walk_at "fn" | refine ev_sub ?_ | refine ev_slice ?_ | refine evo_none ?_ | refine evo_some ?_ | refine ev_tuple ?_ | refine ev_list ?_ | refine evl_nil ?_ | refine op_add ?_ | refine op_sub ?_ | refine op_lt ?_ | refine op_gt ?_ | refine op_le ?_ | refine op_eq ?_ | refine op_ne ?_ | refine op_eq_str ?_ | refine op_ne_str ?_ | refine op_max ?_ | refine op_min ?_ | refine op_abs ?_ | refine op_mod (by first | decide | walk_at "om") ?_ | refine op_div (by first | decide | walk_at "om") (by first | decide | walk_at "om") ?_ | refine op_len_str (by first | decide | walk_at "om") ?_ | refine op_cat (by first | decide | walk_at "om") ?_ | refine truth_bool ?_ | refine tst_cmp (by kernel_rfl) ?_ | refine ev_cmp (by kernel_rfl) ?_ | refine tst_not ?_ | fail "none") | ((with_reducible show EvL _ _ _ _ (_ :: _) _); refine evl_cons ?_) | ((with_reducible show Ev _ _ _ (.Call (.Attribute _ _ _) _ [] _) _); refine ev_meth ?_) | fail "none") | ((with_reducible show List.length _ ≤ 1000 ∧ _); refine And.intro (Nat.le_of_ble_eq_true rfl) ?_) | fail "none"))
  intro l2
  refine op_cat_list (ds := ms.map .int) (es := [.int 0]) (by walk_at "has") .here (by simp; omega) fun l3 => ?_
  rw [show ms.map Dv.int ++ [Dv.int 0] = (ms ++ [0]).map Dv.int by simp]
  obtain ⟨first, gf, gf'⟩ := pick_int (l := ms ++ [0]) (k := 0) (Int.le_refl 0) (by simp)
  (repeat' ((first | (with_reducible first | refine ev_bin ?_ | refine ev_int ?_ | refine ev_str ?_ | refine ev_bool ?_ | refine ev_none ?_ | walk_at "name" | walk_at "fn" | refine ev_sub ?_ | refine ev_slice ?_ | refine evo_none ?_ | refine evo_some ?_ | refine ev_tuple ?_ | refine ev_list ?_ | refine evl_nil ?_ | refine op_add ?_ | refine op_sub ?_ | refine op_lt ?_ | refine op_gt ?_ | refine op_le ?_ | refine op_eq ?_ | refine op_ne ?_ | refine op_eq_str ?_ | refine op_ne_str ?_ | refine op_max ?_ | refine op_min ?_ | refine op_abs ?_ | refine op_mod (by first | decide | walk_at "om") ?_ | refine op_div (by first | decide | walk_at "om") (by first | decide | walk_at "om") ?_ | refine op_len_str (by first | decide | walk_at "om") ?_ | refine op_cat (by first | decide | walk_at "om") ?_ | refine truth_bool ?_ | refine tst_cmp (by kernel_rfl) ?_ | refine ev_cmp (by kernel_rfl) ?_ | refine tst_not ?_ | fail "none") | ((with_reducible show EvL _ _ _ _ (_ :: _) _); refine evl_cons ?_) | ((with_reducible show Ev _ _ _ (.Call (.Attribute _ _ _) _ [] _) _); refine ev_meth ?_) | fail "none")))
  refine sub_list (ds := (ms ++ [0]).map .int) .here (by kernel_rfl) (Int.le_refl 0) gf' (by simp; omega) ?_
  refine ⟨_, _, by ((refine StoreTo.loc (by kernel_rfl) (by (repeat (first | with_reducible exact SetL.here | with_reducible exact SetL.new | (with_reducible apply SetL.there; (focus (dsimp only; decide)))))))), ?_⟩
  refine exs_sp (own1 := [(162, .tab), (169, .tab), (sc0, .fix o0 (ns.map .int)), (l1, .list (ms.map .int))]) (List.Sublist.refl _) (.perm (List.perm_append_singleton _ [_, _, _]) (.of_sub (.cons _ (.cons _ (.cons_cons _ (.cons _ (.cons_cons _ (.cons_cons _ (.cons_cons _ (List.nil_sublist _)))))))))) ?_
  -- width, head
  ((refine exs_cons ?_; first | (refine ex_assignS ?hs ?_; (case hs => exact swaps_plain (by rfl))) | refine ex_expr (by kernel_rfl) (by rfl) ?_ | refine ex_if ?_ | refine ex_return ?_ | fail "none"))
  (repeat' ((first | (with_reducible first | refine ev_bin ?_ | refine ev_int ?_ | refine ev_str ?_ | refine ev_bool ?_ | refine ev_none ?_ | walk_at "name" | walk_at "fn" | refine ev_sub ?_ | refine ev_slice ?_ | refine evo_none ?_ | refine evo_some ?_ | refine ev_tuple ?_ | refine ev_list ?_ | refine evl_nil ?_ | refine op_add ?_ | refine op_sub ?_ | refine op_lt ?_ | refine op_gt ?_ | refine op_le ?_ | refine op_eq ?_ | refine op_ne ?_ | refine op_eq_str ?_ | refine op_ne_str ?_ | refine op_max ?_ | refine op_min ?_ | refine op_abs ?_ | refine op_mod (by first | decide | walk_at "om") ?_ | refine op_div (by first | decide | walk_at "om") (by first | decide | walk_at "om") ?_ | refine op_len_str (by first | decide | walk_at "om") ?_ | refine op_cat (by first | decide | walk_at "om") ?_ | refine truth_bool ?_ | refine tst_cmp (by kernel_rfl) ?_ | refine ev_cmp (by kernel_rfl) ?_ | refine tst_not ?_ | fail "none") | ((with_reducible show EvL _ _ _ _ (_ :: _) _); refine evl_cons ?_) | ((with_reducible show Ev _ _ _ (.Call (.Attribute _ _ _) _ [] _) _); refine ev_meth ?_) | fail "none")))
  refine ⟨_, _, by ((refine StoreTo.loc (by kernel_rfl) (by (repeat (first | with_reducible exact SetL.here | with_reducible exact SetL.new | (with_reducible apply SetL.there; (focus (dsimp only; decide)))))))), ?_⟩
  ((refine exs_cons ?_; first | (refine ex_assignS ?hs ?_; (case hs => exact swaps_plain (by rfl))) | refine ex_expr (by kernel_rfl) (by rfl) ?_ | refine ex_if ?_ | refine ex_return ?_ | fail "none"))
  (repeat' ((first | (with_reducible first | refine ev_bin ?_ | refine ev_int ?_ | refine ev_str ?_ | refine ev_bool ?_ | refine ev_none ?_ | walk_at "name" | walk_at "fn" | refine ev_sub ?_ | refine ev_slice ?_ | refine evo_none ?_ | refine evo_some ?_ | refine ev_tuple ?_ | refine ev_list ?_ | refine evl_nil ?_ | refine op_add ?_ | refine op_sub ?_ | refine op_lt ?_ | refine op_gt ?_ | refine op_le ?_ | refine op_eq ?_ | refine op_ne ?_ | refine op_eq_str ?_ | refine op_ne_str ?_ | refine op_max ?_ | refine op_min ?_ | refine op_abs ?_ | refine op_mod (by first | decide | walk_at "om") ?_ | refine op_div (by first | decide | walk_at "om") (by first | decide | walk_at "om") ?_ | refine op_len_str (by first | decide | walk_at "om") ?_ | refine op_cat (by first | decide | walk_at "om") ?_ | refine truth_bool ?_ | refine tst_cmp (by kernel_rfl) ?_ | refine ev_cmp (by kernel_rfl) ?_ | refine tst_not ?_ | fail "none") | ((with_reducible show EvL _ _ _ _ (_ :: _) _); refine evl_cons ?_) | ((with_reducible show Ev _ _ _ (.Call (.Attribute _ _ _) _ [] _) _); refine ev_meth ?_) | fail "none")))
  refine op_mul (IntMulOk.of_right (by decide)) ?_
  refine ⟨_, _, by ((refine StoreTo.loc (by kernel_rfl) (by (repeat (first | with_reducible exact SetL.here | with_reducible exact SetL.new | (with_reducible apply SetL.there; (focus (dsimp only; decide)))))))), ?_⟩
  have h0 : 0 ≤ first / 13 % 3 * 5 := by have := Int.emod_nonneg (first / 13) (show (3 : Int) ≠ 0 by decide); omega
  have h1 : first / 13 % 3 * 5 ≤ 1000 := by have := Int.emod_lt_of_pos (first / 13) (show (0 : Int) < 3 by decide); omega
  generalize first / 13 % 3 * 5 = head at h0 h1
  generalize first % 13 = wd
  -- signs
  ((refine exs_cons ?_; first | (refine ex_assignS ?hs ?_; (case hs => exact swaps_plain (by rfl))) | refine ex_expr (by kernel_rfl) (by rfl) ?_ | refine ex_if ?_ | refine ex_return ?_ | fail "none"))
  (repeat' (first | (first | (with_reducible first | refine ev_bin ?_ | refine ev_int ?_ | refine ev_str ?_ | refine ev_bool ?_ | refine ev_none ?_ | walk_at "name" | walk_at "fn" | refine ev_sub ?_ | refine ev_slice ?_ | refine evo_none ?_ | refine evo_some ?_ | refine ev_tuple ?_ | refine ev_list ?_ | refine evl_nil ?_ | refine op_add ?_ | refine op_sub ?_ | refine op_lt ?_ | refine op_gt ?_ | refine op_le ?_ | refine op_eq ?_ | refine op_ne ?_ | refine op_eq_str ?_ | refine op_ne_str ?_ | refine op_max ?_ | refine op_min ?_ | refine op_abs ?_ | refine op_mod (by first | decide | walk_at "om") ?_ | refine op_div (by first | decide | walk_at "om") (by first | decide | walk_at "om") ?_ | refine op_len_str (by first | decide | walk_at "om") ?_ | refine op_cat (by first | decide | walk_at "om") ?_ | refine truth_bool ?_ | refine tst_cmp (by kernel_rfl) ?_ | refine ev_cmp (by kernel_rfl) ?_ | refine tst_not ?_ | fail "none") | ((with_reducible show EvL _ _ _ _ (_ :: _) _); refine evl_cons ?_) | ((with_reducible show Ev _ _ _ (.Call (.Attribute _ _ _) _ [] _) _); refine ev_meth ?_) | fail "none") | ((with_reducible show List.length _ ≤ 1000 ∧ _); refine And.intro (Nat.le_of_ble_eq_true rfl) ?_) | fail "none"))
  intro l4
  (repeat' ((first | (with_reducible first | refine ev_bin ?_ | refine ev_int ?_ | refine ev_str ?_ | refine ev_bool ?_ | refine ev_none ?_ | walk_at "name" | walk_at "fn" | refine ev_sub ?_ | refine ev_slice ?_ | refine evo_none ?_ | refine evo_some ?_ | refine ev_tuple ?_ | refine ev_list ?_ | refine evl_nil ?_ | refine op_add ?_ | refine op_sub ?_ | refine op_lt ?_ | refine op_gt ?_ | refine op_le ?_ | refine op_eq ?_ | refine op_ne ?_ | refine op_eq_str ?_ | refine op_ne_str ?_ | refine op_max ?_ | refine op_min ?_ | refine op_abs ?_ | refine op_mod (by first | decide | walk_at "om") ?_ | refine op_div (by first | decide | walk_at "om") (by first | decide | walk_at "om") ?_ | refine op_len_str (by first | decide | walk_at "om") ?_ | refine op_cat (by first | decide | walk_at "om") ?_ | refine truth_bool ?_ | refine tst_cmp (by kernel_rfl) ?_ | refine ev_cmp (by kernel_rfl) ?_ | refine tst_not ?_ | fail "none") | ((with_reducible show EvL _ _ _ _ (_ :: _) _); refine evl_cons ?_) | ((with_reducible show Ev _ _ _ (.Call (.Attribute _ _ _) _ [] _) _); refine ev_meth ?_) | fail "none")))
  have a0 := Int.emod_nonneg (first / 39) (show (5 : Int) ≠ 0 by decide)
  have a1 := Int.emod_lt_of_pos (first / 39) (show (0 : Int) < 5 by decide)
  have gs : (menuG.map Dv.str)[(first / 39 % 5).toNat]? = some (.str (menuG.getD (first / 39 % 5).toNat "")) := by
    have h : (first / 39 % 5).toNat < menuG.length := by show _ < 5; omega
    rw [List.getElem?_map, List.getElem?_eq_getElem h, List.getD_eq_getElem?_getD, List.getElem?_eq_getElem h]; rfl
  have hsg := menuG_len (first / 39 % 5).toNat
  refine sub_list (ds := menuG.map .str) .here (by kernel_rfl) a0 gs (Nat.le_of_ble_eq_true rfl) ?_
  generalize menuG.getD (first / 39 % 5).toNat "" = sg at hsg
  refine ⟨_, _, by ((refine StoreTo.loc (by kernel_rfl) (by (repeat (first | with_reducible exact SetL.here | with_reducible exact SetL.new | (with_reducible apply SetL.there; (focus (dsimp only; decide)))))))), ?_⟩
  -- text
  ((refine exs_cons ?_; first | (refine ex_assignS ?hs ?_; (case hs => exact swaps_plain (by rfl))) | refine ex_expr (by kernel_rfl) (by rfl) ?_ | refine ex_if ?_ | refine ex_return ?_ | fail "none"))
  (repeat' ((first | (with_reducible first | refine ev_bin ?_ | refine ev_int ?_ | refine ev_str ?_ | refine ev_bool ?_ | refine ev_none ?_ | walk_at "name" | walk_at "fn" | refine ev_sub ?_ | refine ev_slice ?_ | refine evo_none ?_ | refine evo_some ?_ | refine ev_tuple ?_ | refine ev_list ?_ | refine evl_nil ?_ | refine op_add ?_ | refine op_sub ?_ | refine op_lt ?_ | refine op_gt ?_ | refine op_le ?_ | refine op_eq ?_ | refine op_ne ?_ | refine op_eq_str ?_ | refine op_ne_str ?_ | refine op_max ?_ | refine op_min ?_ | refine op_abs ?_ | refine op_mod (by first | decide | walk_at "om") ?_ | refine op_div (by first | decide | walk_at "om") (by first | decide | walk_at "om") ?_ | refine op_len_str (by first | decide | walk_at "om") ?_ | refine op_cat (by first | decide | walk_at "om") ?_ | refine truth_bool ?_ | refine tst_cmp (by kernel_rfl) ?_ | refine ev_cmp (by kernel_rfl) ?_ | refine tst_not ?_ | fail "none") | ((with_reducible show EvL _ _ _ _ (_ :: _) _); refine evl_cons ?_) | ((with_reducible show Ev _ _ _ (.Call (.Attribute _ _ _) _ [] _) _); refine ev_meth ?_) | fail "none")))
  refine ⟨_, _, by ((refine StoreTo.loc (by kernel_rfl) (by (repeat (first | with_reducible exact SetL.here | with_reducible exact SetL.new | (with_reducible apply SetL.there; (focus (dsimp only; decide)))))))), ?_⟩
  obtain ⟨n, r1, hn, hb, r2, r3⟩ := range_by2 (b := ms.length) (by omega)
  refine exs_cons (ex_forI rfl (fun _ => rfl) (it_call (f := .type "range") callee_t (by kernel_rfl) ?_))
  walk_at "name"
  refine ⟨rfl, ?_⟩
  (repeat' ((first | (with_reducible first | refine ev_bin ?_ | refine ev_int ?_ | refine ev_str ?_ | refine ev_bool ?_ | refine ev_none ?_ | walk_at "name" | walk_at "fn" | refine ev_sub ?_ | refine ev_slice ?_ | refine evo_none ?_ | refine evo_some ?_ | refine ev_tuple ?_ | refine ev_list ?_ | refine evl_nil ?_ | refine op_add ?_ | refine op_sub ?_ | refine op_lt ?_ | refine op_gt ?_ | refine op_le ?_ | refine op_eq ?_ | refine op_ne ?_ | refine op_eq_str ?_ | refine op_ne_str ?_ | refine op_max ?_ | refine op_min ?_ | refine op_abs ?_ | refine op_mod (by first | decide | walk_at "om") ?_ | refine op_div (by first | decide | walk_at "om") (by first | decide | walk_at "om") ?_ | refine op_len_str (by first | decide | walk_at "om") ?_ | refine op_cat (by first | decide | walk_at "om") ?_ | refine truth_bool ?_ | refine tst_cmp (by kernel_rfl) ?_ | refine ev_cmp (by kernel_rfl) ?_ | refine tst_not ?_ | fail "none") | ((with_reducible show EvL _ _ _ _ (_ :: _) _); refine evl_cons ?_) | ((with_reducible show Ev _ _ _ (.Call (.Attribute _ _ _) _ [] _) _); refine ev_meth ?_) | fail "none")))
  refine op_len_list (ds := ms.map .int) (by walk_at "has") (by simp; omega) ?_
  (repeat' ((first | (with_reducible first | refine ev_bin ?_ | refine ev_int ?_ | refine ev_str ?_ | refine ev_bool ?_ | refine ev_none ?_ | walk_at "name" | walk_at "fn" | refine ev_sub ?_ | refine ev_slice ?_ | refine evo_none ?_ | refine evo_some ?_ | refine ev_tuple ?_ | refine ev_list ?_ | refine evl_nil ?_ | refine op_add ?_ | refine op_sub ?_ | refine op_lt ?_ | refine op_gt ?_ | refine op_le ?_ | refine op_eq ?_ | refine op_ne ?_ | refine op_eq_str ?_ | refine op_ne_str ?_ | refine op_max ?_ | refine op_min ?_ | refine op_abs ?_ | refine op_mod (by first | decide | walk_at "om") ?_ | refine op_div (by first | decide | walk_at "om") (by first | decide | walk_at "om") ?_ | refine op_len_str (by first | decide | walk_at "om") ?_ | refine op_cat (by first | decide | walk_at "om") ?_ | refine truth_bool ?_ | refine tst_cmp (by kernel_rfl) ?_ | refine ev_cmp (by kernel_rfl) ?_ | refine tst_not ?_ | fail "none") | ((with_reducible show EvL _ _ _ _ (_ :: _) _); refine evl_cons ?_) | ((with_reducible show Ev _ _ _ (.Call (.Attribute _ _ _) _ [] _) _); refine ev_meth ?_) | fail "none")))
  rw [List.length_map]
  refine itop_range (by decide) r1 r2 r3 ?_
  refine ⟨fun k loc own => ∃ t : Str, t.length ≤ 5 * k ∧ ([("script", .raw (.ref l1)), ("first", .int first), ("width", .int wd), ("head", .int head), ("signs", .str sg), ("text", .str t)] : Loc).Sublist loc ∧ Sp [(162, .tab), (169, .tab), (sc0, .fix o0 (ns.map .int)), (l1, .list (ms.map .int))] own,
    ⟨"", Nat.zero_le _, List.Sublist.refl _, .of_sub (.cons _ (List.Sublist.refl _))⟩, fun _ _ _ _ => trivial, ?_, ?_⟩
  · rintro k dv loc own hd ⟨t, ht, sl, so⟩
    obtain ⟨hk, rfl⟩ := rangeD_get hd
    have hkm := hb k hk
    rw [show (1 + (k : Int) * 2) = ((1 + 2 * k : Nat) : Int) by omega]
    generalize 1 + 2 * k = i at hkm
    intro _
    refine as_sp sl so (as_name (by kernel_rfl) (by (repeat (first | with_reducible exact SetL.here | with_reducible exact SetL.new | (with_reducible apply SetL.there; (focus (dsimp only; decide)))))) ?_)
    obtain ⟨a, b, h2⟩ := two_is hkm
    -- a, b
    refine exs_cons (ex_assign1 (by rfl) (ev_sub (ev_bin (ev_sub ?_))))
    (repeat' ((first | (with_reducible first | refine ev_bin ?_ | refine ev_int ?_ | refine ev_str ?_ | refine ev_bool ?_ | refine ev_none ?_ | walk_at "name" | walk_at "fn" | refine ev_sub ?_ | refine ev_slice ?_ | refine evo_none ?_ | refine evo_some ?_ | refine ev_tuple ?_ | refine ev_list ?_ | refine evl_nil ?_ | refine op_add ?_ | refine op_sub ?_ | refine op_lt ?_ | refine op_gt ?_ | refine op_le ?_ | refine op_eq ?_ | refine op_ne ?_ | refine op_eq_str ?_ | refine op_ne_str ?_ | refine op_max ?_ | refine op_min ?_ | refine op_abs ?_ | refine op_mod (by first | decide | walk_at "om") ?_ | refine op_div (by first | decide | walk_at "om") (by first | decide | walk_at "om") ?_ | refine op_len_str (by first | decide | walk_at "om") ?_ | refine op_cat (by first | decide | walk_at "om") ?_ | refine truth_bool ?_ | refine tst_cmp (by kernel_rfl) ?_ | refine ev_cmp (by kernel_rfl) ?_ | refine tst_not ?_ | fail "none") | ((with_reducible show EvL _ _ _ _ (_ :: _) _); refine evl_cons ?_) | ((with_reducible show Ev _ _ _ (.Call (.Attribute _ _ _) _ [] _) _); refine ev_meth ?_) | fail "none")))
    intro s1
    refine sub_list_slice (ds := ms.map .int) (by walk_at "has") .here (.int _) (.int _) .none (by decide) (by simp; omega) fun l5 => ?_
    (repeat' (first | (first | (with_reducible first | refine ev_bin ?_ | refine ev_int ?_ | refine ev_str ?_ | refine ev_bool ?_ | refine ev_none ?_ | walk_at "name" | walk_at "fn" | refine ev_sub ?_ | refine ev_slice ?_ | refine evo_none ?_ | refine evo_some ?_ | refine ev_tuple ?_ | refine ev_list ?_ | refine evl_nil ?_ | refine op_add ?_ | refine op_sub ?_ | refine op_lt ?_ | refine op_gt ?_ | refine op_le ?_ | refine op_eq ?_ | refine op_ne ?_ | refine op_eq_str ?_ | refine op_ne_str ?_ | refine op_max ?_ | refine op_min ?_ | refine op_abs ?_ | refine op_mod (by first | decide | walk_at "om") ?_ | refine op_div (by first | decide | walk_at "om") (by first | decide | walk_at "om") ?_ | refine op_len_str (by first | decide | walk_at "om") ?_ | refine op_cat (by first | decide | walk_at "om") ?_ | refine truth_bool ?_ | refine tst_cmp (by kernel_rfl) ?_ | refine ev_cmp (by kernel_rfl) ?_ | refine tst_not ?_ | fail "none") | ((with_reducible show EvL _ _ _ _ (_ :: _) _); refine evl_cons ?_) | ((with_reducible show Ev _ _ _ (.Call (.Attribute _ _ _) _ [] _) _); refine ev_meth ?_) | fail "none") | ((with_reducible show List.length _ ≤ 1000 ∧ _); refine And.intro (Nat.le_of_ble_eq_true rfl) ?_) | fail "none"))
    intro l6
    rw [pick2 hkm]
    refine op_cat_list (.there .here) .here (by simp; omega) fun l7 => ?_
    rw [show ((ms.drop i).take 2).map Dv.int ++ [Dv.int 0] = (((ms.drop i).take 2) ++ [0]).map Dv.int by simp]
    (repeat' ((first | (with_reducible first | refine ev_bin ?_ | refine ev_int ?_ | refine ev_str ?_ | refine ev_bool ?_ | refine ev_none ?_ | walk_at "name" | walk_at "fn" | refine ev_sub ?_ | refine ev_slice ?_ | refine evo_none ?_ | refine evo_some ?_ | refine ev_tuple ?_ | refine ev_list ?_ | refine evl_nil ?_ | refine op_add ?_ | refine op_sub ?_ | refine op_lt ?_ | refine op_gt ?_ | refine op_le ?_ | refine op_eq ?_ | refine op_ne ?_ | refine op_eq_str ?_ | refine op_ne_str ?_ | refine op_max ?_ | refine op_min ?_ | refine op_abs ?_ | refine op_mod (by first | decide | walk_at "om") ?_ | refine op_div (by first | decide | walk_at "om") (by first | decide | walk_at "om") ?_ | refine op_len_str (by first | decide | walk_at "om") ?_ | refine op_cat (by first | decide | walk_at "om") ?_ | refine truth_bool ?_ | refine tst_cmp (by kernel_rfl) ?_ | refine ev_cmp (by kernel_rfl) ?_ | refine tst_not ?_ | fail "none") | ((with_reducible show EvL _ _ _ _ (_ :: _) _); refine evl_cons ?_) | ((with_reducible show Ev _ _ _ (.Call (.Attribute _ _ _) _ [] _) _); refine ev_meth ?_) | fail "none")))
    intro s2
    refine sub_list_slice (ds := (((ms.drop i).take 2) ++ [0]).map Dv.int) (.there .here) .here .none (.int _) .none (by decide) (by simp; omega) fun l8 => ?_
    rw [show (2 : Int) = ((2 : Nat) : Int) from rfl, pickL_upto, ← List.map_take, h2]
    refine as_tuple_list (ds := [.int a, .int b]) .here (by kernel_rfl) rfl ?_
    refine as_name (by kernel_rfl) (by (repeat (first | with_reducible exact SetL.here | with_reducible exact SetL.new | (with_reducible apply SetL.there; (focus (dsimp only; decide)))))) (as_name (by kernel_rfl) (by (repeat (first | with_reducible exact SetL.here | with_reducible exact SetL.new | (with_reducible apply SetL.there; (focus (dsimp only; decide)))))) ?_)
    refine exs_sp (own1 := [(162, .tab), (169, .tab), (sc0, .fix o0 (ns.map .int)), (l1, .list (ms.map .int))]) (loc1 := [("script", .raw (.ref l1)), ("first", .int first), ("width", .int wd), ("head", .int head), ("signs", .str sg), ("text", .str t), ("a", .int a), ("b", .int b)]) (by (repeat (first | with_reducible exact List.Sublist.refl _ | with_reducible apply List.Sublist.cons_cons | with_reducible apply List.Sublist.cons | exact List.nil_sublist _))) (.of_sub (.cons _ (.cons _ (.cons _ (.cons _ (.cons _ (.cons _ (List.Sublist.refl _)))))))) ?_
    have b70 := Int.emod_nonneg b (show (7 : Int) ≠ 0 by decide)
    have b71 := Int.emod_lt_of_pos b (show (0 : Int) < 7 by decide)
    have b50 := Int.emod_nonneg b (show (5 : Int) ≠ 0 by decide)
    have b51 := Int.emod_lt_of_pos b (show (0 : Int) < 5 by decide)
    have b30 := Int.emod_nonneg b (show (3 : Int) ≠ 0 by decide)
    have b31 := Int.emod_lt_of_pos b (show (0 : Int) < 3 by decide)
    have a60 := Int.emod_nonneg a (show (6 : Int) ≠ 0 by decide)
    have a61 := Int.emod_lt_of_pos a (show (0 : Int) < 6 by decide)
    -- white
    ((refine exs_cons ?_; first | (refine ex_assignS ?hs ?_; (case hs => exact swaps_plain (by rfl))) | refine ex_expr (by kernel_rfl) (by rfl) ?_ | refine ex_if ?_ | refine ex_return ?_ | fail "none"))
    (repeat' ((first | (with_reducible first | refine ev_bin ?_ | refine ev_int ?_ | refine ev_str ?_ | refine ev_bool ?_ | refine ev_none ?_ | walk_at "name" | walk_at "fn" | refine ev_sub ?_ | refine ev_slice ?_ | refine evo_none ?_ | refine evo_some ?_ | refine ev_tuple ?_ | refine ev_list ?_ | refine evl_nil ?_ | refine op_add ?_ | refine op_sub ?_ | refine op_lt ?_ | refine op_gt ?_ | refine op_le ?_ | refine op_eq ?_ | refine op_ne ?_ | refine op_eq_str ?_ | refine op_ne_str ?_ | refine op_max ?_ | refine op_min ?_ | refine op_abs ?_ | refine op_mod (by first | decide | walk_at "om") ?_ | refine op_div (by first | decide | walk_at "om") (by first | decide | walk_at "om") ?_ | refine op_len_str (by first | decide | walk_at "om") ?_ | refine op_cat (by first | decide | walk_at "om") ?_ | refine truth_bool ?_ | refine tst_cmp (by kernel_rfl) ?_ | refine ev_cmp (by kernel_rfl) ?_ | refine tst_not ?_ | fail "none") | ((with_reducible show EvL _ _ _ _ (_ :: _) _); refine evl_cons ?_) | ((with_reducible show Ev _ _ _ (.Call (.Attribute _ _ _) _ [] _) _); refine ev_meth ?_) | fail "none")))
    refine sub_str1 (by kernel_rfl) (fun _ _ => rfl) (by show -(7 : Int) ≤ _; omega) (by show _ < (7 : Int); omega) (by decide) fun z3 hwl => ?_
    refine ⟨_, _, by ((refine StoreTo.loc (by kernel_rfl) (by (repeat (first | with_reducible exact SetL.here | with_reducible exact SetL.new | (with_reducible apply SetL.there; (focus (dsimp only; decide)))))))), ?_⟩
    -- text
    refine exs_cons (ex_aug_text (y := t) (by kernel_rfl) (by walk_at "has") (ev_sub (ev_list ?_)))
    (repeat' ((first | (with_reducible first | refine ev_bin ?_ | refine ev_int ?_ | refine ev_str ?_ | refine ev_bool ?_ | refine ev_none ?_ | walk_at "name" | walk_at "fn" | refine ev_sub ?_ | refine ev_slice ?_ | refine evo_none ?_ | refine evo_some ?_ | refine ev_tuple ?_ | refine ev_list ?_ | refine evl_nil ?_ | refine op_add ?_ | refine op_sub ?_ | refine op_lt ?_ | refine op_gt ?_ | refine op_le ?_ | refine op_eq ?_ | refine op_ne ?_ | refine op_eq_str ?_ | refine op_ne_str ?_ | refine op_max ?_ | refine op_min ?_ | refine op_abs ?_ | refine op_mod (by first | decide | walk_at "om") ?_ | refine op_div (by first | decide | walk_at "om") (by first | decide | walk_at "om") ?_ | refine op_len_str (by first | decide | walk_at "om") ?_ | refine op_cat (by first | decide | walk_at "om") ?_ | refine truth_bool ?_ | refine tst_cmp (by kernel_rfl) ?_ | refine ev_cmp (by kernel_rfl) ?_ | refine tst_not ?_ | fail "none") | ((with_reducible show EvL _ _ _ _ (_ :: _) _); refine evl_cons ?_) | ((with_reducible show Ev _ _ _ (.Call (.Attribute _ _ _) _ [] _) _); refine ev_meth ?_) | fail "none")))
    refine op_mul_str (by omega) (by omega) (by decide +kernel) ?_
    (repeat' ((first | (with_reducible first | refine ev_bin ?_ | refine ev_int ?_ | refine ev_str ?_ | refine ev_bool ?_ | refine ev_none ?_ | walk_at "name" | walk_at "fn" | refine ev_sub ?_ | refine ev_slice ?_ | refine evo_none ?_ | refine evo_some ?_ | refine ev_tuple ?_ | refine ev_list ?_ | refine evl_nil ?_ | refine op_add ?_ | refine op_sub ?_ | refine op_lt ?_ | refine op_gt ?_ | refine op_le ?_ | refine op_eq ?_ | refine op_ne ?_ | refine op_eq_str ?_ | refine op_ne_str ?_ | refine op_max ?_ | refine op_min ?_ | refine op_abs ?_ | refine op_mod (by first | decide | walk_at "om") ?_ | refine op_div (by first | decide | walk_at "om") (by first | decide | walk_at "om") ?_ | refine op_len_str (by first | decide | walk_at "om") ?_ | refine op_cat (by first | decide | walk_at "om") ?_ | refine truth_bool ?_ | refine tst_cmp (by kernel_rfl) ?_ | refine ev_cmp (by kernel_rfl) ?_ | refine tst_not ?_ | fail "none") | ((with_reducible show EvL _ _ _ _ (_ :: _) _); refine evl_cons ?_) | ((with_reducible show Ev _ _ _ (.Call (.Attribute _ _ _) _ [] _) _); refine ev_meth ?_) | fail "none")))
    refine op_mul_str (by omega) (by omega) (by decide +kernel) ?_
    (repeat' (first | (first | (with_reducible first | refine ev_bin ?_ | refine ev_int ?_ | refine ev_str ?_ | refine ev_bool ?_ | refine ev_none ?_ | walk_at "name" | walk_at "fn" | refine ev_sub ?_ | refine ev_slice ?_ | refine evo_none ?_ | refine evo_some ?_ | refine ev_tuple ?_ | refine ev_list ?_ | refine evl_nil ?_ | refine op_add ?_ | refine op_sub ?_ | refine op_lt ?_ | refine op_gt ?_ | refine op_le ?_ | refine op_eq ?_ | refine op_ne ?_ | refine op_eq_str ?_ | refine op_ne_str ?_ | refine op_max ?_ | refine op_min ?_ | refine op_abs ?_ | refine op_mod (by first | decide | walk_at "om") ?_ | refine op_div (by first | decide | walk_at "om") (by first | decide | walk_at "om") ?_ | refine op_len_str (by first | decide | walk_at "om") ?_ | refine op_cat (by first | decide | walk_at "om") ?_ | refine truth_bool ?_ | refine tst_cmp (by kernel_rfl) ?_ | refine ev_cmp (by kernel_rfl) ?_ | refine tst_not ?_ | fail "none") | ((with_reducible show EvL _ _ _ _ (_ :: _) _); refine evl_cons ?_) | ((with_reducible show Ev _ _ _ (.Call (.Attribute _ _ _) _ [] _) _); refine ev_meth ?_) | fail "none") | ((with_reducible show List.length _ ≤ 1000 ∧ _); refine And.intro (Nat.le_of_ble_eq_true rfl) ?_) | fail "none"))
    intro l9
    (repeat' ((first | (with_reducible first | refine ev_bin ?_ | refine ev_int ?_ | refine ev_str ?_ | refine ev_bool ?_ | refine ev_none ?_ | walk_at "name" | walk_at "fn" | refine ev_sub ?_ | refine ev_slice ?_ | refine evo_none ?_ | refine evo_some ?_ | refine ev_tuple ?_ | refine ev_list ?_ | refine evl_nil ?_ | refine op_add ?_ | refine op_sub ?_ | refine op_lt ?_ | refine op_gt ?_ | refine op_le ?_ | refine op_eq ?_ | refine op_ne ?_ | refine op_eq_str ?_ | refine op_ne_str ?_ | refine op_max ?_ | refine op_min ?_ | refine op_abs ?_ | refine op_mod (by first | decide | walk_at "om") ?_ | refine op_div (by first | decide | walk_at "om") (by first | decide | walk_at "om") ?_ | refine op_len_str (by first | decide | walk_at "om") ?_ | refine op_cat (by first | decide | walk_at "om") ?_ | refine truth_bool ?_ | refine tst_cmp (by kernel_rfl) ?_ | refine ev_cmp (by kernel_rfl) ?_ | refine tst_not ?_ | fail "none") | ((with_reducible show EvL _ _ _ _ (_ :: _) _); refine evl_cons ?_) | ((with_reducible show Ev _ _ _ (.Call (.Attribute _ _ _) _ [] _) _); refine ev_meth ?_) | fail "none")))
    have m1 := mul_le5 "a" (.inl rfl) (b % 5 + 1) (by omega) (by omega)
    have m2 := mul_le5 " " (.inr rfl) (b % 3 + 1) (by omega) (by omega)
    generalize Txt.mul "a" (b % 5 + 1) = z1 at m1
    generalize Txt.mul " " (b % 3 + 1) = z2 at m2
    obtain ⟨z, hz, hzl⟩ : ∃ z : Str, ([z1, z2, "\t", ";", z3, ","].map Dv.str)[(a % 6).toNat]? = some (.str z) ∧ z.length ≤ 5 := by
      have h : (a % 6).toNat < [z1, z2, "\t", ";", z3, ","].length := by show _ < 6; omega
      refine ⟨_, by rw [List.getElem?_map, List.getElem?_eq_getElem h]; rfl, ?_⟩
      have hall : ∀ y ∈ ([z1, z2, "\t", ";", z3, ","] : List Str), y.length ≤ 5 := fun y hy => by
        simp only [List.mem_cons, List.not_mem_nil, or_false] at hy
        rcases hy with rfl | rfl | rfl | rfl | rfl | rfl
        · exact m1
        · exact m2
        · decide +kernel
        · decide +kernel
        · omega
        · decide +kernel
      exact hall _ (List.getElem_mem _)
    refine sub_list (ds := [z1, z2, "\t", ";", z3, ","].map .str) .here (by kernel_rfl) a60 hz (Nat.le_of_ble_eq_true rfl) ?_
    refine ⟨z, _, rfl, by omega, by (repeat (first | with_reducible exact SetL.here | with_reducible exact SetL.new | (with_reducible apply SetL.there; (focus (dsimp only; decide))))), ?_⟩
    refine exs_nil ⟨t ++ z, by rw [len_append]; omega, by (repeat (first | with_reducible exact List.Sublist.refl _ | with_reducible apply List.Sublist.cons_cons | with_reducible apply List.Sublist.cons | exact List.nil_sublist _)), .of_sub (.cons _ (List.Sublist.refl _))⟩
  · rintro loc own ⟨t, ht, sl, so⟩
    rw [rangeD_len] at ht
    refine exs_nil (exs_sp sl so ?_)
    -- chunks
    ((refine exs_cons ?_; first | (refine ex_assignS ?hs ?_; (case hs => exact swaps_plain (by rfl))) | refine ex_expr (by kernel_rfl) (by rfl) ?_ | refine ex_if ?_ | refine ex_return ?_ | fail "none"))
    refine ev_call (f := .ref 209) (callee_k (by kernel_rfl)) (by kernel_rfl) (ev_global (by kernel_rfl) (by decide +kernel) (by kernel_rfl) ⟨rfl, ?_⟩)
    (repeat' ((first | (with_reducible first | refine ev_bin ?_ | refine ev_int ?_ | refine ev_str ?_ | refine ev_bool ?_ | refine ev_none ?_ | walk_at "name" | walk_at "fn" | refine ev_sub ?_ | refine ev_slice ?_ | refine evo_none ?_ | refine evo_some ?_ | refine ev_tuple ?_ | refine ev_list ?_ | refine evl_nil ?_ | refine op_add ?_ | refine op_sub ?_ | refine op_lt ?_ | refine op_gt ?_ | refine op_le ?_ | refine op_eq ?_ | refine op_ne ?_ | refine op_eq_str ?_ | refine op_ne_str ?_ | refine op_max ?_ | refine op_min ?_ | refine op_abs ?_ | refine op_mod (by first | decide | walk_at "om") ?_ | refine op_div (by first | decide | walk_at "om") (by first | decide | walk_at "om") ?_ | refine op_len_str (by first | decide | walk_at "om") ?_ | refine op_cat (by first | decide | walk_at "om") ?_ | refine truth_bool ?_ | refine tst_cmp (by kernel_rfl) ?_ | refine ev_cmp (by kernel_rfl) ?_ | refine tst_not ?_ | fail "none") | ((with_reducible show EvL _ _ _ _ (_ :: _) _); refine evl_cons ?_) | ((with_reducible show Ev _ _ _ (.Call (.Attribute _ _ _) _ [] _) _); refine ev_meth ?_) | fail "none")))
    refine opN_callT (words11 (x := t) rfl (by omega) (by omega) (by omega) fun cl zs hz => ⟨_, _, by ((refine StoreTo.loc (by kernel_rfl) (by (repeat (first | with_reducible exact SetL.here | with_reducible exact SetL.new | (with_reducible apply SetL.there; (focus (dsimp only; decide)))))))), ?_⟩)
    refine exs_mono2 (exs_sp (own1 := (162, .tab) :: (169, .tab) :: (cl, .list (chR zs)) :: (sc0, .fix o0 (ns.map .int)) :: chO zs) (loc1 := [("first", .int first), ("width", .int wd), ("head", .int head), ("signs", .str sg), ("text", .str t), ("chunks", .raw (.ref cl))]) (by (repeat (first | with_reducible exact List.Sublist.refl _ | with_reducible apply List.Sublist.cons_cons | with_reducible apply List.Sublist.cons | exact List.nil_sublist _))) ?_ (mid11 h0 h1 hsg hz (by omega))) fun fl loc own ⟨x1, x2, x3⟩ => ⟨x1, x2, x3⟩
    have h1 : Sp ((cl, .list (chR zs)) :: (chO zs ++ [(162, .tab), (169, .tab), (sc0, .fix o0 (ns.map .int))])) ((cl, .list (chR zs)) :: (chO zs ++ [(162, .tab), (169, .tab), (sc0, .fix o0 (ns.map .int)), (l1, .list (ms.map .int))])) :=
      .of_sub (.cons_cons _ (.append (List.Sublist.refl _) (.cons_cons _ (.cons_cons _ (.cons_cons _ (List.nil_sublist _))))))
    refine .perm ?_ h1
    have q1 : ((cl, AObj.list (chR zs)) :: (sc0, AObj.fix o0 (ns.map .int)) :: chO zs).Perm ((cl, .list (chR zs)) :: (chO zs ++ [(sc0, .fix o0 (ns.map .int))])) := ((List.perm_append_singleton _ _).symm).cons _
    have q2 : ((162, AObj.tab) :: (169, AObj.tab) :: ((cl, AObj.list (chR zs)) :: (chO zs ++ [(sc0, AObj.fix o0 (ns.map .int))]))).Perm ((cl, .list (chR zs)) :: (chO zs ++ [(162, .tab), (169, .tab), (sc0, .fix o0 (ns.map .int))])) :=
      List.perm_append_comm_assoc [_, _] ((cl, AObj.list (chR zs)) :: chO zs) [(sc0, AObj.fix o0 (ns.map .int))]
    exact ((q1.cons _).cons _).trans q2

end Mine
end
open PySem PySem.W PyProof.Rows
set_option maxRecDepth 100000 in
set_option maxHeartbeats 8000000 in
theorem PySem.Challenge.cw_dm0090_11_holds : PySem.Challenge.rw_dm0090_11.Holds := by
  letI hI : Membership Nat Unit := ⟨fun _ _ => False⟩
  refine Mine.hd11 ?_
  intro w s₀ s₁ mg mb G Y fa o pm cd doc dV kV ho hd hcd hD hmg hg args vals as hpre hlay hrd hwl hlo
  have KX : (Mine.K11 w.params).In s₁.heap := km_in_of Y
  have hTabs := km_tabs_of Y
  refine Ground.open G ?_
  intro T B D TE TW
  try (refine guard_noD D (by decide +kernel) ?_; clear D)
  have hM := bmod_of_top T
  clear hmg
  wrow_args hpre hlay hrd hwl hlo
  first | refine callC_kw (enter_call ?_) | refine enter_call ?_ | refine callC_kw (enter_callW ?_) | refine enter_callW ?_ | w_how
  w_top on
  w_call any ho hd hcd hD T F
  have hTab0 : s₁.heap.TableAt 166 162 #[] := ⟨⟨_, _, KX 166 _ rfl, rfl, rfl, rfl⟩, hTabs 162 (by simp)⟩
  have hTab1 : s₁.heap.TableAt 173 169 #[] := ⟨⟨_, _, KX 173 _ rfl, rfl, rfl, rfl⟩, hTabs 169 (by simp)⟩
  refine Mine.law_join (K := Mine.K11 w.params) (tabs := [(166, 162), (173, 169)]) (hk := rfl) F rfl KX T.b T.builtins ⟨_, hM⟩ (by assumption) (by assumption) (fun p hp => ?_) (by simp) (fun p hp => ?_) ?_ hg (fun _ z => z) (fun _ => rfl) ?_ fun o => ?_
  · simp only [List.mem_cons, List.not_mem_nil, or_false] at hp
    rcases hp with rfl | rfl
    · exact hTab0
    · exact hTab1
  · simp only [List.mem_cons, List.not_mem_nil, or_false] at hp
    rcases hp with rfl | rfl <;> kernel_rfl
  · exact Mine.noList_of (by kernel_rfl)
  · first | rfl | wrow_post
  · refine Mine.law11 ?_
    omega
