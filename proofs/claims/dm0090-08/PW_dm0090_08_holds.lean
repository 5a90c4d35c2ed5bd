import PyProof.Rows.All
import Wide.All
import OpenK.AllK
import Wide.FinOn
import PySem.Challenge.RW_dm0090_08
set_option Elab.async false
set_option compiler.extract_closed false
local macro_rules | `(tactic| omega) => `(tactic| lia)
section
open PySem PySem.W PyProof.Rows
set_option maxRecDepth 100000
set_option maxHeartbeats 1000000
namespace Mine

theorem lookup_mem {α β} [BEq α] [LawfulBEq α] : ∀ {l : List (α × β)} {a : α} {b : β}, l.lookup a = some b → (a, b) ∈ l
  | [], _, _, h => by cases h
  | (c, d) :: l, a, b, h => by
    rw [List.lookup_cons] at h
    split at h
    · rename_i q; cases h; rw [eq_of_beq q]; exact .head _
    · exact .tail _ (lookup_mem h)
theorem wd_slot : Slot "wrapper_descriptor" "__get__" "wrapper_descriptor.__get__" := .of (owner := "wrapper_descriptor") (n := "__get__") (by rw [typeLookup_type, builtinLookup_eq_fast]; kernel_rfl) (by decide +kernel) (by decide +kernel) (by decide +kernel)
  (by first | exact .inl (by decide +kernel) | exact .inr (by decide +kernel)) (by rw [isSubtype_type]; kernel_rfl)
theorem wd_entry : entryFor table "wrapper_descriptor.__get__" = some Builtin.«wrapper_descriptor.__get__» := entryFor_of_tree (by kernel_rfl)
theorem wd_args (a b c : Value) : argsOk "wrapper_descriptor.__get__" ⟨[a, b, c], []⟩ := by unfold argsOk; kernel_rfl
section
variable {prog : Program} {w : World} {A : Around} {E : Value → Shared → Prop} {h : Heap} {g : Array GenState} {d : Drawn} {t : Nat} {os : OsState}


theorem wd_get {i : String} {x C : Addr} {ox : Obj} {K : Frag} {Q : Fin → Shared → Prop} (X : K.In h) (hx : h.get? x = some ox) (hxc : ox.cls = .ref C) (hsub : mroIn K C (.type "list") = some true)
   (hid : (".".intercalate (i.cutAt '.').dropLast) = "list")
   (hq : Q (.done (.ret (.ref h.objs.size))) ⟨h.push { cls := .type "method-wrapper", data := .fields #[.builtin i, .ref x] }, g, d, t, os⟩) :
    wpAny (model prog w) A (Builtin.«wrapper_descriptor.__get__» ⟨[.builtin i, .ref x, .ref C], []⟩) Q E ⟨h, g, d, t, os⟩ := by
  unfold Builtin.«wrapper_descriptor.__get__»
  repeat (first | wp_step)
  rw [hxc, hid]
  refine Looks.at (looks_mroIn X hsub) ?_
  unfold newFields
  repeat (first | (with_reducible refine wpAny_newObj_type ?_ (by size_fits)) | wp_step)
  all_goals exact hq
noncomputable abbrev boundObj (T i : String) (x : Addr) : Obj := { cls := .type T, data := .fields #[.builtin i, .ref x] }

structure SupName (name : Str) (i T B : String) : Prop where
  own : builtinOwn "list" name = some (.builtin i)
  typ : builtinType i = pure (.type T)
  cls : (name == ("__class__" : Str)) = false
  get : ∀ {prog : Program} {w : World} {A : Around} {E : Value → Shared → Prop} {h : Heap} {g : Array GenState} {d : Drawn} {t : Nat} {os : OsState} {x C : Addr} {ox : Obj} {K : Frag} {Q : Value → Shared → Prop},
    K.In h → h.get? x = some ox → ox.cls = .ref C → mroIn K C (.type "list") = some true → Q (.ref h.objs.size) ⟨h.push (boundObj B i x), g, d, t, os⟩ →
    wpAny (model prog w) A (call (.builtin (T ++ ".__get__")) [.builtin i, .ref x, .ref C]) Q E ⟨h, g, d, t, os⟩
  look : typeLookup (.type T) "__get__" = pure (some (.builtin (T ++ ".__get__")))


theorem sup_wd {name : Str} {i : String} (own : builtinOwn "list" name = some (.builtin i)) (typ : builtinType i = pure (.type "wrapper_descriptor")) (cls : (name == ("__class__" : Str)) = false)
    (hid : (".".intercalate (i.cutAt '.').dropLast) = "list") : SupName name i "wrapper_descriptor" "method-wrapper" :=
  ⟨own, typ, cls, fun X hx hc hs hq => wpAny_call_entry wd_slot (show typeOf (.builtin i) = _ from typ) wd_entry (wd_get X hx hc hs hid ⟨_, rfl, hq⟩) (wd_args _ _ _), wd_slot.lookup⟩
theorem sup_len : SupName "__len__" "list.__len__" "wrapper_descriptor" "method-wrapper" := sup_wd (by rw [builtinOwn_eq_fast]; kernel_rfl) (by rw [builtinType_eq_fast]; kernel_rfl) (by decide +kernel) (by decide +kernel)
theorem sup_init : SupName "__init__" "list.__init__" "wrapper_descriptor" "method-wrapper" := sup_wd (by rw [builtinOwn_eq_fast]; kernel_rfl) (by rw [builtinType_eq_fast]; kernel_rfl) (by decide +kernel) (by decide +kernel)
theorem forIn_first {β : Type} {M : Model} {c : Value} {l : List Value} {init : β} {body : Value → β → Sem (ForInStep β)} {Q : β → Shared → Prop} {s : Shared}
    (hq : wpAny M A (body c init) (fun st s' => match st with | .done b => Q b s' | .yield _ => False) E s) : wpAny M A (forIn (c :: l) init body) Q E s := by
  rw [List.forIn_cons]
  refine wpAny_bind (wpAny_mono hq (fun st s' hs => ?_) fun _ _ z => z)
  cases st with
  | done b => exact wpAny_pure hs
  | yield b => exact hs.elim

theorem super_ga {so x C : Addr} {ox : Obj} {K : Frag} {name : Str} {i T B : String} {tk : Tok} {cd : ClassData} {Q : Fin → Shared → Prop} (S : SupName name i T B)
    (hso : h.get? so = some { cls := .type "super", dict := none, data := .fields #[.ref C, .ref x, .ref C], slots := #[] }) (X : K.In h) (hno : nsIn K cStatics "thirdparty.any" = some none)
    (hC : clsIn K C = some cd) (hm : cd.mro = [.ref C, .type "list", .type "object"]) (hx : h.get? x = some ox) (hxc : ox.cls = .ref C) (hxC : x ≠ C)
    (hq : Q (.done (.ret (.ref h.objs.size))) ⟨h.push (boundObj B i x), g, d, t, os⟩) :
    wpAny (model prog w) A (Builtin.«super.__getattribute__» ⟨[.ref so, .str name tk], []⟩) Q E ⟨h, g, d, t, os⟩ := by
  have hne : (Value.ref x == Value.ref C) = false := by simp [hxC]
  have hdt : ({ cls := .type "super", dict := none, data := .fields #[.ref C, .ref x, .ref C], slots := #[] } : Obj).data = .fields #[.ref C, .ref x, .ref C] := rfl
  have f0 : (#[.ref C, .ref x, .ref C] : Array Value)[0]? = some (.ref C) := rfl
  have f1 : (#[.ref C, .ref x, .ref C] : Array Value)[1]? = some (.ref x) := rfl
  have f2 : (#[.ref C, .ref x, .ref C] : Array Value)[2]? = some (.ref C) := rfl
  have hmro : Looks (model prog w) h (mroOf (.ref C)) cd.mro := (looks_clsIn X hC).andThen .now
  have hsub : mroIn K C (.type "list") = some true := by unfold mroIn; rw [hC, Option.bind_some, hm]; rfl
  have hcls := S.cls
  have htyp := S.typ
  have hlk := S.look
  have hown : classOwn (.type "list") name = pure (some (.builtin i)) := by show pure (builtinOwn "list" name) = _; rw [S.own]
  have hafter : (cd.mro.dropWhile (· != .ref C)).drop 1 = [.type "list", .type "object"] := by rw [hm]; simp
  unfold Builtin.«super.__getattribute__»
  repeat (first
    | (with_reducible refine wpAny_field hso hdt f0 ?_) | (with_reducible refine wpAny_field hso hdt f1 ?_) | (with_reducible refine wpAny_field hso hdt f2 ?_)
    | (with_reducible refine ks_wpAny_notOpaque (looks_opaque X hno) ?_)
    | (with_reducible refine Looks.at hmro ?_; rw [hafter])
    | (with_reducible refine forIn_first ?_)
    | (with_reducible refine wpAny_of_eq hown ?_)
    | (with_reducible refine S.get X hx hxc hsub ?_)
    | (simp only [hcls, hne, Bool.or_false, Bool.false_eq_true, if_false])
    | wp_step
    | dsimp only)
  all_goals exact hq

theorem super_getMethod {so x C : Addr} {ox : Obj} {K : Frag} {name : Str} {i T B : String} {cd : ClassData} {pl : Sem Bool} {Q : Value × List Value → Shared → Prop} (S : SupName name i T B)
    (hso : h.get? so = some { cls := .type "super", dict := none, data := .fields #[.ref C, .ref x, .ref C], slots := #[] }) (X : K.In h) (hno : nsIn K cStatics "thirdparty.any" = some none)
    (hC : clsIn K C = some cd) (hm : cd.mro = [.ref C, .type "list", .type "object"]) (hx : h.get? x = some ox) (hxc : ox.cls = .ref C) (hxC : x ≠ C)
    (hq : Q (.ref h.objs.size, []) ⟨h.push (boundObj B i x), g, d, t + 1, os⟩) :
    wpAny (model prog w) A (getMethod (.ref so) name pl) Q E ⟨h, g, d, t, os⟩ := by
  have hlk := F.ks_slot_super_ga.lookup
  have hcan := F.ks_canon_super_ga
  have hT : ∀ t', (⟨h, g, d, t', os⟩ : Shared).TypeIs (.ref so) "super" := fun _ => ⟨_, hso, rfl⟩
  unfold getMethod
  refine wpAny_bind (wpAny_specialOf (hT _) hlk ?_)
  show wpAny _ _ (if (Manifest.canonical "super.__getattribute__" != "object.__getattribute__") = true then _ else _) _ _ _
  rw [if_pos hcan]
  unfold getAttr getAttrBy
  refine wpAny_bind (wpAny_bind (wpAny_mkText (wpAny_holding (wpAny_bind (wpAny_typeOf (hT _) (wpAny_bind (wpAny_of_eq hlk ?_)))))))
  show wpAny _ _ (getAttrByItsOwn (.ref so) (.str name t) (.type "super") (.builtin "super.__getattribute__") true false) _ _ _
  unfold getAttrByItsOwn hookBefore callGetattribute boundAndCalled
  refine wpAny_bind (wpAny_of_eq (show (if onTheHeap (.type "super") then typeLookup (.type "super") "__getattr__" else pure none) = pure none from rfl) ?_)
  refine wpAny_bind (wpAny_attempt (wpAny_holding ?_))
  show wpAny _ _ (bindSpecial (.builtin "super.__getattribute__") (.ref so) >>= _) _ _ _
  refine wpAny_bind (wpAny_of_eq (F.ks_slot_super_ga.bind _) ?_)
  refine wpAny_mono (Q := fun v s' => v = .ref h.objs.size ∧ s' = ⟨h.push (boundObj B i x), g, d, t + 1, os⟩) (E := fun _ _ => False)
    (wpAny_call_entry F.ks_slot_super_ga (hT _) F.ks_entry_super_ga (super_ga S hso X hno hC hm hx hxc hxC ⟨_, rfl, rfl, rfl⟩) (F.ks_gaArgs_super _ _)) (fun v s' hv => ?_) fun _ _ z => z.elim
  obtain ⟨rfl, rfl⟩ := hv
  exact wpAny_pure (wpAny_pure hq)

noncomputable abbrev Ext (h h' : Heap) : Prop := ∀ b o, h.get? b = some o → h'.get? b = some o
theorem Ext.refl {h : Heap} : Ext h h := fun _ _ e => e
theorem Ext.trans {h₁ h₂ h₃ : Heap} (x : Ext h₁ h₂) (y : Ext h₂ h₃) : Ext h₁ h₃ := fun b o e => y b o (x b o e)
theorem Ext.push {h : Heap} (o : Obj) : Ext h (h.push o) := fun _ _ e => Heap.get?_push_of_some _ e

noncomputable abbrev Hid [I : Membership Nat Unit] (a : Addr) : Prop := I.mem () a
structure Gd [Membership Nat Unit] (K : Frag) (h : Heap) : Prop where
  kin : K.In h
  blt : ∃ mb, h.Ns builtinsNs mb ∧ ∀ x : Str, x ≠ "__name__" → mb x = bootBuiltins x
  glb : ∃ mg, h.Ns mainGlobals mg
  bmd : ∃ mg b o, BMod h mainGlobals mg b o
  hid : ∀ a, Hid a → ∃ o, h.get? a = some o
variable [aI : Membership Nat Unit]
theorem Gd.ext {K : Frag} {h h' : Heap} (x : Gd K h) (e : Ext h h') : Gd K h' := ⟨x.kin.keeps e, let ⟨mb, a, b⟩ := x.blt; ⟨mb, a.keeps e, b⟩, let ⟨mg, a⟩ := x.glb; ⟨mg, a.keeps e⟩, let ⟨mg, b, o, a⟩ := x.bmd; ⟨mg, b, o, a.keeps e⟩, fun a q => let ⟨o, z⟩ := x.hid a q; ⟨o, e _ _ z⟩⟩

structure ClsK (prog : Program) (K : Frag) (C cc : Addr) (cd : ClassData) : Prop where
  cls : clsIn K C = some cd
  mro : cd.mro = [.ref C, .type "list", .type "object"]
  opq : nsIn K cStatics "thirdparty.any" = some none
  cell : ∃ cl cld csl, K.lookup cc = some ⟨cl, cld, .cell (some (.ref C)), csl⟩
  sup : nsIn K mainGlobals "super" = some none
  top : (prog.main.scope.names.lookup ("super" : Str)).isSome = false

theorem sup_call {K : Frag} {C cc x L f cda : Addr} {cd : ClassData} {ox : Obj} {m : Str → Option Value} {fd : FuncData} {of oc : Obj} {body : List Stmt} {vs : Array Value} {file : Str} {tf : Tok}
    {name : Str} {i T B : String} {p0 p1 apos pos : Pos} {args : List PySem.Expr} {s : Shared} {ar : Arg} {env : Env} {Q : Value → Shared → Prop} (S : SupName name i T B) (G : Gd K s.heap) (H : ClsK prog K C cc cd)
    (hk : env.scope.kind = .function) (hks : env.kindOf "super" = some .globalImplicit) (hkc : env.kindOf "__class__" = some .free) (hfu : env.func = some f) (hf : s.heap.get? f = some of) (hfd : of.data = .func fd)
    (hp : (fd.params.posonlyargs ++ fd.params.args).head? = some ar) (hka : env.kindOf ar.arg = some .local) (hco : env.code = .ref cda) (hcc : s.heap.get? cda = some oc) (hoc : oc.data = .fields vs) (hvs : vs[2]? = some (.str file tf))
    (hfile : ((prog.main.file : Str) == file) = true) (hcl : env.cells.lookup (Str.ofString "__class__") = some cc) (hgl : env.globals = mainGlobals) (hbl : env.builtins = builtinsNs)
    (hns : s.heap.Ns env.locals m) (hv : m ar.arg = some (.ref x)) (hx : s.heap.get? x = some ox) (hxc : ox.cls = .ref C) (hnc : ∀ c, ox.data ≠ .cls c)
    (h : ∀ b h' t', Ext s.heap h' → h'.get? b = some (boundObj B i x) → wpAny (model prog w) A (callWith pos (.ref b) [] (backTo pos (starEach args env)) []) Q E { s with heap := h', toks := t' })
    (he : eval (.Call (.Attribute (.Call (.Name "super" p0) [] [] p1) name apos) args [] pos) env = (do
      let ov ← attributeBase (.Call (.Name "super" p0) [] [] p1) name env (eval (.Call (.Name "super" p0) [] [] p1) env)
      standAt apos.atName
      let (f, first) ← holding [ov] (getMethod ov name (do return (← importBound (.Call (.Name "super" p0) [] [] p1) env).getD true))
      callWith pos f first (backTo pos (starEach args env)) []) := by rfl) :
    PySem.wpAt (model prog w) A (.func body env) (eval (.Call (.Attribute (.Call (.Name "super" p0) [] [] p1) name apos) args [] pos) env) Q E s := by
  obtain ⟨hh, gg, dd, tt, oo⟩ := s
  obtain ⟨mb, hb, hbb⟩ := G.blt
  obtain ⟨mg, hg⟩ := G.glb
  have X := G.kin
  have hsub : mroIn K C (.ref C) = some true := by unfold mroIn; rw [H.cls, Option.bind_some, H.mro]; simp
  obtain ⟨oD, hD1, hD2⟩ : ∃ oD, hh.get? C = some oD ∧ oD.data = .cls cd := by
    have hD := H.cls
    unfold clsIn at hD
    split at hD
    · rename_i c d cd' sl ho
      cases hD
      exact ⟨_, X _ _ ho, rfl⟩
    · cases hD
  have hxC : x ≠ C := by
    rintro rfl
    have hx' : hh.get? x = some ox := hx
    rw [hD1] at hx'
    cases hx'
    exact hnc _ hD2
  obtain ⟨cl, cld, csl, hce⟩ := H.cell
  rw [he]
  refine PySem.wpAt_bind (ks_wpAt_super_base hks hkc S.cls hfu hf hfd hp hco hcc hoc hvs hfile H.top ?_)
  refine ks_loadName_global hk hks (Calls.loadGlobal_builtin (hgl ▸ hg) (mg_none_of X hg H.sup) (hbl ▸ hb) ((hbb _ (by decide +kernel)).trans (by kernel_rfl)) ⟨rfl, ?_⟩)
  refine wpAny_loadName_free hk hkc hcl ⟨_, X _ _ hce, rfl⟩ ?_
  refine wpAny_loadName_local hk hka hns hv ?_
  refine ks_wpAny_isType_cls hD1 hD2 ⟨rfl, ?_⟩
  refine ks_wpAny_call_super hD1 hD2 hx hxc hnc (looks_mroIn X hsub) (fun h' e k => ?_)
  refine PySem.wpAt_bind (PySem.wpAt_of_wpAny (wpAny_standAt (PySem.wpAt_of_wpAny (wpAny_bind (wpAny_holding ?_)))))
  refine super_getMethod S e (X.keeps k) H.opq H.cls H.mro (k _ _ hx) hxc hxC ?_
  exact h _ _ _ (Ext.trans k (Ext.push _)) (Heap.get?_push_at rfl rfl)
end
end Mine

end
section
open PySem PySem.W
open PyProof.Rows hiding wpAt wpAt_bind
set_option linter.unusedSectionVars false
set_option maxRecDepth 100000
set_option maxHeartbeats 1000000
set_option linter.unusedVariables false
namespace Mine
variable [aI : Membership Nat Unit]

inductive Dv where
  | none
  | bool (b : Bool)
  | int (i : Int)
  | str (x : Str)
  | tup (l : List Dv)
  | raw (v : Value)

noncomputable abbrev tupObj (vs : List Value) (n : Nat) : Obj := { cls := .type "tuple", data := .seq vs.toArray n }

mutual
/-- v reads as d in h -/
inductive VR (h : Heap) : Value → Dv → Prop
  | none : VR h .none .none
  | bool (b : Bool) : VR h (.bool b) (.bool b)
  | int (i : Int) (t : Tok) : VR h (.int i t) (.int i)
  | str (x : Str) (t : Tok) : VR h (.str x t) (.str x)
  | tup {a : Addr} {vs : List Value} {n : Nat} {ds : List Dv} : ¬ Hid a → h.get? a = some (tupObj vs n) → VRs h vs ds → VR h (.ref a) (.tup ds)
  | raw (v : Value) : VR h v (.raw v)
inductive VRs (h : Heap) : List Value → List Dv → Prop
  | nil : VRs h [] []
  | cons {v : Value} {vs : List Value} {d : Dv} {ds : List Dv} : VR h v d → VRs h vs ds → VRs h (v :: vs) (d :: ds)
end

noncomputable def Pers (h h' : Heap) : Prop := ∀ a vs n, ¬ Hid a → h.get? a = some (tupObj vs n) → h'.get? a = some (tupObj vs n)
theorem Pers.refl {h : Heap} : Pers h h := fun _ _ _ _ e => e
theorem Pers.trans {a b c : Heap} (x : Pers a b) (y : Pers b c) : Pers a c := fun _ _ _ n e => y _ _ _ n (x _ _ _ n e)
theorem Ext.pers {h h' : Heap} (x : Ext h h') : Pers h h' := fun _ _ _ _ e => x _ _ e

structure Stays (s s' : Shared) : Prop where
  p : Pers s.heap s'.heap
  os : s'.os = s.os
  bare : AllBare s.gens → AllBare s'.gens
theorem Stays.refl {s : Shared} : Stays s s := ⟨.refl, rfl, id⟩
theorem Stays.trans {a b c : Shared} (x : Stays a b) (y : Stays b c) : Stays a c := ⟨x.p.trans y.p, y.os.trans x.os, fun h => y.bare (x.bare h)⟩
theorem Pers.st {s s' : Shared} (x : Pers s.heap s'.heap) (o : s'.os = s.os := by rfl) (g : s'.gens = s.gens := by rfl) : Stays s s' := ⟨x, o, fun h => g ▸ h⟩

mutual
theorem VR.mono {h h' : Heap} (k : Pers h h') : ∀ {v : Value} {d : Dv}, VR h v d → VR h' v d
  | _, _, .none => .none
  | _, _, .bool b => .bool b
  | _, _, .int i t => .int i t
  | _, _, .str x t => .str x t
  | _, _, .tup n e r => .tup n (k _ _ _ n e) (VRs.mono k r)
  | _, _, .raw v => .raw v
theorem VRs.mono {h h' : Heap} (k : Pers h h') : ∀ {v : List Value} {d : List Dv}, VRs h v d → VRs h' v d
  | _, _, .nil => .nil
  | _, _, .cons a b => .cons (VR.mono k a) (VRs.mono k b)
end
theorem VRs.length {h : Heap} {vs : List Value} {ds : List Dv} (x : VRs h vs ds) : vs.length = ds.length := by
  induction vs generalizing ds with
  | nil => cases x; rfl
  | cons v vs ih => cases x with | cons _ r => rw [List.length_cons, List.length_cons, ih r]
theorem VRs.append {h : Heap} {vs ws : List Value} {ds es : List Dv} (x : VRs h vs ds) (y : VRs h ws es) : VRs h (vs ++ ws) (ds ++ es) := by
  induction vs generalizing ds with
  | nil => cases x; exact y
  | cons v vs ih => cases x with | cons a r => exact .cons a (ih r)
theorem VRs.get {h : Heap} {vs : List Value} {ds : List Dv} (x : VRs h vs ds) {k : Nat} {v : Value} (e : vs[k]? = some v) : ∃ d, ds[k]? = some d ∧ VR h v d := by
  induction vs generalizing ds k with
  | nil => cases e
  | cons u vs ih =>
    cases x with
    | cons a r =>
      cases k with
      | zero => cases e; exact ⟨_, rfl, a⟩
      | succ k => exact ih r e
theorem VRs.get' {h : Heap} {vs : List Value} {ds : List Dv} (x : VRs h vs ds) {k : Nat} {d : Dv} (e : ds[k]? = some d) : ∃ v, vs[k]? = some v ∧ VR h v d := by
  induction vs generalizing ds k with
  | nil => cases x; cases e
  | cons u vs ih =>
    cases x with
    | cons a r =>
      cases k with
      | zero => cases e; exact ⟨_, rfl, a⟩
      | succ k => exact ih r e
theorem VRs.reverse {h : Heap} {vs : List Value} {ds : List Dv} (x : VRs h vs ds) : VRs h vs.reverse ds.reverse := by
  induction vs generalizing ds with
  | nil => cases x; exact .nil
  | cons u vs ih =>
    cases x with
    | cons a r => rw [List.reverse_cons, List.reverse_cons]; exact (ih r).append (.cons a .nil)

inductive AObj where
  | list (ds : List Dv)
  | acc (C d : Addr) (ds : List Dv)
  | inst (C d : Addr)
  | idict (l : List (Str × Dv))
  | cell (d : Option Dv)
  | tab
  | slc (l u s : Dv)
  | fix (o : Obj) (ds : List Dv)
  | any (P : Obj → Prop)

inductive Ents (h : Heap) : List DictEntry → List (Str × Dv) → Prop
  | nil : Ents h [] []
  | cons {hs : Int} {x : Str} {t : Tok} {v : Value} {d : Dv} {es : List DictEntry} {l : List (Str × Dv)} : VR h v d → Ents h es l → Ents h (⟨hs, .str x t, v⟩ :: es) ((x, d) :: l)
theorem Ents.mono {h h' : Heap} (k : Pers h h') {es : List DictEntry} {l : List (Str × Dv)} (x : Ents h es l) : Ents h' es l := by
  induction x with
  | nil => exact .nil
  | cons a _ ih => exact .cons (a.mono k) ih

noncomputable abbrev accObj (C d : Addr) (vs : List Value) (n : Nat) : Obj := { cls := .ref C, dict := some d, data := .seq vs.toArray n }
noncomputable abbrev lstObj (vs : List Value) (n : Nat) : Obj := { cls := .type "list", data := .seq vs.toArray n }

noncomputable def OR (h : Heap) (a : Addr) : AObj → Prop
  | .list ds => ∃ vs n, h.get? a = some (lstObj vs n) ∧ VRs h vs ds
  | .acc C d ds => ∃ vs n, h.get? a = some (accObj C d vs n) ∧ VRs h vs ds
  | .inst C d => h.get? a = some { cls := .ref C, dict := some d, data := .plain }
  | .idict l => ∃ es n, h.get? a = some { cls := .type "dict", data := .dict es.toArray n } ∧ Ents h es l
  | .cell none => h.IsCell a none
  | .cell (some d) => ∃ v, h.IsCell a (some v) ∧ VR h v d
  | .any P => ∃ o, h.get? a = some o ∧ P o ∧ ∀ vs n, o ≠ tupObj vs n
  | .tab => ∃ ps, h.get? a = some (tabObj ps) ∧ TriplesOk ps.toList
  | .fix o ds => h.get? a = some o ∧ o.cls = .type "list" ∧ ∃ vs n, o.data = .seq (vs : List Value).toArray n ∧ VRs h vs ds
  | .slc l u s => ∃ vl vu vs, h.get? a = some { cls := .type "slice", data := .fields #[vl, vu, vs] } ∧ VR h vl l ∧ VR h vu u ∧ VR h vs s

theorem OR.mono {h h' : Heap} {a : Addr} {o : AObj} (k : Pers h h') (e : h'.get? a = h.get? a) (x : OR h a o) : OR h' a o := by
  cases o with
  | list ds => obtain ⟨vs, n, p, q⟩ := x; exact ⟨vs, n, e.trans p, q.mono k⟩
  | acc C d ds => obtain ⟨vs, n, p, q⟩ := x; exact ⟨vs, n, e.trans p, q.mono k⟩
  | inst C d => exact e.trans x
  | idict l => obtain ⟨vs, n, p, q⟩ := x; exact ⟨vs, n, e.trans p, q.mono k⟩
  | cell d =>
    cases d with
    | none => obtain ⟨o, p, q⟩ := x; exact ⟨o, e.trans p, q⟩
    | some d => obtain ⟨v, ⟨o, p, z⟩, q⟩ := x; exact ⟨v, ⟨o, e.trans p, z⟩, q.mono k⟩
  | tab => obtain ⟨ps, p, q⟩ := x; exact ⟨ps, e.trans p, q⟩
  | slc l u s => obtain ⟨v1, v2, v3, p, a, b, c⟩ := x; exact ⟨v1, v2, v3, e.trans p, a.mono k, b.mono k, c.mono k⟩
  | fix ob ds => obtain ⟨p, q, vs, n, z, r⟩ := x; exact ⟨e.trans p, q, vs, n, z, r.mono k⟩
  | any P => obtain ⟨o, p, q⟩ := x; exact ⟨o, e.trans p, q⟩
theorem OR.some {h : Heap} {a : Addr} {o : AObj} (x : OR h a o) : ∃ ob, h.get? a = some ob ∧ ∀ vs n, ob ≠ tupObj vs n := by
  cases o with
  | list ds => obtain ⟨vs, n, p, q⟩ := x; exact ⟨_, p, by intro _ _ z; simp at z⟩
  | acc C d ds => obtain ⟨vs, n, p, q⟩ := x; exact ⟨_, p, by intro _ _ z; simp at z⟩
  | inst C d => exact ⟨_, x, by intro _ _ z; simp at z⟩
  | idict l => obtain ⟨vs, n, p, q⟩ := x; exact ⟨_, p, by intro _ _ z; simp at z⟩
  | cell d =>
    cases d with
    | none => obtain ⟨o, p, q⟩ := x; exact ⟨_, p, by rintro _ _ rfl; cases q⟩
    | some d => obtain ⟨v, ⟨o, p, z⟩, q⟩ := x; exact ⟨_, p, by rintro _ _ rfl; cases z⟩
  | tab => obtain ⟨ps, p, q⟩ := x; exact ⟨_, p, by intro _ _ z; simp at z⟩
  | slc l u s => obtain ⟨v1, v2, v3, p, _⟩ := x; exact ⟨_, p, by intro _ _ z; simp at z⟩
  | fix ob ds => obtain ⟨p, q, _⟩ := x; exact ⟨_, p, by rintro _ _ rfl; simp at q⟩
  | any P => obtain ⟨o, p, _, q⟩ := x; exact ⟨_, p, q⟩

noncomputable abbrev Own := List (Addr × AObj)
structure OwnOk (h₀ : Heap) (own : Own) (h : Heap) : Prop where
  keep : Ext h₀ h
  at_ : ∀ p ∈ own, OR h p.1 p.2
  off : ∀ p ∈ own, h₀.get? p.1 = none
  nd : (own.map (·.1)).Nodup

noncomputable abbrev Loc := List (Str × Dv)
structure LocOk (h₀ : Heap) (L : Addr) (loc : Loc) (own : Own) (h : Heap) : Prop where
  ns : ∃ m, h.Ns L m ∧ ∀ x d, (x, d) ∈ loc → ∃ v, m x = some v ∧ VR h v d
  fresh : h₀.get? L = none
  off : ∀ p ∈ own, p.1 ≠ L
  nd : (loc.map (·.1)).Nodup
structure Rel (h₀ : Heap) (L : Addr) (loc : Loc) (own : Own) (h : Heap) : Prop where
  ow : OwnOk h₀ own h
  lc : LocOk h₀ L loc own h

inductive Upd (a : Addr) (o o' : AObj) : Own → Own → Prop
  | here {r : Own} : Upd a o o' ((a, o) :: r) ((a, o') :: r)
  | there {p : Addr × AObj} {r r' : Own} : Upd a o o' r r' → Upd a o o' (p :: r) (p :: r')
theorem Upd.mem {a : Addr} {o o' : AObj} {own own' : Own} (u : Upd a o o' own own') : (a, o) ∈ own := by
  induction u with
  | here => exact .head _
  | there _ ih => exact .tail _ ih
theorem Upd.keys {a : Addr} {o o' : AObj} {own own' : Own} (u : Upd a o o' own own') : own'.map (·.1) = own.map (·.1) := by
  induction u with
  | here => rfl
  | there _ ih => rw [List.map_cons, List.map_cons, ih]
theorem Upd.of_mem {a : Addr} {o o' : AObj} {own own' : Own} (u : Upd a o o' own own') (nd : (own.map (·.1)).Nodup) : ∀ p ∈ own', p = (a, o') ∨ (p ∈ own ∧ p.1 ≠ a) := by
  induction u with
  | here =>
    intro p hp
    rcases List.mem_cons.mp hp with rfl | hp
    · exact .inl rfl
    · refine .inr ⟨.tail _ hp, fun e => ?_⟩
      rw [List.map_cons, List.nodup_cons] at nd
      have := List.mem_map_of_mem (f := fun q : Addr × AObj => q.1) hp
      rw [e] at this
      exact nd.1 this
  | there u' ih =>
    intro p hp
    rw [List.map_cons, List.nodup_cons] at nd
    rcases List.mem_cons.mp hp with rfl | hp
    · refine .inr ⟨.head _, fun e => nd.1 ?_⟩
      rw [e]
      exact List.mem_map_of_mem (f := fun q : Addr × AObj => q.1) u'.mem
    · rcases ih nd.2 p hp with e | ⟨q, e⟩
      · exact .inl e
      · exact .inr ⟨.tail _ q, e⟩

structure Chg (a : Addr) (h h' : Heap) : Prop where
  same : ∀ b, b ≠ a → h'.get? b = h.get? b
  old : ∃ o, h.get? a = some o ∧ ∀ vs n, o ≠ tupObj vs n
theorem Chg.pers {a : Addr} {h h' : Heap} (c : Chg a h h') : Pers h h' := fun b vs n _ e => by
  rw [c.same b ?_]; exact e
  rintro rfl
  obtain ⟨o, q, r⟩ := c.old
  rw [q] at e; cases e
  exact r _ _ rfl
theorem OwnOk.upd {h₀ h h' : Heap} {own own' : Own} {a : Addr} {o o' : AObj} (x : OwnOk h₀ own h) (u : Upd a o o' own own') (c : Chg a h h') (n : OR h' a o') : OwnOk h₀ own' h' where
  keep := fun b ob e => (c.same b fun z => by subst z; have := x.off _ u.mem; rw [e] at this; cases this).trans (x.keep b ob e)
  at_ := fun p hp => by
    rcases u.of_mem x.nd p hp with rfl | ⟨q, e⟩
    · exact n
    · exact (x.at_ p q).mono c.pers (c.same _ e)
  off := fun p hp => by
    rcases u.of_mem x.nd p hp with rfl | ⟨q, e⟩
    · exact x.off (a, o) u.mem
    · exact x.off p q
  nd := u.keys ▸ x.nd
theorem LocOk.upd {h₀ h h' : Heap} {L : Addr} {loc : Loc} {own own' : Own} {a : Addr} {o o' : AObj} (x : LocOk h₀ L loc own h) (u : Upd a o o' own own') (c : Chg a h h') : LocOk h₀ L loc own' h' where
  ns := by
    obtain ⟨m, n, k⟩ := x.ns
    have hL : L ≠ a := fun e => x.off _ u.mem e.symm
    refine ⟨m, ?_, fun y d hy => ?_⟩
    · obtain ⟨ob, es, ep, q, r⟩ := n; exact ⟨ob, es, ep, (c.same L hL).trans q, r⟩
    · obtain ⟨v, e, r⟩ := k y d hy; exact ⟨v, e, r.mono c.pers⟩
  fresh := x.fresh
  off := fun p hp => by
    have : p.1 ∈ own.map (·.1) := u.keys ▸ List.mem_map_of_mem hp
    obtain ⟨q, hq, e⟩ := List.mem_map.mp this
    rw [← e]; exact x.off q hq
  nd := x.nd
theorem Rel.upd {h₀ h h' : Heap} {L : Addr} {loc : Loc} {own own' : Own} {a : Addr} {o o' : AObj} (x : Rel h₀ L loc own h) (u : Upd a o o' own own') (c : Chg a h h') (n : OR h' a o') : Rel h₀ L loc own' h' :=
  ⟨x.ow.upd u c n, x.lc.upd u c⟩

theorem get_size_none (h : Heap) : h.get? h.objs.size = none := by
  cases q : h.get? h.objs.size with
  | none => rfl
  | some o => exact absurd (Heap.lt_size q) (Nat.lt_irrefl _)
theorem Ext.none {h h' : Heap} (e : Ext h h') {a : Addr} (n : h'.get? a = none) : h.get? a = none := by
  cases q : h.get? a with
  | none => rfl
  | some o => rw [e _ _ q] at n; cases n

theorem OwnOk.ext {h₀ h h' : Heap} {own : Own} (x : OwnOk h₀ own h) (e : Ext h h') : OwnOk h₀ own h' where
  keep := x.keep.trans e
  at_ := fun p hp => by
    obtain ⟨ob, q, _⟩ := (x.at_ p hp).some
    exact (x.at_ p hp).mono (Ext.pers e) ((e _ _ q).trans q.symm)
  off := x.off
  nd := x.nd
theorem OwnOk.more {h₀ h h' : Heap} {own : Own} {a : Addr} {o : AObj} (x : OwnOk h₀ own h) (e : Ext h h') (n : h.get? a = none) (r : OR h' a o) : OwnOk h₀ ((a, o) :: own) h' where
  keep := x.keep.trans e
  at_ := fun p hp => by
    rcases List.mem_cons.mp hp with rfl | hp
    · exact r
    · exact (x.ext e).at_ p hp
  off := fun p hp => by
    rcases List.mem_cons.mp hp with rfl | hp
    · exact x.keep.none n
    · exact x.off p hp
  nd := by
    rw [List.map_cons, List.nodup_cons]
    refine ⟨fun q => ?_, x.nd⟩
    obtain ⟨p, hp, e'⟩ := List.mem_map.mp q
    obtain ⟨ob, z, _⟩ := (x.at_ p hp).some
    rw [e', n] at z; cases z
theorem LocOk.ext {h₀ h h' : Heap} {L : Addr} {loc : Loc} {own : Own} (x : LocOk h₀ L loc own h) (e : Ext h h') : LocOk h₀ L loc own h' where
  ns := by
    obtain ⟨m, n, k⟩ := x.ns
    exact ⟨m, n.keeps e, fun y d hy => by obtain ⟨v, q, r⟩ := k y d hy; exact ⟨v, q, r.mono (Ext.pers e)⟩⟩
  fresh := x.fresh
  off := x.off
  nd := x.nd
theorem Rel.ext {h₀ h h' : Heap} {L : Addr} {loc : Loc} {own : Own} (x : Rel h₀ L loc own h) (e : Ext h h') : Rel h₀ L loc own h' := ⟨x.ow.ext e, x.lc.ext e⟩
theorem Rel.more {h₀ h h' : Heap} {L : Addr} {loc : Loc} {own : Own} {a : Addr} {o : AObj} (x : Rel h₀ L loc own h) (e : Ext h h') (n : h.get? a = none) (r : OR h' a o) : Rel h₀ L loc ((a, o) :: own) h' :=
  ⟨x.ow.more e n r, ⟨(x.lc.ext e).ns, x.lc.fresh, fun p hp => by
    rcases List.mem_cons.mp hp with rfl | hp
    · obtain ⟨_, ⟨ob, _, _, q, _⟩, _⟩ := x.lc.ns
      intro z
      have z : a = L := z
      subst z
      rw [q] at n; cases n
    · exact x.lc.off p hp, x.lc.nd⟩⟩
theorem OwnOk.sub {h₀ h : Heap} {own own' : Own} (x : OwnOk h₀ own h) (s : own'.Sublist own) : OwnOk h₀ own' h :=
  ⟨x.keep, fun p hp => x.at_ p (s.subset hp), fun p hp => x.off p (s.subset hp), (s.map _).nodup x.nd⟩
theorem Rel.sub {h₀ h : Heap} {L : Addr} {loc : Loc} {own own' : Own} (x : Rel h₀ L loc own h) (s : own'.Sublist own) : Rel h₀ L loc own' h :=
  ⟨x.ow.sub s, ⟨x.lc.ns, x.lc.fresh, fun p hp => x.lc.off p (s.subset hp), x.lc.nd⟩⟩
theorem Rel.fresh {K : Frag} {h₀ h : Heap} {L a : Addr} {loc : Loc} {own : Own} (r : Rel h₀ L loc own h) (g : Gd K h₀) (n : h.get? a = none) : ¬ Hid a := fun q => by
  obtain ⟨o, e⟩ := g.hid a q
  rw [r.ow.keep _ _ e] at n; cases n
end Mine

end
section
open PySem PySem.W
open PyProof.Rows hiding wpAt wpAt_bind
set_option linter.unusedSectionVars false
set_option maxRecDepth 100000
set_option maxHeartbeats 1000000
set_option linter.unusedVariables false
namespace Mine
variable [aI : Membership Nat Unit]

structure Fm where
  prog : Program
  w : World
  K : Frag
  A : Around
  env : Env
  E : Value → Shared → Prop
  D : Nat
  U : Nat
  hh : A.handled = none
  hD : A.depth ≤ D
  hU : A.units ≤ U
  hk : env.scope.kind = .function
  hg : env.globals = mainGlobals
  hb : env.builtins = builtinsNs

noncomputable abbrev QV := Dv → Loc → Own → Prop
inductive Out (h₀ : Heap) (L : Addr) (h : Shared) (Q : QV) (v : Value) (s' : Shared) : Prop
  | mk (d : Dv) (loc : Loc) (own : Own) : Stays h s' → Rel h₀ L loc own s'.heap → VR s'.heap v d → Q d loc own → Out h₀ L h Q v s'

noncomputable def Ev (Γ : Fm) (loc : Loc) (own : Own) (e : PySem.Expr) (Q : QV) : Prop :=
  ∀ h₀ s, Gd Γ.K h₀ → Rel h₀ Γ.env.locals loc own s.heap → wpAny (model Γ.prog Γ.w) Γ.A (eval e Γ.env) (Out h₀ Γ.env.locals s Q) Γ.E s
noncomputable def Op2 (Γ : Fm) (loc : Loc) (own : Own) (a b : Dv) (t : Value → Value → Sem Value) (Q : QV) : Prop :=
  ∀ h₀ s x y, Gd Γ.K h₀ → Rel h₀ Γ.env.locals loc own s.heap → VR s.heap x a → VR s.heap y b → wpAny (model Γ.prog Γ.w) Γ.A (t x y) (Out h₀ Γ.env.locals s Q) Γ.E s
noncomputable def OpN (Γ : Fm) (loc : Loc) (own : Own) (ds : List Dv) (t : List Value → Sem Value) (Q : QV) : Prop :=
  ∀ h₀ s xs, Gd Γ.K h₀ → Rel h₀ Γ.env.locals loc own s.heap → VRs s.heap xs ds → wpAny (model Γ.prog Γ.w) Γ.A (t xs) (Out h₀ Γ.env.locals s Q) Γ.E s

theorem Out.pers {h₀ : Heap} {L : Addr} {h h' : Shared} {Q : QV} {v : Value} {s' : Shared} (k : Stays h h') (x : Out h₀ L h' Q v s') : Out h₀ L h Q v s' := by
  obtain ⟨d, loc, own, a, b, c, e⟩ := x
  exact ⟨d, loc, own, k.trans a, b, c, e⟩

section
variable {Γ : Fm} {loc : Loc} {own : Own} {Q : QV}


theorem Ev.use {e : PySem.Expr} (x : Ev Γ loc own e Q) {h₀ : Heap} {s : Shared} {R : Value → Shared → Prop} (g : Gd Γ.K h₀) (rel : Rel h₀ Γ.env.locals loc own s.heap)
    (k : ∀ d loc own s' v, Stays s s' → Rel h₀ Γ.env.locals loc own s'.heap → VR s'.heap v d → Q d loc own → R v s') : wpAny (model Γ.prog Γ.w) Γ.A (eval e Γ.env) R Γ.E s :=
  wpAny_mono (x h₀ s g rel) (fun v s' ⟨d, loc, own, p, r, vr, q⟩ => k d loc own s' v p r vr q) fun _ _ z => z
theorem Op2.go {a b : Dv} {t : Value → Value → Sem Value} (x : Op2 Γ loc own a b t Q) {h₀ : Heap} {h s : Shared} {v u : Value} (g : Gd Γ.K h₀) (rel : Rel h₀ Γ.env.locals loc own s.heap) (va : VR s.heap v a) (ub : VR s.heap u b) (p : Stays h s) :
    wpAny (model Γ.prog Γ.w) Γ.A (t v u) (Out h₀ Γ.env.locals h Q) Γ.E s := wpAny_mono (x h₀ s v u g rel va ub) (fun _ _ z => z.pers p) fun _ _ z => z
theorem out_ext {h₀ : Heap} {L : Addr} {h s' : Shared} {v : Value} {d : Dv} (rel : Rel h₀ L loc own h.heap) (e : Ext h.heap s'.heap) (vr : VR s'.heap v d) (q : Q d loc own) (ho : s'.os = h.os := by rfl) (hg : s'.gens = h.gens := by rfl) : Out h₀ L h Q v s' :=
  ⟨d, loc, own, (Ext.pers e).st ho hg, rel.ext e, vr, q⟩

theorem ev_bin {l r : PySem.Expr} {op : Operator} {pos : Pos} (x : Ev Γ loc own l fun a loc own => Ev Γ loc own r fun b loc own => Op2 Γ loc own a b (binaryOp op) Q) : Ev Γ loc own (.BinOp l op r pos) Q := by
  intro h₀ s g rel
  exact wpAny_BinOp (x.use g rel fun a _ _ s1 va p1 r1 v1 q1 => q1.use g r1 fun b _ _ s2 vb p2 r2 v2 q2 => q2.go g r2 (v1.mono p2.p) v2 (p1.trans p2))
theorem ev_int {i : Int} {k : Nat} {pos : Pos} (q : Q (.int i) loc own) : Ev Γ loc own (.Constant (.int i) k pos) Q := by
  intro h₀ s g rel
  exact wpAny_Constant_int (out_ext rel Ext.refl (.int _ _) q)
theorem ev_str {x : Str} {k : Nat} {pos : Pos} (q : Q (.str x) loc own) : Ev Γ loc own (.Constant (.str x) k pos) Q := by
  intro h₀ s g rel
  exact Calls.Constant_str (out_ext rel Ext.refl (.str _ _) q)
theorem ev_none {k : Nat} {pos : Pos} (q : Q .none loc own) : Ev Γ loc own (.Constant .none k pos) Q := by
  intro h₀ s g rel
  exact fun _ _ _ => out_ext rel Ext.refl .none q
inductive Has (x : Str) (d : Dv) : Loc → Prop
  | here {r : Loc} : Has x d ((x, d) :: r)
  | there {p : Str × Dv} {r : Loc} : Has x d r → Has x d (p :: r)
theorem Has.mem {x : Str} {d : Dv} {loc : Loc} (h : Has x d loc) : (x, d) ∈ loc := by
  induction h with
  | here => exact .head _
  | there _ ih => exact .tail _ ih
theorem ev_name {x : Str} {pos : Pos} {d : Dv} (hl : Γ.env.kindOf x = some .local) (hd : (x == ("__debug__" : Str)) = false) (hx : Has x d loc) (q : Q d loc own) : Ev Γ loc own (.Name x pos) Q := by
  intro h₀ s g rel
  obtain ⟨m, n, k⟩ := rel.lc.ns
  obtain ⟨v, e, vr⟩ := k x d hx.mem
  exact wpAny_Name (wpAny_loadName_local Γ.hk hl n e (out_ext rel Ext.refl vr q)) hd
theorem ev_global {x : Str} {pos : Pos} {v : Value} (hl : Γ.env.kindOf x = some .globalImplicit) (hd : (x == ("__debug__" : Str)) = false)
    (e : nsIn Γ.K mainGlobals x = some (some v)) (q : Q (.raw v) loc own) : Ev Γ loc own (.Name x pos) Q := by
  intro h₀ s g rel
  obtain ⟨mg, G⟩ := g.glb
  exact Calls.Name_function_global Γ.hk hl (Calls.loadGlobal_global (Γ.hg ▸ G.keeps rel.ow.keep) (PySem.W.mg_of g.kin G e) (out_ext rel Ext.refl (.raw v) q)) hd
theorem ev_builtin {x : Str} {pos : Pos} {v : Value} (hl : Γ.env.kindOf x = some .globalImplicit) (hd : (x == ("__debug__" : Str)) = false)
    (e : nsIn Γ.K mainGlobals x = some none) (hn : x ≠ "__name__") (hv : bootBuiltins x = some v) (q : Q (.raw v) loc own) : Ev Γ loc own (.Name x pos) Q := by
  intro h₀ s g rel
  obtain ⟨mg, G⟩ := g.glb
  obtain ⟨mb, B, BB⟩ := g.blt
  exact Calls.Name_function_global Γ.hk hl (Calls.loadGlobal_builtin (Γ.hg ▸ G.keeps rel.ow.keep) (mg_none_of g.kin G e) (Γ.hb ▸ B.keeps rel.ow.keep) ((BB x hn).trans hv) (out_ext rel Ext.refl (.raw v) q)) hd

inductive Fl where
  | next | brk | cont
  | ret (d : Dv)
inductive FR (h : Heap) : Flow → Fl → Prop
  | next : FR h .next .next
  | brk : FR h .brk .brk
  | cont : FR h .cont .cont
  | ret {v : Value} {d : Dv} : VR h v d → FR h (.ret v) (.ret d)
noncomputable abbrev QF := Fl → Loc → Own → Prop
inductive OutF (h₀ : Heap) (L : Addr) (h : Shared) (Q : QF) (f : Flow) (s' : Shared) : Prop
  | mk (a : Fl) (loc : Loc) (own : Own) : Stays h s' → Rel h₀ L loc own s'.heap → FR s'.heap f a → Q a loc own → OutF h₀ L h Q f s'
noncomputable def Ex (Γ : Fm) (loc : Loc) (own : Own) (st : Stmt) (Q : QF) : Prop :=
  ∀ h₀ s, Gd Γ.K h₀ → Rel h₀ Γ.env.locals loc own s.heap → wpAny (model Γ.prog Γ.w) Γ.A (exec st Γ.env) (OutF h₀ Γ.env.locals s Q) Γ.E s
noncomputable def Exs (Γ : Fm) (loc : Loc) (own : Own) (sts : List Stmt) (Q : QF) : Prop :=
  ∀ h₀ s, Gd Γ.K h₀ → Rel h₀ Γ.env.locals loc own s.heap → wpAny (model Γ.prog Γ.w) Γ.A (execs sts Γ.env) (OutF h₀ Γ.env.locals s Q) Γ.E s
theorem OutF.pers {h₀ : Heap} {L : Addr} {h h' : Shared} {Q : QF} {v : Flow} {s' : Shared} (k : Stays h h') (x : OutF h₀ L h' Q v s') : OutF h₀ L h Q v s' := by
  obtain ⟨d, loc, own, a, b, c, e⟩ := x
  exact ⟨d, loc, own, k.trans a, b, c, e⟩
variable {QQ : QF}
theorem Exs.go {st : List Stmt} (x : Exs Γ loc own st QQ) {h₀ : Heap} {h s : Shared} (g : Gd Γ.K h₀) (rel : Rel h₀ Γ.env.locals loc own s.heap) (p : Stays h s) :
    wpAny (model Γ.prog Γ.w) Γ.A (execs st Γ.env) (OutF h₀ Γ.env.locals h QQ) Γ.E s := wpAny_mono (x h₀ s g rel) (fun _ _ z => z.pers p) fun _ _ z => z
theorem exs_nil (q : QQ .next loc own) : Exs Γ loc own [] QQ := fun h₀ s g rel => wpAny_execs_nil ⟨_, _, _, Pers.refl.st, rel, .next, q⟩
theorem exs_cons {st : Stmt} {r : List Stmt} (x : Ex Γ loc own st fun f loc own => match f with | .next => Exs Γ loc own r QQ | f => QQ f loc own) : Exs Γ loc own (st :: r) QQ := by
  intro h₀ s g rel
  refine wpAny_execs_cons (wpAny_mono (x h₀ s g rel) (fun f s' ⟨a, loc, own, p, r, fr, q⟩ => ?_) fun _ _ z => z)
  cases fr with
  | next => exact Exs.go q g r p
  | brk => exact ⟨_, _, _, p, r, .brk, q⟩
  | cont => exact ⟨_, _, _, p, r, .cont, q⟩
  | ret v => exact ⟨_, _, _, p, r, .ret v, q⟩
theorem ex_return {e : PySem.Expr} {pos : Pos} (x : Ev Γ loc own e fun d loc own => QQ (.ret d) loc own) : Ex Γ loc own (.Return (some e) pos) QQ := fun h₀ s g rel =>
  wpAny_Return_some (x.use g rel fun d loc own s' v p r vr q => ⟨_, _, _, p, r, .ret vr, q⟩)

inductive SetL (x : Str) (d : Dv) : Loc → Loc → Prop
  | here {e : Dv} {r : Loc} : SetL x d ((x, e) :: r) ((x, d) :: r)
  | there {p : Str × Dv} {r r' : Loc} : p.1 ≠ x → SetL x d r r' → SetL x d (p :: r) (p :: r')
  | new : SetL x d [] [(x, d)]
theorem SetL.of_mem {x : Str} {d : Dv} {loc loc' : Loc} (u : SetL x d loc loc') (nd : (loc.map (·.1)).Nodup) : ∀ p ∈ loc', p = (x, d) ∨ (p ∈ loc ∧ p.1 ≠ x) := by
  induction u with
  | here =>
    intro p hp
    rcases List.mem_cons.mp hp with rfl | hp
    · exact .inl rfl
    · refine .inr ⟨.tail _ hp, fun e => ?_⟩
      rw [List.map_cons, List.nodup_cons] at nd
      have := List.mem_map_of_mem (f := fun q : Str × Dv => q.1) hp
      rw [e] at this
      exact nd.1 this
  | there n u' ih =>
    intro p hp
    rw [List.map_cons, List.nodup_cons] at nd
    rcases List.mem_cons.mp hp with rfl | hp
    · exact .inr ⟨.head _, n⟩
    · rcases ih nd.2 p hp with e | ⟨q, e⟩
      · exact .inl e
      · exact .inr ⟨.tail _ q, e⟩
  | new => intro p hp; rcases List.mem_cons.mp hp with rfl | hp; exact .inl rfl; cases hp
theorem SetL.nd {x : Str} {d : Dv} {loc loc' : Loc} (u : SetL x d loc loc') (nd : (loc.map (·.1)).Nodup) : (loc'.map (·.1)).Nodup := by
  induction u with
  | here => exact nd
  | there n u' ih =>
    rw [List.map_cons, List.nodup_cons] at nd ⊢
    refine ⟨fun q => ?_, ih nd.2⟩
    obtain ⟨p, hp, e⟩ := List.mem_map.mp q
    rcases u'.of_mem nd.2 p hp with rfl | ⟨q', e'⟩
    · exact n e.symm
    · exact nd.1 (e ▸ List.mem_map_of_mem (f := fun q : Str × Dv => q.1) q')
  | new => simp
theorem Rel.set {h₀ : Heap} {L : Addr} {h h' : Heap} {loc loc' : Loc} {own : Own} {x : Str} {d : Dv} {v : Value} {m : Str → Option Value} (rel : Rel h₀ L loc own h) (u : SetL x d loc loc')
    (hm : ∀ x d, (x, d) ∈ loc → ∃ v, m x = some v ∧ VR h v d) (n : h'.Ns L (fun y => if y = x then some v else m y)) (s : Heap.SameBut L h h') (vr : VR h v d) : Rel h₀ L loc' own h' := by
  have c : Chg L h h' := ⟨fun b hb => s.2 b hb, let ⟨_, ⟨o, es, n, a, b, _⟩, _⟩ := rel.lc.ns; ⟨o, a, fun vs n e => by rw [e] at b; cases b⟩⟩
  refine ⟨⟨fun b ob e => (s.2 b fun z => ?_).trans (rel.ow.keep b ob e), fun p hp => (rel.ow.at_ p hp).mono c.pers (s.2 _ (rel.lc.off p hp)), rel.ow.off, rel.ow.nd⟩,
    ⟨⟨_, n, fun y e hy => ?_⟩, rel.lc.fresh, rel.lc.off, u.nd rel.lc.nd⟩⟩
  · subst z; rw [rel.lc.fresh] at e; cases e
  · rcases u.of_mem rel.lc.nd _ hy with q | ⟨q, ne⟩
    · cases q; exact ⟨v, if_pos rfl, vr.mono c.pers⟩
    · obtain ⟨v', e', vr'⟩ := hm _ _ q
      exact ⟨v', by rw [if_neg ne]; exact e', vr'.mono c.pers⟩
end
end Mine

end
section
open PySem PySem.W
open PyProof.Rows hiding wpAt wpAt_bind
set_option linter.unusedSectionVars false
set_option maxRecDepth 100000
set_option maxHeartbeats 1000000
set_option linter.unusedVariables false
namespace Mine
variable [aI : Membership Nat Unit]
section
variable {Γ : Fm} {loc : Loc} {own : Own} {Q : QV} {QQ : QF}

inductive OutU (h₀ : Heap) (L : Addr) (h : Shared) (Q : Loc → Own → Prop) (s' : Shared) : Prop
  | mk (loc : Loc) (own : Own) : Stays h s' → Rel h₀ L loc own s'.heap → Q loc own → OutU h₀ L h Q s'
theorem OutU.pers {h₀ : Heap} {L : Addr} {h h' : Shared} {Q : Loc → Own → Prop} {s' : Shared} (k : Stays h h') (x : OutU h₀ L h' Q s') : OutU h₀ L h Q s' := by
  obtain ⟨loc, own, a, b, c⟩ := x
  exact ⟨loc, own, k.trans a, b, c⟩
noncomputable def As (Γ : Fm) (loc : Loc) (own : Own) (tg : PySem.Expr) (d : Dv) (Q : Loc → Own → Prop) : Prop :=
  ∀ h₀ s v, Gd Γ.K h₀ → Rel h₀ Γ.env.locals loc own s.heap → VR s.heap v d → wpAny (model Γ.prog Γ.w) Γ.A (assign tg Γ.env v) (fun _ => OutU h₀ Γ.env.locals s Q) Γ.E s
theorem store_ {x : Str} {d : Dv} {v : Value} {loc' : Loc} {h₀ : Heap} {s : Shared} {R : Unit → Shared → Prop} (rel : Rel h₀ Γ.env.locals loc own s.heap) (hl : Γ.env.kindOf x = some .local) (u : SetL x d loc loc') (vr : VR s.heap v d)
    (k : ∀ s', Stays s s' → Rel h₀ Γ.env.locals loc' own s'.heap → R () s') : wpAny (model Γ.prog Γ.w) Γ.A (storeName Γ.env x v) R Γ.E s := by
  obtain ⟨m, n, e⟩ := rel.lc.ns
  refine wpAny_storeName_local hl n (fun h' n' s' => k _ ?_ (rel.set u e n' s' vr)) (by rw [Γ.hk]; rfl)
  exact (Chg.mk (a := Γ.env.locals) (fun b hb => s'.2 b hb) (let ⟨o, es, n, a, b, _⟩ := n; ⟨o, a, fun vs n e => by rw [e] at b; cases b⟩)).pers.st
theorem as_name {x : Str} {pos : Pos} {d : Dv} {loc' : Loc} {Q : Loc → Own → Prop} (hl : Γ.env.kindOf x = some .local) (u : SetL x d loc loc') (q : Q loc' own) : As Γ loc own (.Name x pos) d Q := by
  intro h₀ s v g rel vr
  exact wpAny_assign_Name (store_ rel hl u vr fun s' p r => ⟨_, _, p, r, q⟩)
noncomputable def Tst (Γ : Fm) (loc : Loc) (own : Own) (e : PySem.Expr) (Q : Bool → Loc → Own → Prop) : Prop :=
  ∀ h₀ s, Gd Γ.K h₀ → Rel h₀ Γ.env.locals loc own s.heap → wpAny (model Γ.prog Γ.w) Γ.A (isTrue e Γ.env (eval e Γ.env)) (fun b => OutU h₀ Γ.env.locals s (Q b)) Γ.E s
theorem Tst.use {e : PySem.Expr} {Q : Bool → Loc → Own → Prop} (x : Tst Γ loc own e Q) {h₀ : Heap} {s : Shared} {R : Bool → Shared → Prop} (g : Gd Γ.K h₀) (rel : Rel h₀ Γ.env.locals loc own s.heap)
    (k : ∀ b loc own s', Stays s s' → Rel h₀ Γ.env.locals loc own s'.heap → Q b loc own → R b s') : wpAny (model Γ.prog Γ.w) Γ.A (isTrue e Γ.env (eval e Γ.env)) R Γ.E s :=
  wpAny_mono (x h₀ s g rel) (fun b s' ⟨loc, own, p, r, q⟩ => k b loc own s' p r q) fun _ _ z => z
theorem ex_if {t : PySem.Expr} {a b : List Stmt} {pos : Pos} (x : Tst Γ loc own t fun c loc own => if c then Exs Γ loc own a QQ else Exs Γ loc own b QQ) : Ex Γ loc own (.If t a b pos) QQ := by
  intro h₀ s g rel
  refine wpAny_If (x.use g rel fun c loc own s' p r q => ?_)
  cases c
  · simp only [Bool.false_eq_true, if_false] at q ⊢; exact q.go g r p
  · simp only [if_true] at q ⊢; exact q.go g r p
noncomputable def Truth (Γ : Fm) (loc : Loc) (own : Own) (d : Dv) (Q : Bool → Loc → Own → Prop) : Prop :=
  ∀ h₀ s v, Gd Γ.K h₀ → Rel h₀ Γ.env.locals loc own s.heap → VR s.heap v d → wpAny (model Γ.prog Γ.w) Γ.A (truthy v) (fun b => OutU h₀ Γ.env.locals s (Q b)) Γ.E s
theorem Truth.go {d : Dv} {Q : Bool → Loc → Own → Prop} (x : Truth Γ loc own d Q) {h₀ : Heap} {h s : Shared} {v : Value} (g : Gd Γ.K h₀) (rel : Rel h₀ Γ.env.locals loc own s.heap) (vr : VR s.heap v d) (p : Stays h s) :
    wpAny (model Γ.prog Γ.w) Γ.A (truthy v) (fun b => OutU h₀ Γ.env.locals h (Q b)) Γ.E s := wpAny_mono (x h₀ s v g rel vr) (fun _ _ z => z.pers p) fun _ _ z => z
theorem truth_bool {b : Bool} {Q : Bool → Loc → Own → Prop} (q : Q b loc own) : Truth Γ loc own (.bool b) Q := by
  intro h₀ s v g rel vr
  cases vr
  exact fun _ _ _ => ⟨_, _, Pers.refl.st, rel, q⟩
theorem tst_cmp {l r : PySem.Expr} {op : CmpOp} {pos : Pos} {Q : Bool → Loc → Own → Prop} (hm : behindInMarks op r = false)
    (x : Ev Γ loc own l fun a loc own => Ev Γ loc own r fun b loc own => Op2 Γ loc own a b (compareOp op) fun d loc own => Truth Γ loc own d Q) : Tst Γ loc own (.Compare l [op] [r] pos) Q := by
  intro h₀ s g rel
  exact wpAny_isTrue_Compare1 (x.use g rel fun a _ _ s1 va p1 r1 v1 q1 => q1.use g r1 fun b _ _ s2 vb p2 r2 v2 q2 =>
    wpAny_mono (q2 h₀ s2 va vb g r2 (v1.mono p2.p) v2) (fun v s3 ⟨d, loc, own, p, r, vr, q⟩ => q.go g r vr ((p1.trans p2).trans p)) fun _ _ z => z) hm
theorem ev_cmp {l r : PySem.Expr} {op : CmpOp} {pos : Pos} (hm : behindInMarks op r = false)
    (x : Ev Γ loc own l fun a loc own => Ev Γ loc own r fun b loc own => Op2 Γ loc own a b (compareOp op) Q) : Ev Γ loc own (.Compare l [op] [r] pos) Q := by
  intro h₀ s g rel
  exact wpAny_Compare1 (x.use g rel fun a _ _ s1 va p1 r1 v1 q1 => q1.use g r1 fun b _ _ s2 vb p2 r2 v2 q2 => q2.go g r2 (v1.mono p2.p) v2 (p1.trans p2)) hm
noncomputable def All (Γ : Fm) (loc : Loc) (own : Own) (op : BoolOp) (es : List PySem.Expr) (Q : Bool → Loc → Own → Prop) : Prop :=
  ∀ h₀ s, Gd Γ.K h₀ → Rel h₀ Γ.env.locals loc own s.heap → wpAny (model Γ.prog Γ.w) Γ.A (allTrue op es Γ.env) (fun b => OutU h₀ Γ.env.locals s (Q b)) Γ.E s
theorem all_and_nil {Q : Bool → Loc → Own → Prop} (q : Q true loc own) : All Γ loc own .And [] Q := fun h₀ s g rel => wpAny_allTrue_And_nil ⟨_, _, Pers.refl.st, rel, q⟩
theorem all_or_nil {Q : Bool → Loc → Own → Prop} (q : Q false loc own) : All Γ loc own .Or [] Q := fun h₀ s g rel => wpAny_allTrue_Or_nil ⟨_, _, Pers.refl.st, rel, q⟩
theorem all_and_cons {e : PySem.Expr} {es : List PySem.Expr} {Q : Bool → Loc → Own → Prop} (x : Tst Γ loc own e fun b loc own => if b then All Γ loc own .And es Q else Q false loc own) : All Γ loc own .And (e :: es) Q := by
  intro h₀ s g rel
  refine wpAny_allTrue_And_cons (x.use g rel fun b loc own s' p r q => ?_)
  cases b
  · simp only [Bool.false_eq_true, if_false] at q ⊢; exact ⟨_, _, p, r, q⟩
  · simp only [if_true] at q ⊢; exact wpAny_mono (q h₀ s' g r) (fun _ _ z => z.pers p) fun _ _ z => z
theorem all_or_cons {e : PySem.Expr} {es : List PySem.Expr} {Q : Bool → Loc → Own → Prop} (x : Tst Γ loc own e fun b loc own => if b then Q true loc own else All Γ loc own .Or es Q) : All Γ loc own .Or (e :: es) Q := by
  intro h₀ s g rel
  refine wpAny_allTrue_Or_cons (x.use g rel fun b loc own s' p r q => ?_)
  cases b
  · simp only [Bool.false_eq_true, if_false] at q ⊢; exact wpAny_mono (q h₀ s' g r) (fun _ _ z => z.pers p) fun _ _ z => z
  · simp only [if_true] at q ⊢; exact ⟨_, _, p, r, q⟩
theorem tst_bool {op : BoolOp} {es : List PySem.Expr} {pos : Pos} {Q : Bool → Loc → Own → Prop} (x : All Γ loc own op es Q) : Tst Γ loc own (.BoolOp op es pos) Q := by
  intro h₀ s g rel
  exact wpAny_isTrue_BoolOp (x h₀ s g rel)

noncomputable abbrev QL := List Dv → Loc → Own → Prop
inductive OutL (h₀ : Heap) (L : Addr) (h : Shared) (Q : QL) (vs : List Value) (s' : Shared) : Prop
  | mk (ds : List Dv) (loc : Loc) (own : Own) : Stays h s' → Rel h₀ L loc own s'.heap → VRs s'.heap vs ds → Q ds loc own → OutL h₀ L h Q vs s'
noncomputable def EvL (Γ : Fm) (loc : Loc) (own : Own) (pos : Pos) (es : List PySem.Expr) (Q : QL) : Prop :=
  ∀ h₀ s, Gd Γ.K h₀ → Rel h₀ Γ.env.locals loc own s.heap → wpAny (model Γ.prog Γ.w) Γ.A (spliced (backTo pos (starEach es Γ.env))) (OutL h₀ Γ.env.locals s Q) Γ.E s
theorem EvL.use {pos : Pos} {es : List PySem.Expr} {Q : QL} (x : EvL Γ loc own pos es Q) {h₀ : Heap} {s : Shared} {R : List Value → Shared → Prop} (g : Gd Γ.K h₀) (rel : Rel h₀ Γ.env.locals loc own s.heap)
    (k : ∀ ds loc own s' vs, Stays s s' → Rel h₀ Γ.env.locals loc own s'.heap → VRs s'.heap vs ds → Q ds loc own → R vs s') : wpAny (model Γ.prog Γ.w) Γ.A (spliced (backTo pos (starEach es Γ.env))) R Γ.E s :=
  wpAny_mono (x h₀ s g rel) (fun v s' ⟨d, loc, own, p, r, vr, q⟩ => k d loc own s' v p r vr q) fun _ _ z => z
theorem evl_nil {pos : Pos} {Q : QL} (q : Q [] loc own) : EvL Γ loc own pos [] Q := fun h₀ s g rel => wpAny_items_nil ⟨_, _, _, Pers.refl.st, rel, .nil, q⟩
theorem evl_cons {pos : Pos} {e : PySem.Expr} {es : List PySem.Expr} {Q : QL} (x : Ev Γ loc own e fun d loc own => EvL Γ loc own pos es fun ds loc own => Q (d :: ds) loc own)
    (he : starEach (e :: es) Γ.env = (false, eval e Γ.env) :: starEach es Γ.env := by rfl) : EvL Γ loc own pos (e :: es) Q := by
  intro h₀ s g rel
  exact wpAny_items_cons (x.use g rel fun d _ _ s1 v p1 r1 v1 q1 => q1.use g r1 fun ds _ _ s2 vs p2 r2 v2 q2 => ⟨_, _, _, p1.trans p2, r2, .cons (v1.mono p2.p) v2, q2⟩) he
theorem ev_tuple {es : List PySem.Expr} {k : Nat} {pos : Pos} (x : EvL Γ loc own pos es fun ds loc own => ds.length ≤ 1000 ∧ Q (.tup ds) loc own) : Ev Γ loc own (.Tuple es k pos) Q := by
  intro h₀ s g rel
  refine wpAny_Tuple (x.use g rel fun ds loc own s' vs p r vr ⟨hl, q⟩ => ⟨?_, ?_⟩)
  · rw [vr.length]; unfold sizeLine; omega
  · have e : Ext s'.heap (s'.heap.push (tupObj vs 0)) := Ext.push _
    exact ⟨_, _, _, p.trans (Ext.pers e).st, r.ext e, .tup (r.fresh g (get_size_none _)) (Heap.get?_push_size _ rfl) (vr.mono (Ext.pers e)), q⟩
theorem ev_list {es : List PySem.Expr} {pos : Pos} (x : EvL Γ loc own pos es fun ds loc own => ds.length ≤ 1000 ∧ ∀ a, Q (.raw (.ref a)) loc ((a, .list ds) :: own)) : Ev Γ loc own (.List es pos) Q := by
  intro h₀ s g rel
  refine wpAny_List (x.use g rel fun ds loc own s' vs p r vr ⟨hl, q⟩ => ⟨?_, ?_⟩)
  · rw [vr.length]; unfold sizeLine; omega
  · have e : Ext s'.heap (s'.heap.push (lstObj vs 0)) := Ext.push _
    exact ⟨_, _, _, p.trans (Ext.pers e).st, r.more (o := .list ds) e (get_size_none _) ⟨vs, 0, Heap.get?_push_size _ rfl, vr.mono (Ext.pers e)⟩, .raw _, q _⟩
theorem ex_expr {e : PySem.Expr} {pos : Pos} (hi : interactive Γ.env = false) (hs : swapsWith e none pos.line Γ.env = pure false) (x : Ev Γ loc own e fun d loc own => QQ .next loc own) : Ex Γ loc own (.Expr e pos) QQ := by
  intro h₀ s g rel
  rw [exec_Expr Γ.env e pos hi hs]
  refine wpAny_bind (wpAny_standAt (wpAny_bind (x.use g rel fun d loc own s' v p r vr q => ?_)))
  exact wpAny_dropValue ⟨_, _, _, p, r, .next, q⟩
end
end Mine

end
section
open PySem PySem.W
open PyProof.Rows hiding wpAt wpAt_bind
set_option linter.unusedSectionVars false
set_option maxRecDepth 100000
set_option maxHeartbeats 1000000
set_option linter.unusedVariables false
namespace Mine
variable [aI : Membership Nat Unit]

inductive CallOut (h₀ : Heap) (s : Shared) (Q : Dv → Own → Prop) (r : Result) (s' : Shared) : Prop
  | mk (v : Value) (d : Dv) (own' : Own) : r = .ok (.ret v) → Stays s s' → OwnOk h₀ own' s'.heap → VR s'.heap v d → Q d own' → CallOut h₀ s Q r s'
noncomputable def CallT (prog : Program) (w : World) (K : Frag) (A : Around) (own : Own) (f : Value) (ds : List Dv) (Q : Dv → Own → Prop) : Prop :=
  ∀ h₀ s vs, Gd K h₀ → OwnOk h₀ own s.heap → VRs s.heap vs ds → codeAny (model prog w) A (.call f ⟨vs, []⟩)
    (CallOut h₀ s Q) s

theorem OwnOk.hide {h₀ h : Heap} {own : Own} (x : OwnOk h₀ own h) : OwnOk (hideAll h (own.map (·.1))) own h ∧ Ext h₀ (hideAll h (own.map (·.1))) := by
  refine ⟨⟨fun b o e => of_hideAll _ e, x.at_, fun p hp => hideAll_none _ (List.mem_map_of_mem hp), x.nd⟩, fun b o e => hideAll_get _ (x.keep b o e) fun q => ?_⟩
  obtain ⟨p, hp, rfl⟩ := List.mem_map.mp q
  rw [x.off p hp] at e; cases e

theorem CallT.use {Γ : Fm} {loc : Loc} {own : Own} {f : Value} {ds : List Dv} {Q : Dv → Own → Prop} (c : CallT Γ.prog Γ.w Γ.K Γ.A own f ds Q) {h₀ : Heap} {s : Shared} {vs : List Value} {R : Value → Shared → Prop}
    (g : Gd Γ.K h₀) (rel : Rel h₀ Γ.env.locals loc own s.heap) (vr : VRs s.heap vs ds)
    (k : ∀ d own' s' v, Stays s s' → Rel h₀ Γ.env.locals loc own' s'.heap → VR s'.heap v d → Q d own' → R v s') : wpAny (model Γ.prog Γ.w) Γ.A (call f vs) R Γ.E s := by
  obtain ⟨ok, ex⟩ := rel.ow.hide
  refine wpAny_call (codeAny_mono (c _ s vs (g.ext ex) ok vr) fun r s' ⟨v, d, own', e, p, o', vr', q⟩ => ?_)
  subst e
  refine k d own' s' v p ⟨⟨fun b o e => o'.keep b o (ex b o e), o'.at_, fun p hp => ex.none (o'.off p hp), o'.nd⟩, ?_⟩ vr' q
  obtain ⟨m, ⟨oL, es, ep, hL, r⟩, n⟩ := rel.lc.ns
  have nL : Γ.env.locals ∉ own.map (·.1) := fun q => by
    obtain ⟨p, hp, e⟩ := List.mem_map.mp q
    exact rel.lc.off p hp e
  have hLg := hideAll_get (own.map (·.1)) hL nL
  refine ⟨⟨m, ⟨oL, es, ep, o'.keep _ _ hLg, r⟩, fun x d hx => ?_⟩, rel.lc.fresh, fun p hp e => ?_, rel.lc.nd⟩
  · obtain ⟨v, e, vr⟩ := n x d hx; exact ⟨v, e, vr.mono p.p⟩
  · have := o'.off p hp; rw [e, hLg] at this; cases this

noncomputable def retOf : Fl → Dv
  | .ret d => d
  | _ => .none

noncomputable abbrev fnFm (prog : Program) (w : World) (K : Frag) (A : Around) (fd : FuncData) (f L : Addr) (D U : Nat) (hh : A.handled = none) (hD : A.depth ≤ D) (hU : A.units ≤ U) (hk : fd.scope.kind = .function)
    (hg : fd.globals = mainGlobals) (hb : fd.builtins = builtinsNs) : Fm :=
  { prog, w, K, A := A.deeper (callEnv fd L f), env := callEnv fd L f, E := fun _ _ => False, D := D + 1, U := U + 3, hh := hh, hD := Nat.succ_le_succ hD, hU := Nat.add_le_add_right hU 3, hk := hk, hg := hg, hb := hb }

noncomputable def Params (K : Frag) (fd : FuncData) (ds : List Dv) (loc : Loc) : Prop :=
  ∀ (s : Shared) vs, K.In s.heap → VRs s.heap vs ds → ∃ binds, BindsTo s fd ⟨vs, []⟩ binds ∧ (∀ x ∈ binds, fd.scope.names.lookup x.1 = some .local) ∧ ∀ x d, (x, d) ∈ loc → ∃ v, binds.reverse.lookup x = some v ∧ VR s.heap v d

theorem callT_def {prog : Program} {w : World} {K : Frag} {A : Around} {own : Own} {f : Addr} {ds : List Dv} {Q : Dv → Own → Prop} {fd : FuncData} {body : List Stmt} {loc : Loc} {oc : Value} {od : Option Addr} {osl : Array (Option Value)} {D U : Nat}
    (hlim : ∀ h, K.In h → h.NoLimit) (hK : K.lookup f = some ⟨oc, od, .func fd, osl⟩) (hcd : codeIn K fd.code fd.qualname = true) (hbody : fd.body = .stmts body) (hroom : D < recursionLimit)
    (hcell : ∀ x ∈ fd.scope.names, x.2 ≠ .cell) (hp : Params K fd ds loc) (hnd : (loc.map (·.1)).Nodup)
    (hh : A.handled = none) (hD : A.depth ≤ D) (hU : A.units ≤ U) (hk : fd.scope.kind = .function) (hg : fd.globals = mainGlobals) (hb : fd.builtins = builtinsNs) (hco : fd.scope.isCoroutine = false) (hgen : fd.scope.isGenerator = false)
    (x : ∀ L, Exs (fnFm prog w K A fd f L D U hh hD hU hk hg hb) loc own body fun fl loc own => Q (retOf fl) own) : CallT prog w K A own (.ref f) ds Q := by
  intro h₀ s vs g ok vr
  have X : K.In s.heap := g.kin.keeps ok.keep
  obtain ⟨binds, bt, bl, bv⟩ := hp s vs X vr
  refine codeAny_call_def (Nat.lt_of_le_of_lt hD hroom) (X _ _ hK) rfl (hlim _ X) (codeRec_of X hcd) hbody bt hcell bl (fun h₁ ns ex => ?_) hco hgen hk
  have fr : h₀.get? s.heap.objs.size = none := ok.keep.none (get_size_none _)
  have rel : Rel h₀ s.heap.objs.size loc own h₁ := by
    refine ⟨ok.ext ex, ⟨⟨_, ns, fun y d hy => ?_⟩, fr, fun p hp e => ?_, hnd⟩⟩
    · obtain ⟨v, e, r⟩ := bv y d hy; exact ⟨v, e, r.mono (Ext.pers ex)⟩
    · obtain ⟨ob, q, _⟩ := (ok.at_ p hp).some
      rw [e, get_size_none] at q; cases q
  refine wpAny_mono (x s.heap.objs.size h₀ { s with heap := h₁, toks := s.toks + binds.length } g rel) (fun fl s' ⟨a, loc', own', p, r, fr, q⟩ => ?_) fun _ _ z => z.elim
  have p' : Stays s s' := Stays.trans (b := { s with heap := h₁, toks := s.toks + binds.length }) (Ext.pers ex).st p
  cases fr with
  | next => exact ⟨_, _, own', rfl, p', r.ow, .none, q⟩
  | brk => exact ⟨_, _, own', rfl, p', r.ow, .none, q⟩
  | cont => exact ⟨_, _, own', rfl, p', r.ow, .none, q⟩
  | ret v => exact ⟨_, _, own', rfl, p', r.ow, v, q⟩

section
variable {Γ : Fm} {loc : Loc} {own : Own} {Q : QV} {QQ : QF}

end
end Mine

end
section
open PySem PySem.W
open PyProof.Rows hiding wpAt wpAt_bind
set_option linter.unusedSectionVars false
set_option maxRecDepth 100000
set_option maxHeartbeats 1000000
set_option linter.unusedVariables false
namespace Mine
variable [aI : Membership Nat Unit]
section
variable {Γ : Fm} {loc : Loc} {own : Own} {Q : QV} {QQ : QF}

theorem OpN.go {ds : List Dv} {t : List Value → Sem Value} (x : OpN Γ loc own ds t Q) {h₀ : Heap} {h s : Shared} {vs : List Value} (g : Gd Γ.K h₀) (rel : Rel h₀ Γ.env.locals loc own s.heap) (vr : VRs s.heap vs ds) (p : Stays h s) :
    wpAny (model Γ.prog Γ.w) Γ.A (t vs) (Out h₀ Γ.env.locals h Q) Γ.E s := wpAny_mono (x h₀ s vs g rel vr) (fun _ _ z => z.pers p) fun _ _ z => z
theorem opN_callT {f : Value} {ds : List Dv} (c : CallT Γ.prog Γ.w Γ.K Γ.A own f ds fun d own => Q d loc own) : OpN Γ loc own ds (fun vs => call f vs) Q :=
  fun h₀ s vs g rel vr => c.use g rel vr fun d own' s' v p r v' q => ⟨_, _, _, p, r, v', q⟩

noncomputable def plainArgs : List PySem.Expr → Bool
  | [] => true
  | .Starred .. :: _ => false
  | _ :: r => plainArgs r
theorem plain_any {env : Env} {pos : Pos} : ∀ {es : List PySem.Expr}, plainArgs es = true → (backTo pos (starEach es env)).any (·.1) = false
  | [], _ => rfl
  | e :: r, h => by
    cases e <;> first
      | (exact plain_any (es := r) h)
      | (cases h)
theorem plain_head {env : Env} {e : PySem.Expr} {r : List PySem.Expr} (h : plainArgs (e :: r) = true) : starEach (e :: r) env = (false, eval e env) :: starEach r env := by
  cases e <;> first | rfl | cases h
theorem plain_tail {e : PySem.Expr} {r : List PySem.Expr} (h : plainArgs (e :: r) = true) : plainArgs r = true := by
  cases e <;> first | exact h | cases h

theorem evalArgs_none' {M : Model} {A : Around} {E : Value → Shared → Prop} {s : Shared} {f : Value} {Q : Args → Shared → Prop} (h : wpAny M A (spliced []) (fun vs s' => Q ⟨vs, []⟩ s') E s) : wpAny M A (evalArgs f true [] []) Q E s := by
  unfold evalArgs
  show wpAny M A (spliced [] >>= _) Q E s
  refine wpAny_bind (wpAny_mono h (fun vs s' h' => wpAny_bind (wpAny_pure ?_)) fun _ _ x => x)
  exact wpAny_holding (wpAny_bind (wpAny_pure (wpAny_bind (wpAny_pure (wpAny_pure h')))))
noncomputable def Callee (K : Frag) (f : Value) : Prop := keepIn K f = true ∨ (∃ id, f = .builtin id) ∨ (∃ T, f = .type T)
theorem callWith_go {f : Value} {first : List Value} {fd : List Dv} {pos : Pos} {es : List PySem.Expr} {h₀ : Heap} {h s : Shared} (hf : Callee Γ.K f) (hp : plainArgs es = true) (g : Gd Γ.K h₀) (rel : Rel h₀ Γ.env.locals loc own s.heap) (vf : VRs s.heap first fd) (p : Stays h s)
    (x : EvL Γ loc own pos es fun ds loc own => OpN Γ loc own (fd ++ ds) (fun vs => call f vs) Q) : wpAny (model Γ.prog Γ.w) Γ.A (callWith pos f first (backTo pos (starEach es Γ.env)) []) (Out h₀ Γ.env.locals h Q) Γ.E s := by
  cases es with
  | nil =>
    have z : wpAny (model Γ.prog Γ.w) Γ.A (spliced []) (fun vs s₁ => Γ.K.In s₁.heap ∧ wpAny (model Γ.prog Γ.w) Γ.A (call f (first ++ vs)) (Out h₀ Γ.env.locals h Q) Γ.E s₁) Γ.E s :=
      x.use g rel fun ds loc own s' vs p' r' v' q => ⟨g.kin.keeps r'.ow.keep, q.go g r' ((vf.mono p'.p).append v') (p.trans p')⟩
    rcases hf with hf | ⟨id, rfl⟩ | ⟨T, rfl⟩
    · exact callWith_of rfl (keeps_K hf) (evalArgs_none' z)
    · exact Calls.callWith_builtin rfl (evalArgs_none' (wpAny_mono z (fun _ _ q => q.2) fun _ _ q => q))
    · exact PyProof.Rows.callWith_type rfl (evalArgs_none' (wpAny_mono z (fun _ _ q => q.2) fun _ _ q => q))
  | cons e r =>
    have z : wpAny (model Γ.prog Γ.w) Γ.A (spliced (backTo pos (starEach (e :: r) Γ.env))) (fun vs s₁ => Γ.K.In s₁.heap ∧ wpAny (model Γ.prog Γ.w) Γ.A (call f (first ++ vs)) (Out h₀ Γ.env.locals h Q) Γ.E s₁) Γ.E s :=
      x.use g rel fun ds loc own s' vs p' r' v' q => ⟨g.kin.keeps r'.ow.keep, q.go g r' ((vf.mono p'.p).append v') (p.trans p')⟩
    have hh := plain_head (env := Γ.env) hp
    have ht := plain_any (env := Γ.env) (pos := pos) (plain_tail hp)
    rcases hf with hf | ⟨id, rfl⟩ | ⟨T, rfl⟩
    · exact callWith_K g.kin hf z hh ht
    · have z' := wpAny_mono z (fun _ _ q => q.2) fun _ _ q => q
      exact PyProof.Rows.callWith_method1 z' hh ht
    · have z' := wpAny_mono z (fun _ _ q => q.2) fun _ _ q => q
      rw [hh] at z' ⊢
      refine PyProof.Rows.callWith_type ?_ (Calls.evalArgs_plain z')
      show (false || (backTo pos (starEach r Γ.env)).any (·.1)) = false
      rw [ht]; rfl

theorem ev_call {id : Str} {p pos : Pos} {es : List PySem.Expr} {f : Value} (hf : Callee Γ.K f) (hp : plainArgs es = true)
    (x : Ev Γ loc own (.Name id p) fun d loc own => d = .raw f ∧ EvL Γ loc own pos es fun ds loc own => OpN Γ loc own ds (fun vs => call f vs) Q) : Ev Γ loc own (.Call (.Name id p) es [] pos) Q := by
  intro h₀ s g rel
  rw [arm_eval_Call_Name']
  refine wpAny_bind (x.use g rel fun d loc own s1 v p1 r1 v1 ⟨hd, q⟩ => ?_)
  subst hd
  cases v1
  exact callWith_go (fd := []) hf hp g r1 .nil p1 q

noncomputable def Meth (Γ : Fm) (loc : Loc) (own : Own) (d : Dv) (name : Str) (pos : Pos) (es : List PySem.Expr) (Q : QV) : Prop :=
  ∀ h₀ s v (pl : Sem Bool), Gd Γ.K h₀ → Rel h₀ Γ.env.locals loc own s.heap → VR s.heap v d →
    wpAny (model Γ.prog Γ.w) Γ.A (getMethod v name pl) (fun fx s₂ => wpAny (model Γ.prog Γ.w) Γ.A (callWith pos fx.1 fx.2 (backTo pos (starEach es Γ.env)) []) (Out h₀ Γ.env.locals s Q) Γ.E s₂) Γ.E s
theorem ev_meth {o : PySem.Expr} {name : Str} {apos pos : Pos} {es : List PySem.Expr} {pl : Sem Bool} (x : Ev Γ loc own o fun d loc own => Meth Γ loc own d name pos es Q)
    (he : eval (.Call (.Attribute o name apos) es [] pos) Γ.env = (do
      let ov ← eval o Γ.env
      standAt apos.atName
      let (f, first) ← holding [ov] (getMethod ov name pl)
      callWith pos f first (backTo pos (starEach es Γ.env)) []) := by rfl) : Ev Γ loc own (.Call (.Attribute o name apos) es [] pos) Q := by
  intro h₀ s g rel
  refine PyProof.Rows.MethodCall_ (x.use g rel fun d loc own s1 v p1 r1 v1 q => ?_) he
  exact wpAny_mono (q h₀ s1 v pl g r1 v1) (fun fx s₂ z => wpAny_mono z (fun _ _ z => z.pers p1) fun _ _ z => z) fun _ _ z => z

inductive HasO (a : Addr) (o : AObj) : Own → Prop
  | here {r : Own} : HasO a o ((a, o) :: r)
  | there {p : Addr × AObj} {r : Own} : HasO a o r → HasO a o (p :: r)
theorem HasO.mem {a : Addr} {o : AObj} {own : Own} (h : HasO a o own) : (a, o) ∈ own := by
  induction h with
  | here => exact .head _
  | there _ ih => exact .tail _ ih

theorem meth_list {a : Addr} {ds : List Dv} {name : Str} {pos : Pos} {es : List PySem.Expr} {i : String} (ha : HasO a (.list ds) own) (hl : typeLookup (.type "list") name = pure (some (.builtin i))) (ht : typeOf (.builtin i) = pure (.type "method_descriptor")) (hp : plainArgs es = true)
    (x : EvL Γ loc own pos es fun args loc own => OpN Γ loc own (.raw (.ref a) :: args) (fun vs => call (.builtin i) vs) Q) : Meth Γ loc own (.raw (.ref a)) name pos es Q := by
  intro h₀ s v pl g rel vr
  cases vr
  obtain ⟨vs, n, ho, r⟩ := rel.ow.at_ _ ha.mem
  have hT : s.TypeIs (.ref a) "list" := ⟨_, ho, rfl⟩
  unfold getMethod
  refine wpAny_bind (wpAny_specialOf hT list_getattribute ?_)
  show wpAny _ _ (if (Manifest.canonical "list.__getattribute__" != "object.__getattribute__") = true then _ else _) _ _ s
  rw [canon_list_getattribute, if_neg Bool.false_ne_true]
  refine wpAny_bind (wpAny_specialOf hT list_getattr_none ?_)
  refine wpAny_bind (wpAny_specialOf hT hl ?_)
  refine wpAny_bind (wpAny_of_eq ht ?_)
  refine wpAny_bind (wpAny_load ho ?_)
  refine wpAny_bind (wpAny_rule (wpAny_pure ?_))
  exact callWith_go (first := [.ref a]) (fd := [.raw (.ref a)]) (.inr (.inl ⟨i, rfl⟩)) hp g rel (.cons (.raw _) .nil) Pers.refl.st x
end
end Mine

end
section
open PySem PySem.W
open PyProof.Rows hiding wpAt wpAt_bind
set_option linter.unusedSectionVars false
set_option maxRecDepth 100000
set_option maxHeartbeats 1000000
set_option linter.unusedVariables false
namespace Mine
variable [aI : Membership Nat Unit]

theorem Ents.strKeys {h : Heap} {es : List DictEntry} {l : List (Str × Dv)} (x : Ents h es l) : StrKeys es.toArray := by
  intro e he
  have he' : e ∈ es := by simpa using he
  clear he
  induction x with
  | nil => cases he'
  | cons a b ih =>
    rcases List.mem_cons.mp he' with rfl | he
    · exact ⟨_, _, rfl⟩
    · exact ih he
theorem Ents.find {h : Heap} {es : List DictEntry} {l : List (Str × Dv)} (x : Ents h es l) (n : Str) :
    match l.lookup n with
    | none => nsFind es.toArray n = none
    | some d => ∃ v, nsFind es.toArray n = some v ∧ VR h v d := by
  unfold nsFind findBy
  simp only [List.find?_toArray]
  induction x with
  | nil => rfl
  | @cons hs y t v d es l a b ih =>
    rw [List.lookup_cons, List.find?_cons]
    by_cases q : n = y
    · subst q
      simp only [beq_self_eq_true]
      have : (Value.str n t).isStr n = true := by simp [Value.isStr]
      simp only [this]
      exact ⟨v, rfl, a⟩
    · have e : (n == y) = false := by simpa using q
      have e' : (Value.str y t).isStr n = false := by simp [Value.isStr]; exact fun z => q z.symm
      simp only [e, e']
      exact ih
theorem idict_ns {h : Heap} {d : Addr} {l : List (Str × Dv)} (x : OR h d (.idict l)) : ∃ m, h.Ns d m ∧ (∀ n, l.lookup n = none → m n = none) ∧ ∀ n e, l.lookup n = some e → ∃ v, m n = some v ∧ VR h v e := by
  obtain ⟨es, k, p, q⟩ := x
  refine ⟨fun n => nsFind es.toArray n, ⟨_, _, _, p, rfl, q.strKeys, fun _ => rfl⟩, fun n e => ?_, fun n d e => ?_⟩
  · have := q.find n; rw [e] at this; exact this
  · have := q.find n; rw [e] at this; exact this

section
variable {Γ : Fm} {loc : Loc} {own : Own} {Q : QV} {QQ : QF}

theorem getMethod_inst {a C d : Addr} {ga : String} {fv : Value} {tf : String} {name : Str} {s : Shared} {ox : Obj} {l : List (Str × Dv)} {pl : Sem Bool} {R : Value × List Value → Shared → Prop} {M : Model} {A : Around} {E : Value → Shared → Prop} {K : Frag}
    (X : K.In s.heap) (hx : s.heap.get? a = some ox) (hc : ox.cls = .ref C) (hdi : ox.dict = some d) (hd : OR s.heap d (.idict l)) (hn : l.lookup name = none)
    (h1 : findIn K (.ref C) "__getattribute__" = some (some (.builtin ga))) (h2 : (Manifest.canonical ga != "object.__getattribute__") = false) (h3 : findIn K (.ref C) "__getattr__" = some none)
    (h4 : findIn K (.ref C) name = some (some fv)) (h5 : typeIn K fv = some (.type tf)) (h6 : (Value.type tf != .type "function" && Value.type tf != .type "method_descriptor" && Value.type tf != .type "wrapper_descriptor") = false)
    (k : R (fv, [.ref a]) s) : wpAny M A (getMethod (.ref a) name pl) R E s := by
  obtain ⟨m, ns, no, _⟩ := idict_ns hd
  have T : Looks M s.heap (typeOf (.ref a)) (.ref C) := hc ▸ (Looks.ld hx).andThen .now
  unfold getMethod
  refine wpAny_bind (wpAny_bind (T.here ((looks_findIn X h1).here ?_)))
  show wpAny _ _ (if (Manifest.canonical ga != "object.__getattribute__") = true then _ else _) _ _ s
  rw [h2, if_neg Bool.false_ne_true]
  refine wpAny_bind (wpAny_bind (T.here ((looks_findIn X h3).here ?_)))
  refine wpAny_bind (wpAny_bind (T.here ((looks_findIn X h4).here ?_)))
  refine wpAny_bind ((looks_typeIn X h5).here ?_)
  rw [h6]
  simp only [Bool.false_eq_true, if_false]
  refine wpAny_bind (wpAny_loadPart hx ?_)
  rw [hdi]
  refine wpAny_bind (wpAny_nsGet ns ?_)
  rw [no name hn]
  exact wpAny_bind (wpAny_rule (wpAny_pure k))

structure AccK (K : Frag) (C : Addr) : Prop where
  ga : findIn K (.ref C) "__getattribute__" = some (some (.builtin "list.__getattribute__"))
  gt : findIn K (.ref C) "__getattr__" = some none
  sub : mroIn K C (.type "list") = some true
  nos : noSeq K C = true
  gi : findIn K (.ref C) "__getitem__" = some (some (.builtin "list.__getitem__"))
  si : findIn K (.ref C) "__setitem__" = some (some (.builtin "list.__setitem__"))
  it : findIn K (.ref C) "__iter__" = some (some (.builtin "list.__iter__"))

theorem meth_fn {a C d f : Addr} {ds : List Dv} {l : List (Str × Dv)} {name : Str} {pos : Pos} {es : List PySem.Expr} (H : AccK Γ.K C) (ha : HasO a (.acc C d ds) own) (hd : HasO d (.idict l) own) (hn : l.lookup name = none)
    (hf : findIn Γ.K (.ref C) name = some (some (.ref f))) (ht : typeIn Γ.K (.ref f) = some (.type "function")) (hk : keepIn Γ.K (.ref f) = true) (hp : plainArgs es = true)
    (x : EvL Γ loc own pos es fun args loc own => OpN Γ loc own (.raw (.ref a) :: args) (fun vs => call (.ref f) vs) Q) : Meth Γ loc own (.raw (.ref a)) name pos es Q := by
  intro h₀ s v pl g rel vr
  cases vr
  obtain ⟨vs, n, ho, r⟩ := rel.ow.at_ _ ha.mem
  refine getMethod_inst (g.kin.keeps rel.ow.keep) ho rfl rfl (rel.ow.at_ _ hd.mem) hn H.ga canon_list_getattribute H.gt hf ht rfl ?_
  exact callWith_go (first := [.ref a]) (fd := [.raw (.ref a)]) (.inl hk) hp g rel (.cons (.raw _) .nil) Pers.refl.st x
theorem meth_bi {a C d : Addr} {ds : List Dv} {l : List (Str × Dv)} {name : Str} {i : String} {pos : Pos} {es : List PySem.Expr} (H : AccK Γ.K C) (ha : HasO a (.acc C d ds) own) (hd : HasO d (.idict l) own) (hn : l.lookup name = none)
    (hf : findIn Γ.K (.ref C) name = some (some (.builtin i))) (ht : typeIn Γ.K (.builtin i) = some (.type "method_descriptor")) (hp : plainArgs es = true)
    (x : EvL Γ loc own pos es fun args loc own => OpN Γ loc own (.raw (.ref a) :: args) (fun vs => call (.builtin i) vs) Q) : Meth Γ loc own (.raw (.ref a)) name pos es Q := by
  intro h₀ s v pl g rel vr
  cases vr
  obtain ⟨vs, n, ho, r⟩ := rel.ow.at_ _ ha.mem
  refine getMethod_inst (g.kin.keeps rel.ow.keep) ho rfl rfl (rel.ow.at_ _ hd.mem) hn H.ga canon_list_getattribute H.gt hf ht rfl ?_
  exact callWith_go (first := [.ref a]) (fd := [.raw (.ref a)]) (.inr (.inl ⟨i, rfl⟩)) hp g rel (.cons (.raw _) .nil) Pers.refl.st x
end
end Mine

end
section
open PySem PySem.W
open PyProof.Rows hiding wpAt wpAt_bind
set_option linter.unusedSectionVars false
set_option maxRecDepth 100000
set_option maxHeartbeats 1000000
set_option linter.unusedVariables false
namespace Mine
variable [aI : Membership Nat Unit]

inductive SeqO (K : Frag) : AObj → (List Dv → AObj) → List Dv → Prop
  | list {ds : List Dv} : SeqO K (.list ds) .list ds
  | acc {C d : Addr} {ds : List Dv} : AccK K C → SeqO K (.acc C d ds) (.acc C d) ds
theorem SeqO.at {K : Frag} {o : AObj} {mk : List Dv → AObj} {ds : List Dv} {h : Heap} {a : Addr} (x : SeqO K o mk ds) (r : OR h a o) :
    ∃ ob vs n, h.get? a = some ob ∧ ob.data = .seq vs.toArray n ∧ VRs h vs ds ∧ (∀ M, K.In h → Looks M h (isInstance (.ref a) (.type "list")) true) ∧
      (∀ (h' : Heap) ws k es, h'.get? a = some ⟨ob.cls, ob.dict, .seq ws k, ob.slots⟩ → ws = (es : List Value).toArray → ∀ ds', VRs h' es ds' → OR h' a (mk ds')) ∧ ∀ vs n, ob ≠ tupObj vs n := by
  cases x with
  | list =>
    obtain ⟨vs, n, p, q⟩ := r
    refine ⟨_, vs, n, p, rfl, q, fun M X => ?_, fun h' ws k es e z ds' v => ⟨es, k, by rw [e, z], v⟩, by intro _ _ z; simp at z⟩
    exact ((Looks.ld p).andThen .now).andThen (Looks.of_pure (by show isSubtype (.type "list") (.type "list") = _; rw [isSubtype_type]; kernel_rfl))
  | acc hm =>
    obtain ⟨vs, n, p, q⟩ := r
    refine ⟨_, vs, n, p, rfl, q, fun M X => ?_, fun h' ws k es e z ds' v => ⟨es, k, by rw [e, z], v⟩, by intro _ _ z; simp at z⟩
    exact ((Looks.ld p).andThen .now).andThen (looks_mroIn X hm.sub)

theorem call_bi {prog : Program} {w : World} {A : Around} {E : Value → Shared → Prop} {s : Shared} {i n owner : String} {b : Builtin} {self : Value} {rest : List Value} {Q : Value → Shared → Prop}
    (hk : builtinKind i = some .method ∨ builtinKind i = some .slot) (hs : splitId i = some (owner, n)) (hp : plainId i = true) (hb : entryFor table i = some b) (ha : argsOk i ⟨self :: rest, []⟩)
    (hi : Looks (model prog w) s.heap (isInstance self (.type owner)) true)
    (hc : wpAny (model prog w) A.in1 (b ⟨self :: rest, []⟩) (fun fin s' => ∃ v, fin = .done (.ret v) ∧ Q v s') E s) : wpAny (model prog w) A (call (.builtin i) (self :: rest)) Q E s := by
  refine wpAny_call (codeAny_call_builtin hp hb ?_)
  have hfin := wpAny_mono hc (Q' := fun fin s' => match fin with
      | .done f => (match (Except.ok f : Result) with | .ok (.ret v) => Q v s' | .ok _ => False | .error e => E e s')
      | .again c' => c'.quiet = true ∧ codeAny (model prog w) A c' (fun r s' => match r with | .ok (.ret v) => Q v s' | .ok _ => False | .error e => E e s') s')
    (fun fin s' h' => by obtain ⟨v, rfl, hv⟩ := h'; exact hv) fun _ _ h' => h'
  rcases hk with hk | hk
  · simp only [checkBuiltinCall, hk, hs]
    refine wpAny_bind (hi.here ?_)
    simp only [Bool.not_true, Bool.false_eq_true, if_false]
    cases hsig : Manifest.signature? i with
    | none => exact wpAny_pure hfin
    | some sig =>
      simp only [argsOk, hsig] at ha
      have h2 : Bind.checkArgs i sig ⟨self :: rest, []⟩ = pure () := ha
      show wpAny _ A.in1 (Bind.checkArgs i sig ⟨self :: rest, []⟩) _ _ s
      rw [h2]; exact wpAny_pure hfin
  · exact check_slot hk hs hi ha hfin

section
variable {Γ : Fm} {loc : Loc} {own own' : Own} {Q : QV} {QQ : QF}

theorem seq_upd {K : Frag} {o : AObj} {mk : List Dv → AObj} {ds ds' : List Dv} {h₀ : Heap} {L a : Addr} {h : Heap} {ob : Obj} {vs ws : List Value} {n : Nat} {f : Array Value → Array Value} (rel : Rel h₀ L loc own h) (u : Upd a o (mk ds') own own') (x : SeqO K o mk ds)
    (ho : h.get? a = some ob) (hd : ob.data = .seq vs.toArray n) (hne : ∀ vs n, ob ≠ tupObj vs n) (hf : f vs.toArray = ws.toArray) (hv : VRs h ws ds')
    (hmk : ∀ (h' : Heap) ws k es, h'.get? a = some ⟨ob.cls, ob.dict, .seq ws k, ob.slots⟩ → ws = (es : List Value).toArray → ∀ ds', VRs h' es ds' → OR h' a (mk ds')) :
    Pers h (h.update a (Obj.mapSeq f)) ∧ Rel h₀ L loc own' (h.update a (Obj.mapSeq f)) := by
  have c : Chg a h (h.update a (Obj.mapSeq f)) := ⟨fun b hb => Heap.get?_update_other _ _ (Ne.symm hb), ob, ho, hne⟩
  refine ⟨c.pers, rel.upd u c ?_⟩
  obtain ⟨oc, od, odt, osl⟩ := ob
  cases hd
  refine hmk _ (f vs.toArray) (if (f vs.toArray).size == vs.toArray.size then n else n + 1) ws ?_ hf ds' (hv.mono c.pers)
  rw [Heap.get?_update_self _ ho (by rfl)]
  rfl

theorem app_kind : builtinKind "list.append" = some .method := by decide +kernel
theorem app_split : splitId "list.append" = some ("list", "append") := by decide +kernel
theorem app_plain : plainId "list.append" = true := by decide +kernel
theorem app_entry : entryFor table "list.append" = some Builtin.«list.append» := entryFor_of_tree (by kernel_rfl)
theorem app_args (a b : Value) : argsOk "list.append" ⟨[a, b], []⟩ := by unfold argsOk; kernel_rfl
theorem op_append {a : Addr} {o : AObj} {mk : List Dv → AObj} {ds : List Dv} {e : Dv} (u : Upd a o (mk (ds ++ [e])) own own') (x : SeqO Γ.K o mk ds) (hl : ds.length ≤ 100000) (q : Q .none loc own') : OpN Γ loc own [.raw (.ref a), e] (fun vs => call (.builtin "list.append") vs) Q := by
  intro h₀ s vs g rel vr
  cases vr with
  | cons v1 v2 =>
    cases v1
    cases v2 with
    | cons v2 v3 =>
      cases v3
      rename_i v
      obtain ⟨ob, vs, n, ho, hd, hv, hi, hmk, hne⟩ := x.at (rel.ow.at_ _ u.mem)
      have X : Γ.K.In s.heap := g.kin.keeps rel.ow.keep
      refine call_bi (.inl app_kind) app_split app_plain app_entry (app_args _ _) (hi _ X) ?_
      show wpAny _ _ (do updateSeq a (·.push v); ret .none) _ _ _
      have hsz : vs.length ≤ 100000 := by rw [hv.length]; exact hl
      obtain ⟨p, r⟩ := seq_upd (ws := vs ++ [v]) (f := (·.push v)) rel u x ho hd hne (by simp) (hv.append (.cons v2 .nil)) hmk
      exact wpAny_bind (wpAny_updateSeq ho hd (wpAny_pure ⟨_, rfl, ⟨_, _, _, p.st, r, .none, q⟩⟩) (by unfold sizeLine; simp; omega) (by unfold sizeLine; simp; omega))
end
end Mine

end
section
open PySem PySem.W
open PyProof.Rows hiding wpAt wpAt_bind
open PySem.SeqAt
set_option linter.unusedSectionVars false
set_option maxRecDepth 100000
set_option maxHeartbeats 1000000
set_option linter.unusedVariables false
namespace Mine
variable [aI : Membership Nat Unit]

structure Cmp {α : Type} [DecidableEq α] (enc : α → Dv) (n : Nat) : Prop where
  inj : ∀ {h : Heap} {v : Value} {x y : α}, VR h v (enc x) → VR h v (enc y) → x = y
  eq : ∀ {A : Around} {s : Shared} {v u : Value} {x y : α}, A.units + n < cLine → VR s.heap v (enc x) → VR s.heap u (enc y) → EqAt A s v u (decide (x = y))
theorem str_beq_dec (x y : Str) : (x == y) = decide (x = y) := by
  by_cases h : x = y
  · subst h; simp
  · simp [h]
theorem cmpStr : Cmp Dv.str 0 where
  inj := fun a b => by cases a; cases b; rfl
  eq := fun {A s v u x y} hu a b => by
    cases a; cases b
    rename_i t1 t2
    rw [← str_beq_dec]
    exact EqAt.str_str (A := A) (s := s) x t1 y t2

theorem Cmp.rows_eq {α : Type} [DecidableEq α] {enc : α → Dv} {n : Nat} (c : Cmp enc n) {A : Around} {s : Shared} {vs ws : List Value} {xs ys : List α} (hu : A.units + (n + 1) < cLine) (a : VRs s.heap vs (xs.map enc)) (b : VRs s.heap ws (ys.map enc)) :
    ∃ e : Nat → Bool, (∀ j (h1 : j < vs.toArray.size) (h2 : j < ws.toArray.size), EqAt A.in1 s vs.toArray[j] ws.toArray[j] (e j)) ∧
      ((List.range (min vs.toArray.size ws.toArray.size)).all e && vs.toArray.size == ws.toArray.size) = decide (xs = ys) := by
  have l1 : vs.length = xs.length := by rw [a.length, List.length_map]
  have l2 : ws.length = ys.length := by rw [b.length, List.length_map]
  refine ⟨fun j => decide (xs[j]? = ys[j]?), fun j h1 h2 => ?_, ?_⟩
  · have h1' : j < vs.length := by simpa using h1
    have h2' : j < ws.length := by simpa using h2
    obtain ⟨d, hd, vd⟩ := a.get (k := j) (v := vs[j]) (by simp)
    obtain ⟨e, he, ve⟩ := b.get (k := j) (v := ws[j]) (by simp)
    rw [List.getElem?_map, List.getElem?_eq_getElem (by omega : j < xs.length)] at hd
    rw [List.getElem?_map, List.getElem?_eq_getElem (by omega : j < ys.length)] at he
    cases hd; cases he
    have := c.eq (A := A.in1) (s := s) (by simp only [Around.in1_units]; omega) vd ve
    simp only [List.getElem?_eq_getElem (by omega : j < xs.length), List.getElem?_eq_getElem (by omega : j < ys.length), Option.some.injEq, List.getElem_toArray]
    exact this
  · simp only [List.size_toArray, l1, l2]
    by_cases h : xs = ys
    · subst h; simp
    · rw [decide_eq_false h]
      by_cases hl : xs.length = ys.length
      · rw [Bool.and_eq_false_iff]
        left
        rw [List.all_eq_false]
        have : ∃ j, j < xs.length ∧ xs[j]? ≠ ys[j]? := by
          by_cases hx : ∃ j, j < xs.length ∧ xs[j]? ≠ ys[j]?
          · exact hx
          · exfalso
            apply h
            apply List.ext_getElem? 
            intro j
            by_cases hj : j < xs.length
            · by_cases hq : xs[j]? = ys[j]?
              · exact hq
              · exact absurd ⟨j, hj, hq⟩ hx
            · rw [List.getElem?_eq_none (by omega), List.getElem?_eq_none (by omega)]
        obtain ⟨j, hj, hq⟩ := this
        exact ⟨j, by simp; omega, by simpa using hq⟩
      · simp [hl]
noncomputable def encP {α β : Type} (e : α → Dv) (f : β → Dv) (p : α × β) : Dv := .tup [e p.1, f p.2]
theorem tup_inv {h : Heap} {v : Value} {ds : List Dv} (x : VR h v (.tup ds)) : ∃ a vs n, v = .ref a ∧ h.get? a = some (tupObj vs n) ∧ VRs h vs ds := by
  cases x with | tup _ e r => exact ⟨_, _, _, rfl, e, r⟩
theorem cmpP {α β : Type} [DecidableEq α] [DecidableEq β] {e : α → Dv} {f : β → Dv} {n m : Nat} (c : Cmp e n) (d : Cmp f m) : Cmp (encP e f) (max n m + 1) where
  inj := fun {h v x y} a b => by
    obtain ⟨l, vs, k, rfl, o, r⟩ := tup_inv a
    obtain ⟨l', vs', k', e', o', r'⟩ := tup_inv b
    cases e'
    rw [o] at o'
    have := Option.some.inj o'
    simp only [tupObj, Obj.mk.injEq, Data.seq.injEq, true_and, and_true] at this
    have hv : vs = vs' := by simpa using congrArg Array.toList this.1
    subst hv
    cases r with
    | cons r1 r2 => cases r2 with
      | cons r2 r3 => cases r' with
        | cons q1 q2 => cases q2 with
          | cons q2 q3 => exact Prod.ext (c.inj r1 q1) (d.inj r2 q2)
  eq := fun {A s v u x y} hu a b => by
    obtain ⟨l, vs, k, rfl, o, r⟩ := tup_inv a
    obtain ⟨l', vs', k', rfl, o', r'⟩ := tup_inv b
    by_cases hl : l = l'
    · subst hl
      rw [o] at o'
      have := Option.some.inj o'
      simp only [tupObj, Obj.mk.injEq, Data.seq.injEq, true_and, and_true] at this
      have hv : vs = vs' := by simpa using congrArg Array.toList this.1
      subst hv
      have : x = y := by
        cases r with
        | cons r1 r2 => cases r2 with
          | cons r2 r3 => cases r' with
            | cons q1 q2 => cases q2 with
              | cons q2 q3 => exact Prod.ext (c.inj r1 q1) (d.inj r2 q2)
      rw [decide_eq_true this]
      exact EqAt.same _
    · cases r with
      | cons r1 r2 => cases r2 with
        | cons r2 r3 => cases r3; cases r' with
          | cons q1 q2 => cases q2 with
            | cons q2 q3 =>
              cases q3
              rename_i v1 v2 u1 u2
              have hb : decide (x = y) = ((List.range (min #[v1, v2].size #[u1, u2].size)).all (fun j => if j = 0 then decide (x.1 = y.1) else decide (x.2 = y.2)) && #[v1, v2].size == #[u1, u2].size) := by
                have : x = y ↔ x.1 = y.1 ∧ x.2 = y.2 := Prod.ext_iff
                simp [this, List.range, List.range.loop]
              rw [hb]
              refine EqAt.of_refs hl (RcAt.tuples ⟨_, o, rfl, _, rfl⟩ ⟨_, o', rfl, _, rfl⟩ (by omega) fun j h1 h2 => ?_)
              have hj : j = 0 ∨ j = 1 := by simp at h1; omega
              rcases hj with rfl | rfl
              · exact c.eq (by simp only [Around.in1_units]; omega) r1 q1
              · exact d.eq (by simp only [Around.in1_units]; omega) r2 q2
noncomputable abbrev encSS : Str × Str → Dv := encP Dv.str Dv.str
section
variable {Γ : Fm} {loc : Loc} {own : Own} {Q : QV} {QQ : QF}
theorem op_ne_list {α : Type} [DecidableEq α] {e : α → Dv} {n : Nat} (c : Cmp e n) {xs ys : List α} {a b : Addr} (ha : HasO a (.list (xs.map e)) own) (hb : HasO b (.list (ys.map e)) own) (hu : Γ.U + (n + 1) < cLine) (q : Q (.bool (!decide (xs = ys))) loc own) :
    Op2 Γ loc own (.raw (.ref a)) (.raw (.ref b)) (compareOp .NotEq) Q := by
  intro h₀ s v u g rel x y
  cases x; cases y
  have hU := Γ.hU
  obtain ⟨vs, k, o, r⟩ := rel.ow.at_ _ ha.mem
  obtain ⟨vs', k', o', r'⟩ := rel.ow.at_ _ hb.mem
  obtain ⟨ef, he, hq⟩ := c.rows_eq (A := Γ.A) (s := s) (by omega) r r'
  have fin : Out h₀ Γ.env.locals s Q (.bool (!decide (xs = ys))) s := ⟨_, _, _, Pers.refl.st, rel, .bool _, q⟩
  rw [← hq] at fin
  by_cases hs : vs.toArray.size = vs'.toArray.size
  · have z := RcNeAt.lists (A := Γ.A) (s := s) ⟨_, o, rfl, _, rfl⟩ ⟨_, o', rfl, _, rfl⟩ hs (by omega) he
    refine z _ _ _ _ ?_
    rw [← hs, Nat.min_self] at fin
    simpa using fin
  · have z := RcNeAt.lists_lengths (A := Γ.A) (s := s) (l := a) (b := b) ⟨_, o, rfl, _, rfl⟩ ⟨_, o', rfl, _, rfl⟩ (by simpa using hs) (by omega)
    refine z _ _ _ _ ?_
    have : (vs.toArray.size == vs'.toArray.size) = false := by simpa using hs
    rw [this, Bool.and_false] at fin
    exact fin
end
end Mine

end
section
open PySem PySem.W
open PyProof.Rows hiding wpAt wpAt_bind
set_option linter.unusedSectionVars false
set_option maxRecDepth 100000
set_option maxHeartbeats 1000000
set_option linter.unusedVariables false
set_option linter.unusedSimpArgs false
namespace Mine
variable [aI : Membership Nat Unit]
section
variable {Γ : Fm} {loc : Loc} {own own' : Own} {Q : QV} {QQ : QF}
theorem out_same {h₀ : Heap} {L : Addr} {s s' : Shared} {v : Value} {d : Dv} (rel : Rel h₀ L loc own s.heap) (e : s'.heap = s.heap) (vr : VR s.heap v d) (q : Q d loc own) (ho : s'.os = s.os := by rfl) (hg : s'.gens = s.gens := by rfl) : Out h₀ L s Q v s' :=
  ⟨d, loc, own, Pers.st (e ▸ Pers.refl) ho hg, e ▸ rel, e ▸ vr, q⟩

theorem op_add {a b : Int} (q : Q (.int (a + b)) loc own) : Op2 Γ loc own (.int a) (.int b) (binaryOp .Add) Q := by
  intro h₀ s v u g rel x y; cases x; cases y
  exact add_int (out_same rel rfl (.int _ _) q)
theorem op_mod {a b : Int} (hb : 0 < b) (q : Q (.int (a % b)) loc own) : Op2 Γ loc own (.int a) (.int b) (binaryOp .Mod) Q := by
  intro h₀ s v u g rel x y; cases x; cases y
  refine mod_int' (by omega) ?_
  rw [Int.fmod_eq_emod_of_nonneg _ (by omega)]
  exact out_same rel rfl (.int _ _) q
theorem op_div {a b : Int} (hb : 0 < b) (hp : b < 1000) (q : Q (.int (a / b)) loc own) : Op2 Γ loc own (.int a) (.int b) (binaryOp .FloorDiv) Q := by
  intro h₀ s v u g rel x y; cases x; cases y
  refine floordiv_int (by omega) ?_ (.inl ?_)
  · rw [Int.fdiv_eq_ediv_of_nonneg _ (by omega)]
    exact out_same rel rfl (.int _ _) q
  · unfold Builtin.divisionGoesByPylong
    have : b.natAbs.log2 < 10 := by
      rw [Nat.log2_lt (by omega)]
      omega
    have h1 : (if (b == 0) = true then 0 else b.natAbs.log2 / 30 + 1) ≤ 1 := by
      split
      · omega
      · omega
    simp only [Bool.and_eq_false_iff]
    left
    exact decide_eq_false (by omega)
theorem op_eq {a b : Int} (q : Q (.bool (decide (a = b))) loc own) : Op2 Γ loc own (.int a) (.int b) (compareOp .Eq) Q := by
  intro h₀ s v u g rel x y; cases x; cases y
  exact eq_int (out_same rel rfl (.bool _) (by rw [show (a == b) = decide (a = b) from rfl]; exact q))
theorem op_ne {a b : Int} (q : Q (.bool (!decide (a = b))) loc own) : Op2 Γ loc own (.int a) (.int b) (compareOp .NotEq) Q := by
  intro h₀ s v u g rel x y; cases x; cases y
  exact ne_int (out_same rel rfl (.bool _) (by rw [show (a != b) = !decide (a = b) from rfl]; exact q))
theorem op_lt {a b : Int} (q : Q (.bool (decide (a < b))) loc own) : Op2 Γ loc own (.int a) (.int b) (compareOp .Lt) Q := by
  intro h₀ s v u g rel x y; cases x; cases y
  exact lt_int (out_same rel rfl (.bool _) q)
theorem op_gt {a b : Int} (q : Q (.bool (decide (b < a))) loc own) : Op2 Γ loc own (.int a) (.int b) (compareOp .Gt) Q := by
  intro h₀ s v u g rel x y; cases x; cases y
  exact gt_int (out_same rel rfl (.bool _) q)
theorem op_cat {a b : Str} (hl : a.length + b.length ≤ 1000000) (q : Q (.str (a ++ b)) loc own) : Op2 Γ loc own (.str a) (.str b) (binaryOp .Add) Q := by
  intro h₀ s v u g rel x y; cases x; cases y
  exact add_str (fun t' k => out_same rel rfl (.str _ _) q) (by unfold sizeLine; omega)
theorem op_len_str {a : Str} (hl : a.length ≤ 1000000) (q : Q (.int a.length) loc own) : OpN Γ loc own [.str a] (fun vs => call (.builtin "len") vs) Q := by
  intro h₀ s vs g rel vr
  cases vr with | cons a b => cases b; cases a; exact len_str (by omega) (out_same rel rfl (.int _ _) q)

theorem list_at {a : Addr} {ds : List Dv} {h₀ : Heap} {L : Addr} {h : Heap} (ha : HasO a (.list ds) own) (rel : Rel h₀ L loc own h) : ∃ vs : List Value, h.IsList a vs.toArray ∧ VRs h vs ds ∧ vs.length = ds.length := by
  obtain ⟨vs, k, o, r⟩ := rel.ow.at_ _ ha.mem
  exact ⟨vs, ⟨_, o, rfl, _, rfl⟩, r, r.length⟩
theorem op_len_list {a : Addr} {ds : List Dv} (ha : HasO a (.list ds) own) (hl : ds.length ≤ 1000000) (q : Q (.int ds.length) loc own) : OpN Γ loc own [.raw (.ref a)] (fun vs => call (.builtin "len") vs) Q := by
  intro h₀ s vs g rel vr
  cases vr with
  | cons x y =>
    cases y; cases x
    obtain ⟨vs, il, r, e⟩ := list_at ha rel
    refine Calls.call_len_list il (by rw [List.size_toArray]; omega) ?_
    rw [List.size_toArray, e]
    exact out_same rel rfl (.int _ _) q
noncomputable def Sub (Γ : Fm) (loc : Loc) (own : Own) (value slice : PySem.Expr) (a b : Dv) (Q : QV) : Prop := Op2 Γ loc own a b (subscriptTail value slice) Q
theorem ev_sub {value slice : PySem.Expr} {pos : Pos} (x : Ev Γ loc own value fun a loc own => Ev Γ loc own slice fun b loc own => Sub Γ loc own value slice a b Q) : Ev Γ loc own (.Subscript value slice pos) Q := by
  intro h₀ s g rel
  exact Subscript_ (x.use g rel fun a _ _ s1 va p1 r1 v1 q1 => q1.use g r1 fun b _ _ s2 vb p2 r2 v2 q2 => q2.go g r2 (v1.mono p2.p) v2 (p1.trans p2))
noncomputable def notSlice : PySem.Expr → Bool
  | .Slice .. => false
  | _ => true
theorem subscripted_plain {slice : PySem.Expr} {o i : Value} (h : notSlice slice = true) : subscripted slice false o i = operate [o, i] (getItem o i) := by
  cases slice <;> first | rfl | cases h
theorem sub_tuple {value slice : PySem.Expr} {ds : List Dv} {k : Int} {d : Dv} (hs : notSlice slice = true) (h0 : 0 ≤ k) (hk : ds[k.toNat]? = some d) (hl : ds.length ≤ 1000000) (q : Q d loc own) :
    Sub Γ loc own value slice (.tup ds) (.int k) Q := by
  intro h₀ s v u g rel x y
  obtain ⟨l, vs, n, rfl, o, r⟩ := tup_inv x
  cases y
  obtain ⟨v, hv, vr⟩ := r.get' hk
  have hlt : k.toNat < ds.length := by
    obtain ⟨z, _⟩ := List.getElem?_eq_some_iff.mp hk; exact z
  have it : IsTup s.heap l vs.toArray := ⟨_, o, rfl, _, rfl⟩
  have hv' : vs.toArray[k.toNat]? = some v := by simpa using hv
  exact tail_any it.typeIs slot_tuple_getitem.lookup (PyProof.Rows.getItem_tuple it (by omega) (by omega) (seqIndex_of h0 (by rw [List.size_toArray, r.length]; omega)) hv' (out_same rel rfl vr q)) (subscripted_plain hs)

noncomputable def EvO (Γ : Fm) (loc : Loc) (own : Own) (e : Option PySem.Expr) (Q : QV) : Prop := match e with
  | none => Q .none loc own
  | some e => Ev Γ loc own e Q
theorem EvO.use {e : Option PySem.Expr} (x : EvO Γ loc own e Q) {h₀ : Heap} {s : Shared} {R : Value → Shared → Prop} (g : Gd Γ.K h₀) (rel : Rel h₀ Γ.env.locals loc own s.heap)
    (k : ∀ d loc own s' v, Stays s s' → Rel h₀ Γ.env.locals loc own s'.heap → VR s'.heap v d → Q d loc own → R v s') : wpAny (model Γ.prog Γ.w) Γ.A (evalPart e Γ.env) R Γ.E s := by
  cases e with
  | none => exact wpAny_pure (k _ _ _ _ _ Pers.refl.st rel .none x)
  | some e => exact Ev.use x g rel k
theorem ev_slice {lo hi st : Option PySem.Expr} {p : Pos} (x : EvO Γ loc own lo fun l loc own => EvO Γ loc own hi fun u loc own => EvO Γ loc own st fun t loc own => ∀ a, Q (.raw (.ref a)) loc ((a, .slc l u t) :: own)) : Ev Γ loc own (.Slice lo hi st p) Q := by
  intro h₀ s g rel
  refine wpAny_Slice (x.use g rel fun a _ _ s1 va p1 r1 v1 q1 => q1.use g r1 fun b _ _ s2 vb p2 r2 v2 q2 => q2.use g r2 fun c loc own s3 vc p3 r3 v3 q3 => ?_)
  have e : Ext s3.heap (s3.heap.push { cls := .type "slice", data := .fields #[va, vb, vc] }) := Ext.push _
  have pe := Ext.pers e
  exact ⟨_, _, _, ((p1.trans p2).trans p3).trans pe.st, r3.more (o := .slc a b c) e (get_size_none _) ⟨va, vb, vc, Heap.get?_push_size _ rfl, v1.mono ((p2.trans p3).p.trans pe), v2.mono (p3.p.trans pe), v3.mono pe⟩, .raw _, q3 _⟩
inductive PartD : Dv → Option Int → Prop
  | none : PartD .none none
  | int (i : Int) : PartD (.int i) (some i)
theorem PartD.is {h : Heap} {v : Value} {d : Dv} {k : Option Int} (x : PartD d k) (r : VR h v d) : IsPart v k := by
  cases x <;> cases r <;> constructor
noncomputable def pickL {α : Type} (ds : List α) (lo hi st : Option Int) : List α :=
  (sliceRange (sliceBounds lo hi st ds.length).1 (sliceBounds lo hi st ds.length).2.1 (sliceBounds lo hi st ds.length).2.2).filterMap (ds[·]?)
theorem VRs.pick {h : Heap} {vs : List Value} {ds : List Dv} (x : VRs h vs ds) : ∀ l : List Nat, VRs h (l.filterMap (vs[·]?)) (l.filterMap (ds[·]?))
  | [] => .nil
  | k :: l => by
    rw [List.filterMap_cons, List.filterMap_cons]
    cases q : vs[k]? with
    | none =>
      have : ds[k]? = none := by rw [List.getElem?_eq_none_iff] at q ⊢; rw [← x.length]; exact q
      rw [this]
      exact x.pick l
    | some v =>
      obtain ⟨d, hd, r⟩ := x.get q
      rw [hd]
      exact .cons r (x.pick l)
theorem pick_slice {h : Heap} {vs : List Value} {ds : List Dv} (x : VRs h vs ds) (lo hi st : Option Int) : ∃ ws : List Value, slicePick vs.toArray lo hi st = ws.toArray ∧ VRs h ws (pickL ds lo hi st) := by
  refine ⟨pickL vs lo hi st, ?_, ?_⟩
  · unfold slicePick pickL
    simp
  · unfold pickL
    rw [x.length]
    exact x.pick _
theorem pickL_plain {α : Type} (ds : List α) (lo hi : Option Int) :
    pickL ds lo hi none = (ds.drop (lo.elim 0 (clipAt ds.length))).take (hi.elim ds.length (clipAt ds.length) - lo.elim 0 (clipAt ds.length)) := by
  unfold pickL
  rw [sliceBounds_plain]
  simp only [sliceRange_one]
  have := pick_run ds.toArray (lo.elim 0 (clipAt ds.length)) (hi.elim ds.length (clipAt ds.length) - lo.elim 0 (clipAt ds.length))
  simpa using this
theorem pickL_upto {α : Type} (ds : List α) (n : Nat) : pickL ds none (some (n : Int)) none = ds.take n := by
  rw [pickL_plain]
  simp only [Option.elim, clipAt_nat, List.drop_zero, Nat.sub_zero]
  rcases Nat.le_total n ds.length with h | h
  · rw [Nat.min_eq_left h]
  · rw [Nat.min_eq_right h, List.take_of_length_le (Nat.le_refl _), List.take_of_length_le h]
theorem fm_congr {α β : Type} {f g : α → Option β} : ∀ {l : List α}, (∀ x ∈ l, f x = g x) → l.filterMap f = l.filterMap g
  | [], _ => rfl
  | a :: l, h => by rw [List.filterMap_cons, List.filterMap_cons, h a (.head _), fm_congr fun x hx => h x (.tail _ hx)]
theorem subscripted_any (slice : PySem.Expr) (o i : Value) : ∃ ops, subscripted slice false o i = operate ops (getItem o i) := by
  cases slice with
  | Slice l u s p => cases s <;> exact ⟨_, rfl⟩
  | _ => exact ⟨_, rfl⟩
end
end Mine

end
section
open PySem PySem.W
open PyProof.Rows hiding wpAt wpAt_bind
set_option linter.unusedSectionVars false
set_option maxRecDepth 100000
set_option maxHeartbeats 1000000
set_option linter.unusedVariables false
set_option linter.unusedSimpArgs false
namespace Mine

structure Hd where
  i : Membership Nat Unit
noncomputable def Moves (I J : Hd) (h h' : Heap) : Prop := ∀ a vs n, ¬ @Hid I.i a → h.get? a = some (tupObj vs n) → ¬ @Hid J.i a ∧ h'.get? a = some (tupObj vs n)
mutual
theorem VR.move {I J : Hd} {h h' : Heap} (k : Moves I J h h') : ∀ {v : Value} {d : Dv}, @VR I.i h v d → @VR J.i h' v d
  | _, _, @VR.none .(I.i) .(h) => @VR.none J.i h'
  | _, _, @VR.bool .(I.i) .(h) b => @VR.bool J.i h' b
  | _, _, @VR.int .(I.i) .(h) i t => @VR.int J.i h' i t
  | _, _, @VR.str .(I.i) .(h) x t => @VR.str J.i h' x t
  | _, _, @VR.tup .(I.i) .(h) _ _ _ _ n e r => @VR.tup J.i h' _ _ _ _ (k _ _ _ n e).1 (k _ _ _ n e).2 (VRs.move k r)
  | _, _, @VR.raw .(I.i) .(h) v => @VR.raw J.i h' v
theorem VRs.move {I J : Hd} {h h' : Heap} (k : Moves I J h h') : ∀ {v : List Value} {d : List Dv}, @VRs I.i h v d → @VRs J.i h' v d
  | _, _, @VRs.nil .(I.i) .(h) => @VRs.nil J.i h'
  | _, _, @VRs.cons .(I.i) .(h) _ _ _ _ a b => @VRs.cons J.i h' _ _ _ _ (VR.move k a) (VRs.move k b)
end
theorem Ents.move {I J : Hd} {h h' : Heap} (k : Moves I J h h') {es : List DictEntry} {l : List (Str × Dv)} (x : @Ents I.i h es l) : @Ents J.i h' es l := by
  induction x with
  | nil => exact @Ents.nil J.i _
  | cons a _ ih => exact @Ents.cons J.i _ _ _ _ _ _ _ _ (VR.move k a) ih
theorem OR.move {I J : Hd} {h : Heap} {a : Addr} {o : AObj} (k : Moves I J h h) (x : @OR I.i h a o) : @OR J.i h a o := by
  cases o with
  | list ds => obtain ⟨vs, n, p, q⟩ := x; exact ⟨vs, n, p, VRs.move k q⟩
  | acc C d ds => obtain ⟨vs, n, p, q⟩ := x; exact ⟨vs, n, p, VRs.move k q⟩
  | inst C d => exact x
  | idict l => obtain ⟨vs, n, p, q⟩ := x; exact ⟨vs, n, p, Ents.move k q⟩
  | cell d =>
    cases d with
    | none => exact x
    | some d => obtain ⟨v, p, q⟩ := x; exact ⟨v, p, VR.move k q⟩
  | tab => exact x
  | slc l u s => obtain ⟨a1, a2, a3, p, q1, q2, q3⟩ := x; exact ⟨a1, a2, a3, p, VR.move k q1, VR.move k q2, VR.move k q3⟩
  | fix o ds => obtain ⟨p, q, vs, n, e, r⟩ := x; exact ⟨p, q, vs, n, e, VRs.move k r⟩
  | any P => exact x
theorem Rel.move {I J : Hd} {h₀ h : Heap} {L : Addr} {loc : Loc} {own : Own} (k : Moves I J h h) (r : @Rel I.i h₀ L loc own h) : @Rel J.i h₀ L loc own h := by
  obtain ⟨⟨r1, r2, r3, r4⟩, ⟨m, n, z⟩, l2, l3, l4⟩ := r
  exact @Rel.mk J.i _ _ _ _ _ (@OwnOk.mk J.i _ _ _ r1 (fun p hp => OR.move k (r2 p hp)) r3 r4) (@LocOk.mk J.i _ _ _ _ _ ⟨m, n, fun x d hx => let ⟨v, a, b⟩ := z x d hx; ⟨v, a, VR.move k b⟩⟩ l2 l3 l4)
structure More (I J : Hd) (F : List Addr) (h : Heap) : Prop where
  sub : ∀ a, @Hid I.i a → @Hid J.i a
  new : ∀ a, @Hid J.i a → @Hid I.i a ∨ (a ∈ F ∧ ∀ vs n, h.get? a ≠ some (tupObj vs n))
theorem More.refl {I : Hd} {F : List Addr} {h : Heap} : More I I F h := ⟨fun _ z => z, fun _ z => .inl z⟩
theorem More.down {I J : Hd} {F : List Addr} {h h' : Heap} (m : More I J F h) : Moves J I h' h' := fun a vs n hn e => ⟨fun z => hn (m.sub a z), e⟩
theorem More.up {I J : Hd} {F : List Addr} {h : Heap} (m : More I J F h) : Moves I J h h := fun a vs n hn e => ⟨fun z => by
  rcases m.new a z with z | ⟨_, z⟩
  · exact hn z
  · exact z _ _ e, e⟩
theorem More.pers {I J : Hd} {F : List Addr} {a b c : Heap} (m : More I J F a) (x : @Pers I.i a b) (y : @Pers J.i b c) : @Pers I.i a c := fun d vs n hn e => y d vs n (m.up d vs n hn e).1 (x d vs n hn e)
theorem More.trans {I J : Hd} {F : List Addr} {a b c : Shared} (m : More I J F a.heap) (x : @Stays I.i a b) (y : @Stays J.i b c) : @Stays I.i a c := by
  obtain ⟨x1, x2, x3⟩ := x
  obtain ⟨y1, y2, y3⟩ := y
  exact @Stays.mk I.i _ _ (m.pers x1 y1) (y2.trans x2) fun h => y3 (x3 h)
structure Apart (F : List Addr) (h₀ : Heap) (L : Addr) (own : Own) : Prop where
  base : ∀ a ∈ F, h₀.get? a = none
  fr : ∀ a ∈ F, a ≠ L
  own : ∀ a ∈ F, ∀ p ∈ own, p.1 ≠ a
theorem Gd.turn {I J : Hd} {K : Frag} {h₀ h h' : Heap} {L : Addr} {F : List Addr} {loc : Loc} {own : Own} (g : @Gd I.i K h₀) (m : More I J F h) (ex : Ext h₀ (hideAll h' (L :: own.map (·.1)))) (ap : Apart F h₀ L own) (th : ∀ a ∈ F, ∃ o, h'.get? a = some o) :
    @Gd J.i K (hideAll h' (L :: own.map (·.1))) := by
  obtain ⟨g1, g2, g3, g4, g5⟩ := @Gd.ext I.i _ _ _ g ex
  refine @Gd.mk J.i _ _ g1 g2 g3 g4 fun a z => ?_
  rcases m.new a z with z | ⟨hf, _⟩
  · exact g5 a z
  · obtain ⟨o, ho⟩ := th a hf
    refine ⟨o, hideAll_get _ ho fun q => ?_⟩
    rcases List.mem_cons.mp q with z | q
    · exact ap.fr a hf z
    · obtain ⟨p, hpp, z⟩ := List.mem_map.mp q
      exact ap.own a hf p hpp z
theorem More.alloc {I J : Hd} {K : Frag} {h₀ h h' : Heap} {F : List Addr} (m : More I J F h) (g : @Gd I.i K h₀) (ex : Ext h₀ h') (th : ∀ a ∈ F, ∃ o, h'.get? a = some o) : ∀ a, @Hid J.i a → ∃ o, h'.get? a = some o := fun a z => by
  obtain ⟨g1, g2, g3, g4, g5⟩ := g
  rcases m.new a z with z | ⟨hf, _⟩
  · obtain ⟨o, e⟩ := g5 a z; exact ⟨o, ex _ _ e⟩
  · exact th a hf
variable [aI : Membership Nat Unit]
theorem Rel.rebase {h₀ h : Heap} {L : Addr} {loc : Loc} {own : Own} (r : Rel h₀ L loc own h) :
    Rel (hideAll h (L :: own.map (·.1))) L loc own h ∧ Ext h₀ (hideAll h (L :: own.map (·.1))) := by
  refine ⟨⟨⟨fun b o e => of_hideAll _ e, r.ow.at_, fun p hp => hideAll_none _ (.tail _ (List.mem_map_of_mem hp)), r.ow.nd⟩, ⟨r.lc.ns, hideAll_none _ (.head _), r.lc.off, r.lc.nd⟩⟩,
    fun b o e => hideAll_get _ (r.ow.keep b o e) fun q => ?_⟩
  rcases List.mem_cons.mp q with rfl | q
  · rw [r.lc.fresh] at e; cases e
  · obtain ⟨p, hp, rfl⟩ := List.mem_map.mp q
    rw [r.ow.off p hp] at e; cases e
theorem Rel.unbase {h₀ h₁ h : Heap} {L : Addr} {loc : Loc} {own : Own} (r : Rel h₁ L loc own h) (e : Ext h₀ h₁) : Rel h₀ L loc own h :=
  ⟨⟨fun b o q => r.ow.keep b o (e b o q), r.ow.at_, fun p hp => e.none (r.ow.off p hp), r.ow.nd⟩, ⟨r.lc.ns, e.none r.lc.fresh, r.lc.off, r.lc.nd⟩⟩
noncomputable def ExtOff (F : List Addr) (h h' : Heap) : Prop := ∀ b o, b ∉ F → h.get? b = some o → h'.get? b = some o
theorem ExtOff.trans {F : List Addr} {a b c : Heap} (x : ExtOff F a b) (y : ExtOff F b c) : ExtOff F a c := fun d o n e => y d o n (x d o n e)
theorem Rel.others {h₀ h h' : Heap} {L : Addr} {F : List Addr} {loc : Loc} {own : Own} (r : Rel h₀ L loc own h) (e : ExtOff F h h') (ap : Apart F h₀ L own) (hp : Pers h h') : Rel h₀ L loc own h' := by
  refine ⟨⟨fun b o q => e b o (fun z => by rw [ap.base b z] at q; cases q) (r.ow.keep b o q), fun p hq => ?_, r.ow.off, r.ow.nd⟩, ⟨?_, r.lc.fresh, r.lc.off, r.lc.nd⟩⟩
  · obtain ⟨ob, q, _⟩ := (r.ow.at_ p hq).some
    exact (r.ow.at_ p hq).mono hp ((e _ _ (fun z => ap.own _ z p hq rfl) q).trans q.symm)
  · obtain ⟨m, ⟨o, es, ep, q, z⟩, k⟩ := r.lc.ns
    exact ⟨m, ⟨o, es, ep, e _ _ (fun z => ap.fr _ z rfl) q, z⟩, fun x d hx => by obtain ⟨v, a, b⟩ := k x d hx; exact ⟨v, a, b.mono hp⟩⟩

structure Src (prog : Program) (w : World) (A : Around) (tg : PySem.Expr) (it : Value) (F : List Addr) (ds : List Dv) (H : Own → Prop) (P : Nat → Heap → Prop) (M : Nat → Value → Heap → Prop) : Prop where
  mono : ∀ {own : Own} {p : Addr × AObj}, H own → H (p :: own)
  keep : ∀ {k : Nat} {h h' : Heap}, P k h → (∀ a ∈ F, h'.get? a = h.get? a) → P k h'
  there : ∀ {k : Nat} {h : Heap}, P k h → ∀ a ∈ F, ∃ o, h.get? a = some o
  next : ∀ {k : Nat} {d : Dv} {h₀ : Heap} {L : Addr} {loc : Loc} {own : Own} {s : Shared} {E : Value → Shared → Prop} {R : Option Value → Shared → Prop}, ds[k]? = some d → P k s.heap → Rel h₀ L loc own s.heap → Apart F h₀ L own → H own → (∀ a, Hid a → ∃ o, s.heap.get? a = some o) →
    (∀ v s', VR s'.heap v d → M (k + 1) v s'.heap → ExtOff F s.heap s'.heap → Stays s s' → R (some v) s') → wpAny (model prog w) A (pyNext it) R E s
  stop : ∀ {h₀ : Heap} {L : Addr} {loc : Loc} {own : Own} {s : Shared} {E : Value → Shared → Prop} {R : Option Value → Shared → Prop}, P ds.length s.heap → Rel h₀ L loc own s.heap → Apart F h₀ L own → H own →
    (∀ s', ExtOff F s.heap s'.heap → Stays s s' → R none s') → wpAny (model prog w) A (pyNext it) R E s
  go : ∀ {k : Nat} {d : Dv} {v : Value} {s : Shared} {E : Value → Shared → Prop} {R : Unit → Shared → Prop}, VR s.heap v d → M k v s.heap →
    (∀ s', P k s'.heap → ExtOff F s.heap s'.heap → Stays s s' → R () s') → wpAny (model prog w) A (letOwnedTupleGo tg it v) R E s

section
variable {Γ : Fm} {loc : Loc} {own own' : Own} {Q : QV} {QQ : QF}

theorem for_src {I₀ : Hd} {tg : PySem.Expr} {body orelse : List Stmt} {it : Value} {F : List Addr} {ds : List Dv} {H : Own → Prop} {P : Nat → Heap → Prop} {M : Nat → Value → Heap → Prop} (S : Src Γ.prog Γ.w Γ.A tg it F ds H P M) (hE : Γ.E = fun _ _ => False)
    {I : Nat → Loc → Own → Prop} {h₀ : Heap} {h s : Shared} (m : More I₀ ⟨inferInstance⟩ F h.heap) (g : @Gd I₀.i Γ.K h₀) (rel : Rel h₀ Γ.env.locals loc own s.heap) (ap : Apart F h₀ Γ.env.locals own) (pe : @Stays I₀.i h s) (p0 : P 0 s.heap)
    (i0 : I 0 loc own) (ih : ∀ k loc own, I k loc own → H own)
    (step : ∀ k d loc own, ds[k]? = some d → I k loc own → As Γ loc own tg d fun loc own => Exs Γ loc own body fun fl loc own => match fl with
        | .next | .cont => I (k + 1) loc own
        | .brk => QQ .next loc own
        | .ret d => QQ (.ret d) loc own)
    (fin : ∀ loc own, I ds.length loc own → @Exs I₀.i Γ loc own orelse QQ) :
    codeAny (model Γ.prog Γ.w) Γ.A (.forLoop tg it body orelse Γ.env) (fun r s' => match r with | .ok f => @OutF I₀.i h₀ Γ.env.locals h QQ f s' | .error e => cameBackBy (model Γ.prog Γ.w) Γ.A Γ.env Γ.E e s') s := by
  refine codeAny_loop' rfl (fun n s' => ∃ k loc own, n + k = ds.length ∧ I k loc own ∧ P k s'.heap ∧ Rel h₀ Γ.env.locals loc own s'.heap ∧ Apart F h₀ Γ.env.locals own ∧ @Stays I₀.i h s') (fun n s1 hI => ?_) ds.length ⟨0, loc, own, rfl, i0, p0, rel, ap, pe⟩
  clear i0 p0 rel ap pe
  obtain ⟨k, loc, own, hn, hi, hp, rel, ap, pe⟩ := hI
  show wpAny _ _ ((forTurn tg it body orelse Γ.env).onRaise (fun x => do noteFrame x Γ.env; theTreesLotGoes x)) _ _ s1
  refine wpAny_noted ?_
  simp only [forTurn]
  refine wpAny_bind (wpAny_standAt (wpAny_bind (wpAny_onRaise ?_)))
  by_cases hk : k < ds.length
  · have hd : ds[k]? = some ds[k] := List.getElem?_eq_getElem hk
    refine S.next hd hp rel ap (ih _ _ _ hi) (m.alloc g rel.ow.keep (S.there hp)) fun v s2 vr hp2 eo pp => ?_
    refine wpAny_bind (S.go vr hp2 fun s3 hp3 eo3 pp3 => ?_)
    have pp13 := pp.trans pp3
    have rel3 := rel.others (eo.trans eo3) ap pp13.p
    obtain ⟨relb, exb⟩ := rel3.rebase
    have gb : Gd Γ.K _ := Gd.turn (loc := loc) g m exb ap (S.there hp3)
    refine wpAny_bind (wpAny_mono (step k _ loc own hd hi _ s3 v gb relb (vr.mono pp3.p)) (fun _ s4 ⟨loc4, own4, p4, r4, q4⟩ => ?_) fun e s' z => by rw [hE] at z; exact z.elim)
    refine wpAny_bind (wpAny_mono (q4 _ s4 gb r4) (fun f s5 ⟨a, loc5, own5, p5, r5, fr, q5⟩ => ?_) fun e s' z => by rw [hE] at z; exact z.elim)
    have r5' := r5.unbase exb
    have p5' : @Stays I₀.i h s5 := m.trans pe ((pp13.trans p4).trans p5)
    have same : ∀ a ∈ F, s5.heap.get? a = s3.heap.get? a := fun a ha => by
      obtain ⟨o, ho⟩ := S.there hp3 a ha
      rw [ho]
      refine r5.ow.keep a o (hideAll_get _ ho fun q => ?_)
      rcases List.mem_cons.mp q with z | q
      · exact ap.fr a ha z
      · obtain ⟨p, hpp, z⟩ := List.mem_map.mp q
        exact ap.own a ha p hpp z
    have ap5 : Apart F h₀ Γ.env.locals own5 := ⟨ap.base, ap.fr, fun a ha p hpp z => by
      obtain ⟨o, ho⟩ := S.there hp3 a ha
      have := r5.ow.off p hpp
      rw [z, hideAll_get _ ho fun q => ?_] at this
      · cases this
      rcases List.mem_cons.mp q with z | q
      · exact ap.fr a ha z
      · obtain ⟨p, hpp, z⟩ := List.mem_map.mp q
        exact ap.own a ha p hpp z⟩
    cases fr with
    | next => exact wpAny_pure (.inl ⟨rfl, n - 1, by omega, k + 1, loc5, own5, by omega, q5, S.keep hp3 same, r5', ap5, p5'⟩)
    | cont => exact wpAny_pure (.inl ⟨rfl, n - 1, by omega, k + 1, loc5, own5, by omega, q5, S.keep hp3 same, r5', ap5, p5'⟩)
    | brk => exact wpAny_pure (@OutF.mk I₀.i _ _ _ _ _ _ _ _ _ p5' (Rel.move m.down r5') (@FR.next I₀.i _) q5)
    | ret v => exact wpAny_pure (@OutF.mk I₀.i _ _ _ _ _ _ _ _ _ p5' (Rel.move m.down r5') (@FR.ret I₀.i _ _ _ (VR.move m.down v)) q5)
  · have : k = ds.length := by omega
    subst this
    refine S.stop hp rel ap (ih _ _ _ hi) fun s2 eo pp => wpAny_pure (.inr ⟨rfl, codeAny_block ?_⟩)
    have rel2 := rel.others eo ap pp.p
    refine wpAny_mono (@Exs.go I₀.i _ _ _ _ _ (fin _ _ hi) _ _ _ g (Rel.move m.down rel2) (m.trans pe pp)) (fun _ _ z => z) fun e s' z => by rw [hE] at z; exact z.elim

theorem go_plain {prog : Program} {w : World} {A : Around} {it : Addr} {o : Obj} {T : String} {tg : PySem.Expr} {v : Value} {s : Shared} {E : Value → Shared → Prop} {R : Unit → Shared → Prop} (ho : s.heap.get? it = some o) (hc : o.cls = .type T)
    (hT : (["enumerate", "zip", "dict_itemiterator", "dict_reverseitemiterator", "odict_iterator", "itertools.zip_longest", "itertools.pairwise"].contains T) = false) (z : R () s) : wpAny (model prog w) A (letOwnedTupleGo tg (.ref it) v) R E s := by
  have main : ∀ a, wpAny (model prog w) A (do
      let o ← load it
      match o.cls, o.data with
      | .type n, .fields vs =>
        if ["enumerate", "zip", "dict_itemiterator", "dict_reverseitemiterator", "odict_iterator", "itertools.zip_longest", "itertools.pairwise"].contains n && vs[0]? == some (rawInt a) then
          rule "for.unpacks-the-owned-tuple"
          updateField it 0 .none
      | _, _ => pure ()) R E s := fun a => by
    refine wpAny_bind (wpAny_load ho ?_)
    rw [hc]
    cases o.data <;> first
      | exact wpAny_pure z
      | (simp only [hT, Bool.false_and, Bool.false_eq_true, if_false]; exact wpAny_pure z)
  cases tg <;> cases v <;> first
    | exact wpAny_pure z
    | exact main _
theorem apart_new {h₀ h : Heap} {L : Addr} (r : Rel h₀ L loc own h) : Apart [h.objs.size] h₀ L own := by
  have n := get_size_none h
  refine ⟨fun a ha => ?_, fun a ha z => ?_, fun a ha p hp z => ?_⟩ <;> (rcases List.mem_cons.mp ha with rfl | ha; rotate_left; cases ha)
  · exact r.ow.keep.none n
  · obtain ⟨m, ⟨o, _, _, q, _⟩, _⟩ := r.lc.ns
    rw [← z, n] at q; cases q
  · obtain ⟨o, q, _⟩ := (r.ow.at_ p hp).some
    rw [z, n] at q; cases q
theorem src_list (hh : Γ.A.handled = none) {tg : PySem.Expr} {it l : Addr} {ds : List Dv} (hl : l ≠ it) : Src Γ.prog Γ.w Γ.A tg (.ref it) [it] ds (fun own => HasO l (.list ds) own) (fun k h => h.IsListIter it l k) (fun k _ h => h.IsListIter it l k) where
  mono := fun h => .there h
  keep := fun {k h h'} ⟨o, a, b⟩ q => ⟨o, (q it (.head _)).trans a, b⟩
  there := fun {k h} ⟨o, a, b⟩ c hc => by rcases List.mem_cons.mp hc with rfl | hc; exact ⟨o, a⟩; cases hc
  next := fun {k d h₀ L loc own s E R} hd hp rel ap ho _ kk => by
    obtain ⟨vs, il, r, e⟩ := list_at ho rel
    obtain ⟨v, hv, vr⟩ := r.get' hd
    obtain ⟨o, ho', hc', hd'⟩ := id hp
    refine wpAny_pyNext_list_item hp il (by simpa using hv) fun h' hi hs => ?_
    have pp : Pers s.heap h' := fun a vs n _ q => (hs.2 a fun z => by subst z; rw [ho'] at q; cases q; simp at hc').trans q
    exact kk v _ (vr.mono pp) hi (fun b o n e => (hs.2 b fun z => n (z ▸ .head _)).trans e) pp.st
  stop := fun {h₀ L loc own s E R} hp rel ap ho kk => by
    obtain ⟨vs, il, r, e⟩ := list_at ho rel
    obtain ⟨o, ho', hc', hd'⟩ := id hp
    refine wpAny_pyNext_list_end hh hp il (by simp [e]) fun h' hs => ?_
    have pp : Pers s.heap h' := fun a vs n _ q => hs a _ (fun z => by subst z; rw [ho'] at q; cases q; simp at hc') q
    exact kk _ (fun b o n e => hs b o (fun z => n (z ▸ .head _)) e) pp.st
  go := fun {k d v s E R} vr hp kk => by
    obtain ⟨o, ho, hc, hd⟩ := id hp
    exact go_plain ho hc (by decide) (kk s hp (fun _ _ _ e => e) (Pers.st .refl))
end
end Mine

end
section
open PySem PySem.W
open PyProof.Rows hiding wpAt wpAt_bind
set_option linter.unusedSectionVars false
set_option maxRecDepth 100000
set_option maxHeartbeats 1000000
set_option linter.unusedVariables false
set_option linter.unusedSimpArgs false
namespace Mine
variable [aI : Membership Nat Unit]

theorem Rel.inner {h₀ h : Heap} {L C : Addr} {loc : Loc} {own : Own} {F : List Addr} {m : Str → Option Value} (r : Rel h₀ L loc own h) (ap : Apart F h₀ L own) (hC : h.Ns C m) (c0 : h₀.get? C = none) (cL : C ≠ L) (co : ∀ p ∈ own, p.1 ≠ C) (cF : C ∉ F) :
    Rel (hideAll h (C :: (F ++ own.map (·.1)))) C [] own h ∧ Apart F (hideAll h (C :: (F ++ own.map (·.1)))) C own ∧ Ext h₀ (hideAll h (C :: (F ++ own.map (·.1)))) ∧
      ∀ o, h.get? L = some o → (hideAll h (C :: (F ++ own.map (·.1)))).get? L = some o := by
  refine ⟨⟨⟨fun b o e => of_hideAll _ e, r.ow.at_, fun p hp => hideAll_none _ (.tail _ (List.mem_append_right _ (List.mem_map_of_mem hp))), r.ow.nd⟩, ⟨⟨m, hC, fun _ _ h => (nomatch h)⟩, hideAll_none _ (.head _), co, by simp⟩⟩,
    ⟨fun a ha => hideAll_none _ (.tail _ (List.mem_append_left _ ha)), fun a ha z => cF (z ▸ ha), ap.own⟩, fun b o e => hideAll_get _ (r.ow.keep b o e) fun q => ?_, fun o e => hideAll_get _ e fun q => ?_⟩
  · rcases List.mem_cons.mp q with rfl | q
    · rw [c0] at e; cases e
    · rcases List.mem_append.mp q with q | q
      · rw [ap.base _ q] at e; cases e
      · obtain ⟨p, hp, rfl⟩ := List.mem_map.mp q
        rw [r.ow.off p hp] at e; cases e
  · rcases List.mem_cons.mp q with z | q
    · exact cL z.symm
    · rcases List.mem_append.mp q with q | q
      · exact ap.fr _ q rfl
      · obtain ⟨p, hp, z⟩ := List.mem_map.mp q
        exact r.lc.off p hp z
theorem Rel.outer {h₀ hc h h' : Heap} {L C : Addr} {loc locc : Loc} {own own' : Own} (r : Rel h₀ L loc own h) (i : Rel hc C locc own' h') (e : Ext h₀ hc) (k : ∀ o, h.get? L = some o → hc.get? L = some o) (p : Pers h h') : Rel h₀ L loc own' h' := by
  obtain ⟨m, ⟨oL, es, ep, hL, rr⟩, n⟩ := r.lc.ns
  refine ⟨⟨fun b o q => i.ow.keep b o (e b o q), i.ow.at_, fun p hp => e.none (i.ow.off p hp), i.ow.nd⟩, ⟨⟨m, ⟨oL, es, ep, i.ow.keep _ _ (k _ hL), rr⟩, fun x d hx => ?_⟩, r.lc.fresh, fun p hp z => ?_, r.lc.nd⟩⟩
  · obtain ⟨v, a, b⟩ := n x d hx; exact ⟨v, a, b.mono p⟩
  · have := i.ow.off p hp
    rw [z, k _ hL] at this; cases this
theorem Rel.forget {h₀ h : Heap} {L : Addr} {loc : Loc} {own : Own} (r : Rel h₀ L loc own h) : Rel h₀ L [] own h :=
  ⟨r.ow, ⟨let ⟨m, n, _⟩ := r.lc.ns; ⟨m, n, fun _ _ h => (nomatch h)⟩, r.lc.fresh, r.lc.off, by simp⟩⟩

noncomputable def SelfIter (prog : Program) (w : World) (A : Around) (it : Value) (P : Heap → Prop) : Prop :=
  ∀ {s : Shared} {E : Value → Shared → Prop} {R : Value → Shared → Prop}, P s.heap → R it s → wpAny (model prog w) A (pyIter it) R E s

section
variable {Γ : Fm} {loc : Loc} {own own' : Own} {Q : QV} {QQ : QF}

inductive ItOut (Γ : Fm) (h₀ : Heap) (s : Shared) (tg : PySem.Expr) (Q : List Dv → (Own → Prop) → Loc → Own → Prop) (it : Value) (s₂ : Shared) : Prop
  | mk (J : Hd) (F : List Addr) (ds : List Dv) (H : Own → Prop) (P : Nat → Heap → Prop) (M : Nat → Value → Heap → Prop) (loc : Loc) (own : Own) : More ⟨inferInstance⟩ J F s.heap → Stays s s₂ → @Rel J.i h₀ Γ.env.locals loc own s₂.heap → Apart F h₀ Γ.env.locals own → @Src J.i Γ.prog Γ.w Γ.A tg it F ds H P M → P 0 s₂.heap → SelfIter Γ.prog Γ.w Γ.A it (P 0) → H own → Q ds H loc own → ItOut Γ h₀ s tg Q it s₂
noncomputable def It (Γ : Fm) (loc : Loc) (own : Own) (tg e : PySem.Expr) (Q : List Dv → (Own → Prop) → Loc → Own → Prop) : Prop :=
  ∀ h₀ s, Gd Γ.K h₀ → Rel h₀ Γ.env.locals loc own s.heap → wpAny (model Γ.prog Γ.w) Γ.A (eval e Γ.env) (fun x s₁ => wpAny (model Γ.prog Γ.w) Γ.A (pyIter x) (ItOut Γ h₀ s tg Q) Γ.E s₁) Γ.E s

theorem it_list {tg e : PySem.Expr} {Q : List Dv → (Own → Prop) → Loc → Own → Prop} (x : Ev Γ loc own e fun d loc own => ∃ l ds, d = .raw (.ref l) ∧ HasO l (.list ds) own ∧ Q ds (fun own => HasO l (.list ds) own) loc own) : It Γ loc own tg e Q := by
  intro h₀ s g rel
  refine x.use g rel fun d loc own s1 v p1 r1 v1 ⟨l, ds, hd, hl, q⟩ => ?_
  subst hd
  cases v1
  obtain ⟨vs, il, r, e⟩ := list_at hl r1
  refine wpAny_pyIter_list il ?_
  have ex : Ext s1.heap (s1.heap.push { cls := .type "list_iterator", data := .fields #[.ref l, .int 0 0] }) := Ext.push _
  have hne : l ≠ s1.heap.objs.size := by obtain ⟨o, ho, _⟩ := il; exact Nat.ne_of_lt (Heap.lt_size ho)
  exact ⟨⟨inferInstance⟩, _, ds, _, _, _, loc, own, .refl, p1.trans (Ext.pers ex).st, r1.ext ex, apart_new r1, src_list Γ.hh hne, ⟨_, Heap.get?_push_size _ rfl, rfl, rfl⟩, fun hp rr => wpAny_pyIter_listiter hp rr, hl, q⟩

theorem ex_forI {tg iter : PySem.Expr} {body orelse : List Stmt} {pos : Pos} (hE : Γ.E = fun _ _ => False) (hs : ∀ x, foldedSetIterable iter Γ.env x = pure x)
    (x : It Γ loc own tg iter fun ds H loc own => ∃ I : Nat → Loc → Own → Prop, I 0 loc own ∧ (∀ k loc own, I k loc own → H own) ∧
      (∀ k d loc own, ds[k]? = some d → I k loc own → ∀ [Membership Nat Unit], As Γ loc own tg d fun loc own => Exs Γ loc own body fun fl loc own => match fl with
        | .next | .cont => I (k + 1) loc own
        | .brk => QQ .next loc own
        | .ret d => QQ (.ret d) loc own) ∧
      (∀ loc own, I ds.length loc own → Exs Γ loc own orelse QQ)) : Ex Γ loc own (.For tg iter body orelse pos) QQ := by
  intro h₀ s g rel
  refine wpAny_For (wpAny_mono (x h₀ s g rel) (fun v s1 y => wpAny_mono y (fun it s2 ⟨J, F, ds, H, P, M, loc, own, mo, pe, r, ap, S, p0, _, _, I, i0, ih, step, fin⟩ => ?_) fun _ _ z => z) fun _ _ z => z) hs
  exact @for_src J.i _ _ _ _ ⟨inferInstance⟩ _ _ _ _ _ _ _ _ _ S hE _ _ _ _ mo g r ap pe p0 i0 ih (fun k d loc own a b => @step k d loc own a b J.i) fin

noncomputable abbrev compFm (Γ : Fm) (scope : Scope) (cl : List (Str × Addr)) (C : Addr) (hk : scope.kind = .function) : Fm :=
  { prog := Γ.prog, w := Γ.w, K := Γ.K, A := Γ.A, env := compEnvC scope cl C Γ.env, E := fun _ _ => False, D := Γ.D, U := Γ.U, hh := Γ.hh, hD := Γ.hD, hU := Γ.hU, hk := hk, hg := Γ.hg, hb := Γ.hb }

noncomputable def Elt (Γ : Fm) (loc : Loc) (own : Own) (ifs : List PySem.Expr) (elt : PySem.Expr) (Q : Option Dv → Loc → Own → Prop) : Prop := match ifs with
  | [] => Ev Γ loc own elt fun d loc own => Q (some d) loc own
  | [c] => Tst Γ loc own c fun b loc own => if b then Ev Γ loc own elt fun d loc own => Q (some d) loc own else Q none loc own
  | _ => False

theorem comp_src {I₀ : Hd} {Γ : Fm} {elt tg iter : PySem.Expr} {ifs : List PySem.Expr} {scope : Scope} {pos : Pos} {it : Value} {acc : Addr} {F : List Addr} {ds : List Dv} {H : Own → Prop} {P : Nat → Heap → Prop} {M : Nat → Value → Heap → Prop} (S : Src Γ.prog Γ.w Γ.A tg it F ds H P M) (hE : Γ.E = fun _ _ => False)
    {J : Nat → Own → List Dv → Prop} {R : Result → Shared → Prop} {h₀ : Heap} {h : Shared} {own : Own} {s : Shared} {h1 : Shared} (m : More I₀ ⟨inferInstance⟩ F h.heap) (g : @Gd I₀.i Γ.K h₀) (rel : Rel h₀ Γ.env.locals [] ((acc, .list []) :: own) s.heap) (ap : Apart F h₀ Γ.env.locals ((acc, .list []) :: own)) (pe : @Stays I₀.i h s) (pe1 : Stays h1 s) (p0 : P 0 s.heap)
    (i0 : J 0 own []) (ih : ∀ k own res, J k own res → H ((acc, .list res) :: own)) (il : ∀ k own res, J k own res → res.length ≤ 100000)
    (step : ∀ k d own res, ds[k]? = some d → J k own res → As Γ [] ((acc, .list res) :: own) tg d fun loc own' => Elt Γ loc own' ifs elt fun o loc own' => ∃ own2, ((acc, .list res) :: own2).Sublist own' ∧ match o with
      | some v => J (k + 1) own2 (res ++ [v])
      | none => J (k + 1) own2 res)
    (fin : ∀ own res s', J ds.length own res → Rel h₀ Γ.env.locals [] ((acc, .list res) :: own) s'.heap → @Stays I₀.i h s' → Stays h1 s' → R (.ok .next) s') :
    codeAny (model Γ.prog Γ.w) Γ.A (.compLoop (.ListComp elt [⟨tg, iter, ifs, 0⟩] scope pos) 0 it (.ref acc) Γ.env) R s := by
  refine codeAny_loop rfl (fun n s' => ∃ k own res, n + k = ds.length ∧ J k own res ∧ P k s'.heap ∧ Rel h₀ Γ.env.locals [] ((acc, .list res) :: own) s'.heap ∧ Apart F h₀ Γ.env.locals ((acc, .list res) :: own) ∧ @Stays I₀.i h s' ∧ Stays h1 s') (fun n s1 hI => ?_) ds.length ⟨0, own, [], rfl, i0, p0, rel, ap, pe, pe1⟩
  clear i0 p0 rel ap pe pe1
  obtain ⟨k, own, res, hn, hi, hp, rel, ap, pe, pe1⟩ := hI
  show wpAny _ Γ.A ((compTurn (.ListComp elt [⟨tg, iter, ifs, 0⟩] scope pos) 0 it (.ref acc) Γ.env).onRaise (fun x => do noteFrame x Γ.env; theTreesLotGoes x)) _ _ s1
  refine wpAny_noted ?_
  rw [compTurn_list]
  refine wpAny_bind (wpAny_standAt (wpAny_bind ?_))
  by_cases hk : k < ds.length
  · have hd : ds[k]? = some ds[k] := List.getElem?_eq_getElem hk
    refine S.next hd hp rel ap (ih _ _ _ hi) (m.alloc g rel.ow.keep (S.there hp)) fun v s2 vr hp2 eo pp => ?_
    refine wpAny_bind (S.go vr hp2 fun s3 hp3 eo3 pp3 => ?_)
    have rel3 := rel.others (eo.trans eo3) ap (pp.trans pp3).p
    obtain ⟨relb, exb⟩ := rel3.rebase
    have gb : Gd Γ.K _ := Gd.turn (loc := []) g m exb ap (S.there hp3)
    have same : ∀ (loc5 : Loc) (own5 : Own) (h5 : Heap), Rel (hideAll s3.heap (Γ.env.locals :: ((acc, AObj.list res) :: own).map (·.1))) Γ.env.locals loc5 own5 h5 → (∀ a ∈ F, h5.get? a = s3.heap.get? a) ∧ Apart F h₀ Γ.env.locals own5 := fun loc5 own5 h5 r5 => by
      have hid : ∀ a ∈ F, ∀ o, s3.heap.get? a = some o → (hideAll s3.heap (Γ.env.locals :: ((acc, AObj.list res) :: own).map (·.1))).get? a = some o := fun a ha o ho => hideAll_get _ ho fun q => by
        rcases List.mem_cons.mp q with z | q
        · exact ap.fr a ha z
        · obtain ⟨p, hpp, z⟩ := List.mem_map.mp q
          exact ap.own a ha p hpp z
      refine ⟨fun a ha => ?_, ap.base, ap.fr, fun a ha p hpp z => ?_⟩
      · obtain ⟨o, ho⟩ := S.there hp3 a ha
        rw [ho]
        exact r5.ow.keep a o (hid a ha o ho)
      · obtain ⟨o, ho⟩ := S.there hp3 a ha
        have := r5.ow.off p hpp
        rw [z, hid a ha o ho] at this
        cases this
    refine wpAny_bind (wpAny_mono (step k _ own res hd hi _ s3 v gb relb (vr.mono pp3.p)) (fun _ s4 ⟨loc4, own4, p4, r4, q4⟩ => ?_) fun e s' z => by rw [hE] at z; exact z.elim)
    have p14 := (pp.trans pp3).trans p4
    have skip : ∀ (loc5 : Loc) (own5 own2 : Own) (s5 : Shared), Stays s1 s5 → Rel _ Γ.env.locals loc5 own5 s5.heap → ((acc, AObj.list res) :: own2).Sublist own5 → J (k + 1) own2 res → (Code.compLoop (.ListComp elt [⟨tg, iter, ifs, 0⟩] scope pos) 0 it (.ref acc) Γ.env = Code.compLoop (.ListComp elt [⟨tg, iter, ifs, 0⟩] scope pos) 0 it (.ref acc) Γ.env ∧
        ∃ m, m < n ∧ ∃ k own res, m + k = ds.length ∧ J k own res ∧ P k s5.heap ∧ Rel h₀ Γ.env.locals [] ((acc, .list res) :: own) s5.heap ∧ Apart F h₀ Γ.env.locals ((acc, .list res) :: own) ∧ @Stays I₀.i h s5 ∧ Stays h1 s5) := fun loc5 own5 own2 s5 p5 r5 sb j5 => by
      have r5s := r5.sub sb
      obtain ⟨sm, ap5⟩ := same _ _ _ r5s
      exact ⟨rfl, n - 1, by omega, k + 1, own2, res, by omega, j5, S.keep hp3 sm, (r5s.unbase exb).forget, ap5, m.trans pe p5, pe1.trans p5⟩
    have push : ∀ (loc5 : Loc) (own5 own2 : Own) (s5 : Shared) (x : Value) (d : Dv), Stays s1 s5 → Rel _ Γ.env.locals loc5 own5 s5.heap → VR s5.heap x d → ((acc, AObj.list res) :: own2).Sublist own5 → J (k + 1) own2 (res ++ [d]) →
        wpAny (model Γ.prog Γ.w) Γ.A (call (.builtin "list.append") [.ref acc, x]) (fun _ s6 => Code.compLoop (.ListComp elt [⟨tg, iter, ifs, 0⟩] scope pos) 0 it (.ref acc) Γ.env = Code.compLoop (.ListComp elt [⟨tg, iter, ifs, 0⟩] scope pos) 0 it (.ref acc) Γ.env ∧
        ∃ m, m < n ∧ ∃ k own res, m + k = ds.length ∧ J k own res ∧ P k s6.heap ∧ Rel h₀ Γ.env.locals [] ((acc, .list res) :: own) s6.heap ∧ Apart F h₀ Γ.env.locals ((acc, .list res) :: own) ∧ @Stays I₀.i h s6 ∧ Stays h1 s6) Γ.E s5 := fun loc5 own5 own2 s5 x d p5 r5 vx sb j5 => by
      have r5s := r5.sub sb
      have ap1 : Op2 Γ loc5 ((acc, .list res) :: own2) (.raw (.ref acc)) d (fun a b => call (.builtin "list.append") [a, b]) fun _ loc own' => loc = loc5 ∧ own' = (acc, .list (res ++ [d])) :: own2 := fun h₁ s₁ a b g₁ r₁ va vb =>
        op_append (Γ := Γ) (Q := fun _ loc own' => loc = loc5 ∧ own' = (acc, .list (res ++ [d])) :: own2) .here .list (il _ _ _ hi) ⟨rfl, rfl⟩ h₁ s₁ [a, b] g₁ r₁ (.cons va (.cons vb .nil))
      refine wpAny_mono (ap1 _ s5 (.ref acc) x gb r5s (.raw _) vx) (fun _ s6 ⟨d6, loc6, own6, p6, r6, v6, q6⟩ => ?_) fun _ _ z => z
      obtain ⟨rfl, rfl⟩ := q6
      obtain ⟨sm, ap6⟩ := same _ _ _ r6
      exact ⟨rfl, n - 1, by omega, k + 1, own2, _, by omega, j5, S.keep hp3 sm, (r6.unbase exb).forget, ap6, m.trans pe (p5.trans p6), pe1.trans (p5.trans p6)⟩
    unfold Elt at q4
    rcases ifs with _ | ⟨c, _ | ⟨c', r⟩⟩
    · refine wpAny_bind (wpAny_tests_nil ?_)
      refine wpAny_bind (wpAny_bind ?_)
      refine wpAny_mono (q4 _ s4 gb r4) (fun x s5 ⟨d5, loc5, own5, p5, r5, v5, own2, sb, j5⟩ => wpAny_bind (wpAny_mono (push loc5 own5 own2 s5 x d5 (p14.trans p5) r5 v5 sb j5) (fun _ _ z => wpAny_pure (wpAny_pure z)) fun e s' z => by rw [hE] at z; exact z.elim)) fun e s' z => by rw [hE] at z; exact z.elim
    · refine wpAny_bind (wpAny_tests_one ?_)
      refine wpAny_mono (q4 _ s4 gb r4) (fun b s5 ⟨loc5, own5, p5, r5, q5⟩ => ?_) fun e s' z => by rw [hE] at z; exact z.elim
      cases b with
      | false =>
        simp only [Bool.false_eq_true, if_false] at q5 ⊢
        obtain ⟨own2, sb, j5⟩ := q5
        exact wpAny_pure (skip loc5 own5 own2 s5 (p14.trans p5) r5 sb j5)
      | true =>
        simp only [if_true] at q5 ⊢
        refine wpAny_bind (wpAny_bind ?_)
        refine wpAny_mono (q5 _ s5 gb r5) (fun x s6 ⟨d6, loc6, own6, p6, r6, v6, own2, sb, j6⟩ => wpAny_bind (wpAny_mono (push loc6 own6 own2 s6 x d6 ((p14.trans p5).trans p6) r6 v6 sb j6) (fun _ _ z => wpAny_pure (wpAny_pure z)) fun e s' z => by rw [hE] at z; exact z.elim)) fun e s' z => by rw [hE] at z; exact z.elim
    · exact q4.elim
  · have : k = ds.length := by omega
    subst this
    refine S.stop hp rel ap (ih _ _ _ hi) fun s2 eo pp => wpAny_pure ?_
    exact fin own res s2 hi (rel.others eo ap pp.p) (m.trans pe pp) (pe1.trans pp)
end
end Mine

end
section
open PySem PySem.W
open PyProof.Rows hiding wpAt wpAt_bind
set_option linter.unusedSectionVars false
set_option maxRecDepth 100000
set_option maxHeartbeats 1000000
set_option linter.unusedVariables false
set_option linter.unusedSimpArgs false
namespace Mine
variable [aI : Membership Nat Unit]
section
variable {Γ : Fm} {loc : Loc} {own own' : Own} {Q : QV} {QQ : QF}

theorem Apart.more {F : List Addr} {h₀ : Heap} {L a : Addr} {o : AObj} (ap : Apart F h₀ L own) (n : a ∉ F) : Apart F h₀ L ((a, o) :: own) :=
  ⟨ap.base, ap.fr, fun b hb p hp z => by
    rcases List.mem_cons.mp hp with rfl | hp
    · have z : a = b := z
      exact n (z ▸ hb)
    · exact ap.own b hb p hp z⟩

structure CompOk (Γ : Fm) (scope : Scope) (cl : List (Str × Addr)) (iter : PySem.Expr) : Prop where
  clos : closureFor scope Γ.env = pure cl
  kind : scope.kind = .function
  names : ∀ x ∈ scope.names, x.2 = .local → scope.names.lookup x.1 = some .local
  cells : ∀ x ∈ scope.names, x.2 ≠ .cell
  iter : ∀ x, foldedSetIterable iter Γ.env x = pure x

noncomputable def Comp (Γ : Fm) (scope : Scope) (cl : List (Str × Addr)) (hk : scope.kind = .function) (tg elt : PySem.Expr) (ifs : List PySem.Expr) (ds : List Dv) (H : Own → Prop) (own : Own) (Q : List Dv → Own → Prop) : Prop :=
  ∃ J : Nat → Own → List Dv → Prop, J 0 own [] ∧ (∀ k own res, J k own res → H own) ∧ (∀ k own res, J k own res → res.length ≤ 100000) ∧
    (∀ C acc k d own res, ds[k]? = some d → J k own res → ∀ [Membership Nat Unit], As (compFm Γ scope cl C hk) [] ((acc, .list res) :: own) tg d fun loc own' => Elt (compFm Γ scope cl C hk) loc own' ifs elt fun o loc own' => ∃ own2, ((acc, .list res) :: own2).Sublist own' ∧ match o with
      | some v => J (k + 1) own2 (res ++ [v])
      | none => J (k + 1) own2 res) ∧
    (∀ own res, J ds.length own res → Q res own)

theorem comp_core {elt tg iter : PySem.Expr} {ifs : List PySem.Expr} {scope : Scope} {cl : List (Str × Addr)} {pos pos' : Pos} {use : Option (Value → Sem Unit)} {R : Value → Shared → Prop} {h₀ : Heap} {s : Shared} (hE : Γ.E = fun _ _ => False) (ok : CompOk Γ scope cl iter)
    {QC : List Dv → Loc → Own → Prop} (g : Gd Γ.K h₀) (rel : Rel h₀ Γ.env.locals loc own s.heap)
    (x : It Γ loc own tg iter fun ds H loc own => Comp Γ scope cl ok.kind tg elt ifs ds H own fun res own => QC res loc own)
    (k : ∀ acc C res loc own s' m, Stays s s' → Rel h₀ Γ.env.locals loc ((acc, .list res) :: own) s'.heap → s'.heap.Ns C m → h₀.get? C = none → C ≠ Γ.env.locals → C ≠ acc → (∀ p ∈ own, p.1 ≠ C) → QC res loc own →
      compPost (model Γ.prog Γ.w) Γ.A Γ.E use R (.ref acc) C (.ok .next) s') :
    wpAny (model Γ.prog Γ.w) Γ.A (comprehension (.ListComp elt [⟨tg, iter, ifs, 0⟩] scope pos) scope Γ.env pos' (newList []) false (eval iter Γ.env) use) R Γ.E s := by
  refine wpAny_comprehension_free (g := ⟨tg, iter, ifs, 0⟩) (gs := []) rfl ok.iter ok.clos ok.kind ok.names ?_
  refine wpAny_mono (x h₀ s g rel) (fun v s1 y => wpAny_mono y (fun it s2 ⟨⟨JJ⟩, F, ds, H, P, M, loc, own, mo, pe, r, ap, S, p0, si, hH0, J, j0, jh, jl, step, fin⟩ => ?_) fun _ _ z => z) fun _ _ z => z
  refine wpAny_newList ?_ (by simp)
  have ex : Ext s2.heap (s2.heap.push (lstObj [] 0)) := Ext.push _
  have accF : s2.heap.objs.size ∉ F := fun q => by obtain ⟨o, ho⟩ := S.there p0 _ q; rw [get_size_none] at ho; cases ho
  have r3 : Rel h₀ Γ.env.locals loc ((s2.heap.objs.size, .list []) :: own) (s2.heap.push (lstObj [] 0)) := r.more (o := .list []) ex (get_size_none _) ⟨[], 0, Heap.get?_push_size _ rfl, .nil⟩
  have ap3 : Apart F h₀ Γ.env.locals ((s2.heap.objs.size, .list []) :: own) := ap.more accF
  generalize hs3 : (s2.heap.push (lstObj [] 0)) = h3 at r3 ex
  have p3 : P 0 h3 := S.keep p0 fun a ha => by obtain ⟨o, ho⟩ := S.there p0 a ha; rw [ho]; exact ex _ _ ho
  refine wpAny_newFunctionEnv ok.cells (fun _ h => (nomatch h)) (fun h4 ns4 sb4 => ?_) ok.kind
  have exC : Ext h3 h4 := fun b o e => by
    have hb : b ≠ h3.objs.size := Nat.ne_of_lt (Heap.lt_size e)
    rw [sb4.2 b hb]
    exact Heap.get?_push_of_some _ e
  have nC : h3.get? h3.objs.size = none := get_size_none _
  have r4 := r3.ext exC
  have c0 : h₀.get? h3.objs.size = none := r3.ow.keep.none nC
  have cL : h3.objs.size ≠ Γ.env.locals := fun z => by obtain ⟨m, ⟨o, _, _, q, _⟩, _⟩ := r3.lc.ns; rw [← z, nC] at q; cases q
  have co : ∀ p ∈ ((s2.heap.objs.size, AObj.list []) :: own), p.1 ≠ h3.objs.size := fun p hp z => by obtain ⟨o, q, _⟩ := (r3.ow.at_ p hp).some; rw [z, nC] at q; cases q
  have cF : h3.objs.size ∉ F := fun q => by obtain ⟨o, ho⟩ := S.there p3 _ q; rw [nC] at ho; cases ho
  obtain ⟨ri, api, exi, kL⟩ := r4.inner ap3 ns4 c0 cL co cF
  have gi := @Gd.ext aI _ _ _ g exi
  have p4 : P 0 h4 := S.keep p3 fun a ha => by obtain ⟨o, ho⟩ := S.there p3 a ha; rw [ho]; exact exC _ _ ho
  have pe4 : Pers s2.heap h4 := (Ext.pers ex).trans (Ext.pers exC)
  have main := fun (s' : Shared) (hs' : s'.heap = h4) (st : @Stays aI s s') => comp_src (I₀ := ⟨aI⟩) (Γ := compFm Γ scope cl h3.objs.size ok.kind) (elt := elt) (tg := tg) (iter := iter) (ifs := ifs) (scope := scope) (pos := pos) (R := compPost (model Γ.prog Γ.w) Γ.A Γ.E use R (.ref s2.heap.objs.size) h3.objs.size)
    (h := s) (h1 := s') (s := s') S rfl mo gi (by rw [hs']; exact ri) api st Stays.refl (by rw [hs']; exact p4) j0 (fun k own res j => S.mono (jh k own res j)) jl (fun k d own res hd hj => step _ _ k d own res hd hj)
    (fun own5 res5 s5 j5 r5 q5 p5 => by
      have ro := r4.outer r5 exi kL (hs' ▸ p5.p)
      obtain ⟨m5, n5, _⟩ := r5.lc.ns
      exact k _ _ _ _ _ s5 m5 q5 (Rel.move mo.down ro) n5 c0 cL (fun z => r5.lc.off _ (.head _) z.symm) (fun p hp z => r5.lc.off p (.tail _ hp) z) (fin _ _ j5))
  subst hs3
  exact codeAny_compStart_list (main _ rfl (mo.trans pe pe4.st)) (si p4 (main _ rfl (mo.trans pe pe4.st)))
theorem ev_comp {elt tg iter : PySem.Expr} {ifs : List PySem.Expr} {scope : Scope} {pos : Pos} (cl : List (Str × Addr)) (hE : Γ.E = fun _ _ => False) (ok : CompOk Γ scope cl iter)
    (x : It Γ loc own tg iter fun ds H loc own => Comp Γ scope cl ok.kind tg elt ifs ds H own fun res own => ∀ a, Q (.raw (.ref a)) loc ((a, .list res) :: own)) : Ev Γ loc own (.ListComp elt [⟨tg, iter, ifs, 0⟩] scope pos) Q := by
  intro h₀ s g rel
  rw [eval_ListComp]
  refine comp_core hE ok (QC := fun res loc own => ∀ a, Q (.raw (.ref a)) loc ((a, .list res) :: own)) g rel x fun acc C res loc own s' m p r n c0 cL ca co q => ?_
  refine ⟨m, n, fun h' sb => ?_⟩
  have nt : ∃ o, s'.heap.get? C = some o ∧ ∀ vs n, o ≠ tupObj vs n := let ⟨o, es, ep, a, b, _⟩ := n; ⟨o, a, fun vs n e => by rw [e] at b; cases b⟩
  have pp : Pers s'.heap h' := (Chg.mk (a := C) (fun b hb => sb.2 b hb) nt).pers
  refine ⟨_, _, _, p.trans pp.st, r.others (F := [C]) (fun b o nb e => (sb.2 b fun z => nb (z ▸ .head _)).trans e) ⟨fun a ha => ?_, fun a ha => ?_, fun a ha p hp => ?_⟩ pp, .raw _, q acc⟩
  all_goals (rcases List.mem_cons.mp ha with rfl | ha; rotate_left; cases ha)
  · exact c0
  · exact cL
  · rcases List.mem_cons.mp hp with rfl | hp
    · exact fun z => ca z.symm
    · exact co p hp

end
end Mine

end
section
open PySem PySem.W
open PyProof.Rows hiding wpAt wpAt_bind
open PySem.Builtin PySem.Builtin.ObjectAttr
set_option linter.unusedSectionVars false
set_option maxRecDepth 100000
set_option maxHeartbeats 1000000
set_option linter.unusedVariables false
set_option linter.unusedSimpArgs false
namespace Mine
variable [aI : Membership Nat Unit]

theorem ents_put {h : Heap} {name : Str} {e : Dv} {v : Value} {t : Tok} {hs : Int} {l l' : List (Str × Dv)} {es : List DictEntry} {f : Option DictEntry → DictEntry} (f1 : ∀ e, f (some e) = { e with val := v }) (f2 : f none = ⟨hs, .str name t, v⟩) (u : SetL name e l l') (x : Ents h es l) :
    ∃ es' b, nsPutIn name.cps.size name.cps.toList f es = (es', b) ∧ es'.length ≤ es.length + 1 ∧ ∀ h', Pers h h' → VR h' v e → Ents h' es' l' := by
  induction u generalizing es with
  | here =>
    cases x with
    | cons a b =>
      rename_i hs' t' v' es'
      refine ⟨⟨hs', .str name t', v⟩ :: es', false, ?_, ?_, fun h' p vr => .cons vr (b.mono p)⟩
      · rw [nsPutIn]
        have : (Value.str name t').isStrByCps name.cps.size name.cps.toList = true := by rw [Value.isStrByCps_eq]; simp [Value.isStr]
        rw [if_pos this, f1]
      · simp
  | there n u' ih =>
    cases x with
    | cons a b =>
      rename_i hs' y t' v' d' es'
      obtain ⟨es2, b2, q, ql, r⟩ := ih b
      refine ⟨⟨hs', .str y t', v'⟩ :: es2, b2, ?_, ?_, fun h' p vr => .cons (a.mono p) (r h' p vr)⟩
      · rw [nsPutIn]
        rw [if_neg ?_, q]
        rw [Value.isStrByCps_eq]; simp [Value.isStr]; exact n
      · simp; omega
  | new =>
    cases x
    exact ⟨_, true, rfl, by simp, fun h' p vr => by rw [f2]; exact .cons vr .nil⟩
theorem put_obj {h : Heap} {name : Str} {e : Dv} {v : Value} {t : Tok} {hs : Int} {l l' : List (Str × Dv)} {es : List DictEntry} {n : Nat} (u : SetL name e l l') (x : Ents h es l) :
    ∃ es' n', Obj.putName name hs (.str name t) v { cls := .type "dict", data := .dict es.toArray n } = { cls := .type "dict", data := .dict es'.toArray n' } ∧ es'.length ≤ es.length + 1 ∧ ∀ h', Pers h h' → VR h' v e → Ents h' es' l' := by
  unfold Obj.putName
  dsimp only
  split
  all_goals
    rename_i es1 q1
    obtain ⟨es', b, q, ql, r⟩ := ents_put (f := fun x => match x with | some e => ({ e with val := v } : DictEntry) | none => ⟨hs, .str name t, v⟩) (v := v) (t := t) (hs := hs) (fun _ => rfl) rfl u x
    have q2 := (show _ = _ from q1).symm.trans q
    cases q2
    exact ⟨es1, _, rfl, ql, r⟩
theorem Ents.length {h : Heap} {es : List DictEntry} {l : List (Str × Dv)} (x : Ents h es l) : es.length = l.length := by
  induction x with
  | nil => rfl
  | cons _ _ ih => simp [ih]
theorem Ents.noRef {h : Heap} {es : List DictEntry} {l : List (Str × Dv)} (x : Ents h es l) : es.any (·.refKey) = false := by
  induction x with
  | nil => rfl
  | cons _ _ ih => rw [List.any_cons, ih]; rfl

structure StoreK (K : Frag) (C : Addr) (cd : ClassData) : Prop where
  cls : clsIn K C = some cd
  dict : cd.hasDict = true
  mro : cd.mro = [.ref C, .type "list", .type "object"] ∨ cd.mro = [.ref C, .type "object"]
  sa : findIn K (.ref C) "__setattr__" = some (some (.builtin "object.__setattr__"))

theorem refuse_list (self : Value) (l : List Value) : refuseLoop self "__setattr__" (.type "list" :: l) = refuseLoop self "__setattr__" l := by
  have : classOwn (.type "list") "__setattr__" = pure none := by show pure (builtinOwn "list" "__setattr__") = _; rw [builtinOwn_eq_fast]; kernel_rfl
  unfold refuseLoop
  rw [List.forIn_cons]
  simp only [this]
  rfl

section
variable {prog : Program} {w : World} {A : Around} {E : Value → Shared → Prop} {K : Frag} {C d a : Addr} {cd : ClassData}
theorem setattr_ {s : Shared} {ox : Obj} {name : Str} {v : Value} {e : Dv} {l l' : List (Str × Dv)} {R : Unit → Shared → Prop} (H : StoreK K C cd) (X : K.In s.heap) (hx : s.heap.get? a = some ox) (hc : ox.cls = .ref C) (hnc : ∀ c, ox.data ≠ .cls c) (hdi : ox.dict = some d) (ad : a ≠ d)
    (hd : OR s.heap d (.idict l)) (ht : findIn K (.ref C) name = some none) (u : SetL name e l l') (hl : l.length ≤ 1000) (vr : VR s.heap v e)
    (k : ∀ s', Chg d s.heap s'.heap → OR s'.heap d (.idict l') → s'.os = s.os → s'.gens = s.gens → R () s') : wpAny (model prog w) A (setAttr (.ref a) name v) R E s := by
  obtain ⟨hh, gg, dd, tt, oo⟩ := s
  dsimp only at X hx hd vr k
  have SF := PySem.F.store_object
  have T : Looks (model prog w) hh (typeOf (.ref a)) (.ref C) := hc ▸ (Looks.ld hx).andThen .now
  have hm : Looks (model prog w) hh (mroOf (.ref C)) cd.mro := (looks_clsIn X H.cls).andThen .now
  have sub : Looks (model prog w) hh (isInstance (.ref a) (.type "object")) true := T.andThen (looks_mroIn X (by unfold mroIn; rw [H.cls, Option.bind_some]; rcases H.mro with q | q <;> rw [q] <;> rfl))
  unfold setAttr callSpecial?
  refine wpAny_bind (wpAny_mkText ?_)
  refine wpAny_bind (wpAny_bind (wpAny_bind (T.at ((looks_findIn X H.sa).at ?_))))
  refine wpAny_holding (wpAny_bind (wpAny_of_eq (SF.slot.bind _) ?_))
  refine wpAny_bind (wpAny_call (codeAny_call_builtin SF.slot.plain SF.entry (check_slot (s := ⟨hh, gg, dd, tt + 1, oo⟩) (i := "object.__setattr__") (owner := "object") (n := "__setattr__") SF.kind SF.split sub (SF.args (.ref a) (.str name tt) v) ?_)))
  show wpAny _ _ («object.__setattr__» ⟨[.ref a, .str name tt, v], []⟩) _ _ _
  rw [osa_eq, refuse_eq]
  refine wpAny_bind (wpAny_bind (T.at (wpAny_bind (hm.at ?_))))
  have hr : refuseLoop (.ref a) "__setattr__" cd.mro = pure () := by
    rcases H.mro with q | q <;> rw [q, refuseLoop_ref]
    · rw [refuse_list]; exact SF.passes _
    · exact SF.passes _
  rw [hr]
  refine wpAny_pure (wpAny_bind (T.at (wpAny_bind ((looks_findIn X ht).at (wpAny_bind (wpAny_pure ?_))))))
  show wpAny _ _ (storeInOwnDict (.ref a) (.ref C) (.str name tt) name v false) _ _ _
  obtain ⟨oc, odi, oda, osl⟩ := ox
  dsimp only at hc hdi
  subst hc hdi
  obtain ⟨es, n, D, en⟩ := hd
  obtain ⟨es', n', hput, hlen, hent⟩ := put_obj (v := v) (t := tt + 1) (hs := PyData.keyHash w.params name) (n := n) u en
  refine wpAny_bind (wpAny_pure (wpAny_bind (wpAny_bind (wpAny_loadPart hx (wpAny_bind ((looks_clsIn X H.cls).at ?_))))))
  rw [H.dict]
  refine wpAny_pure (a := some d) (wpAny_bind (wpAny_pure (wpAny_bind ?_)))
  unfold nsSet
  refine wpAny_bind (wpAny_bind (wpAny_askSetting (wpAny_pure (wpAny_bind (wpAny_mkText (wpAny_bind (wpAny_loadPart D ?_)))))))
  dsimp only
  have c : (!es.toArray.any (·.key.isStr name) && es.toArray.any (·.refKey)) = false := by
    rw [← Array.any_toList (p := fun e : DictEntry => e.refKey)]
    have := en.noRef
    simp only [this, Bool.and_false]
  rw [aRefKeyMayBeTheName_at, c]
  refine wpAny_updatePart D ?_
  have chg : Chg d hh (hh.update d (Obj.putName name (PyData.keyHash w.params name) (.str name (tt + 1)) v)) := ⟨fun b hb => Heap.get?_update_other _ _ (Ne.symm hb), _, D, by intro _ _ z; simp at z⟩
  have D' : (hh.update d (Obj.putName name (PyData.keyHash w.params name) (.str name (tt + 1)) v)).get? d = some { cls := .type "dict", data := .dict es'.toArray n' } := by
    rw [Heap.get?_update_self _ D (by rw [hput]; rfl), hput]
  refine wpAny_bind (wpAny_lookBehind D' (pastItsLine_dict (by rw [List.size_toArray, sizeLine_eq]; have := en.length; omega)) ?_)
  refine wpAny_pure ?_
  refine wpAny_pure (wpAny_pure ?_)
  exact k _ chg ⟨es', n', D', hent _ chg.pers (vr.mono chg.pers)⟩ rfl rfl
end
end Mine

end
section
open PySem PySem.W
open PyProof.Rows hiding wpAt wpAt_bind
open PySem.Builtin PySem.Builtin.ObjectAttr
set_option linter.unusedSectionVars false
set_option maxRecDepth 100000
set_option maxHeartbeats 1000000
set_option linter.unusedVariables false
set_option linter.unusedSimpArgs false
namespace Mine
variable [aI : Membership Nat Unit]

theorem lookIn_ents {h : Heap} {es : List DictEntry} {l : List (Str × Dv)} (x : Ents h es l) (n : Str) {e : Dv} (hl : l.lookup n = some e) (c : Value) (k : Nat) : ∃ v, lookIn n { cls := c, data := .dict es.toArray k } = some (some v) ∧ VR h v e := by
  have := x.find n
  rw [hl] at this
  obtain ⟨v, hv, vr⟩ := this
  refine ⟨v, ?_, vr⟩
  unfold nsFind findBy at hv
  unfold lookIn
  simp only [List.find?_toArray] at hv
  dsimp only
  cases q : es.find? (fun e => e.key.isStr n) with
  | none => rw [q] at hv; cases hv
  | some en => rw [q] at hv; cases hv; rfl

theorem lga_kind : builtinKind "list.__getattribute__" = some .slot := by decide +kernel
theorem lga_split : splitId "list.__getattribute__" = some ("list", "__getattribute__") := by decide +kernel
theorem lga_plain : plainId "list.__getattribute__" = true := by decide +kernel
theorem lga_args (a b : Value) : argsOk "list.__getattribute__" ⟨[a, b], []⟩ := by unfold argsOk; kernel_rfl
theorem lga_slot : Slot "list" "__getattribute__" "list.__getattribute__" := .of (owner := "list") (n := "__getattribute__") (by rw [typeLookup_type, builtinLookup_eq_fast]; kernel_rfl) (by decide +kernel) (by decide +kernel) (by decide +kernel)
  (by first | exact .inl (by decide +kernel) | exact .inr (by decide +kernel)) (by rw [isSubtype_type]; kernel_rfl)
section
variable {prog : Program} {w : World} {A : Around} {E : Value → Shared → Prop} {K : Frag} {C d a : Addr} {cd : ClassData}
theorem getattr_acc {s : Shared} {name : Str} {e : Dv} {vs : List Value} {n : Nat} {l : List (Str × Dv)} {R : Value → Shared → Prop} {expr : Bool} (H : AccK K C) (S : StoreK K C cd) (X : K.In s.heap) (hx : s.heap.get? a = some (accObj C d vs n)) (hd : OR s.heap d (.idict l))
    (ht : findIn K (.ref C) name = some none) (hl : l.lookup name = some e) (hcp : copiedNames.contains name = false)
    (k : ∀ v, handedIn v = true → VR s.heap v e → R v { s with toks := s.toks + 1 }) (hr : ∀ v, VR s.heap v e → handedIn v = true) : wpAny (model prog w) A (getAttr (.ref a) name expr) R E s := by
  obtain ⟨hh, gg, dd, tt, oo⟩ := s
  dsimp only at X hx hd k hr
  have T : Looks (model prog w) hh (typeOf (.ref a)) (.ref C) := (Looks.ld hx).andThen .now
  obtain ⟨es, m, D, en⟩ := hd
  obtain ⟨v, hv, vr⟩ := lookIn_ents en name hl (.type "dict") m
  have I : InstAt hh a (accObj C d vs n) C (some { cls := .type "dict", data := .dict es.toArray m }) := ⟨hx, rfl, rfl, D⟩
  have hf : findObj K C (some { cls := .type "dict", data := .dict es.toArray m }) name = some (.value v) := by
    unfold findObj
    rw [S.cls, Option.bind_some, ht, Option.bind_some]
    simp only [Option.bind_some]
    unfold W.ownOf
    rw [S.dict]
    simp only [if_true, hv, Option.bind_some]
  have L1 := looks_find (M := model prog w) X I hf
  unfold getAttr getAttrBy
  refine wpAny_bind (wpAny_mkText (wpAny_holding (wpAny_bind (T.at (wpAny_bind ((looks_findIn X H.ga).at ?_))))))
  show wpAny _ _ (getAttrByItsOwn (.ref a) (.str name tt) (.ref C) (.builtin "list.__getattribute__") true expr) _ _ _
  unfold getAttrByItsOwn hookBefore callGetattribute boundAndCalled
  refine wpAny_bind ((looks_findIn X H.gt).at ?_)
  refine wpAny_bind (wpAny_attempt (wpAny_holding ?_))
  have hcond : (expr && onTheHeap (.builtin "list.__getattribute__")) = false := by cases expr <;> rfl
  rw [hcond]
  simp only [Bool.false_eq_true, if_false]
  refine wpAny_bind (wpAny_of_eq (lga_slot.bind _) ?_)
  have fin : R v ⟨hh, gg, dd, tt + 1, oo⟩ := k v (hr v vr) vr
  have hsub : Looks (model prog w) hh (isInstance (.ref a) (.type "list")) true := T.andThen (looks_mroIn X H.sub)
  refine wpAny_mono (Q := fun u s' => u = v ∧ s' = ⟨hh, gg, dd, tt + 1, oo⟩) (E := fun _ _ => False) (call_bi (.inr lga_kind) lga_split lga_plain PySem.F.entry_list_ga (lga_args _ _) hsub ?_) (fun u s' hu => ?_) fun _ _ z => z.elim
  · unfold Builtin.«object.__getattribute__»
    repeat (first | (with_reducible refine Looks.at T ?_) | (with_reducible refine Looks.at L1 ?_) | wp_step)
    all_goals exact ⟨v, rfl, rfl, rfl⟩
  · obtain ⟨rfl, rfl⟩ := hu
    show wpAny _ _ (handedOut u) _ _ _
    rw [handedOut_of (hr _ vr)]; exact wpAny_pure fin
end
end Mine

end
section
open PySem PySem.W
open PyProof.Rows hiding wpAt wpAt_bind
open PySem.Builtin PySem.Builtin.ObjectAttr
set_option linter.unusedSectionVars false
set_option maxRecDepth 100000
set_option maxHeartbeats 1000000
set_option linter.unusedVariables false
set_option linter.unusedSimpArgs false
namespace Mine
variable [aI : Membership Nat Unit]

section
variable {prog : Program} {w : World} {A : Around} {E : Value → Shared → Prop} {K : Frag} {C d a : Addr} {s : Shared}

theorem slice_parts {sl : Addr} {vl vu vt : Value} {lo hi st : Option Int} {R : Value × Value × Value → Shared → Prop} (hs : s.heap.get? sl = some { cls := .type "slice", data := .fields #[vl, vu, vt] }) (pl : IsPart vl lo) (pu : IsPart vu hi) (pt : IsPart vt st) (h0 : st ≠ some 0)
    (k : R (rawPart lo, rawPart hi, rawPart st) s) : wpAny (model prog w) A (Builtin.List.listSliceParts (.ref sl)) R E s := by
  rw [listSliceParts_eq]
  have hstep : ¬ ((rawPart st == rawInt 0) = true) := by
    cases st with
    | none => exact Bool.false_ne_true
    | some c =>
      intro hh
      have : c = 0 := by simpa [rawPart, rawInt] using hh
      exact h0 (by rw [this])
  refine wpAny_bind (wpAny_field hs rfl (x := vt) rfl (wpAny_bind (wpAny_listPart pt ?_)))
  rw [if_neg hstep]
  refine wpAny_bind (wpAny_field hs rfl (x := vl) rfl (wpAny_bind (wpAny_listPart pl ?_)))
  exact wpAny_bind (wpAny_field hs rfl (x := vu) rfl (wpAny_bind (wpAny_listPart pu (wpAny_pure k))))
theorem slice_sub {sl : Addr} {vl vu vt : Value} {R : Option Int → Shared → Prop} (hs : s.heap.get? sl = some { cls := .type "slice", data := .fields #[vl, vu, vt] }) (k : R none s) : wpAny (model prog w) A (Builtin.List.listSubscript? (.ref sl)) R E s := by
  have hTs : s.TypeIs (.ref sl) "slice" := ⟨_, hs, rfl⟩
  unfold Builtin.List.listSubscript?
  refine wpAny_bind (wpAny_specialOf hTs slice_no_index ?_)
  simp only [Option.isNone_none, if_true]
  exact wpAny_pure k
theorem gi_kind : builtinKind "list.__getitem__" = some .slot ∨ builtinKind "list.__getitem__" = some .method := by decide +kernel
theorem gi_split : splitId "list.__getitem__" = some ("list", "__getitem__") := by decide +kernel
theorem si_kind : builtinKind "list.__setitem__" = some .slot ∨ builtinKind "list.__setitem__" = some .method := by decide +kernel
theorem si_split : splitId "list.__setitem__" = some ("list", "__setitem__") := by decide +kernel
theorem si_entry : entryFor table "list.__setitem__" = some Builtin.«list.__setitem__» := entryFor_of_tree (by kernel_rfl)
theorem si_plain : plainId "list.__setitem__" = true := by decide +kernel
theorem si_args (a b c : Value) : argsOk "list.__setitem__" ⟨[a, b, c], []⟩ := by unfold argsOk; kernel_rfl
theorem si_slot : Slot "list" "__setitem__" "list.__setitem__" := .of (owner := "list") (n := "__setitem__") (by rw [typeLookup_type, builtinLookup_eq_fast]; kernel_rfl) (by decide +kernel) (by decide +kernel) (by decide +kernel)
  (by first | exact .inl (by decide +kernel) | exact .inr (by decide +kernel)) (by rw [isSubtype_type]; kernel_rfl)
theorem seqKey_acc {vs : List Value} {n : Nat} {name : Str} {i : Value} {R : Value → Shared → Prop} (H : AccK K C) (X : K.In s.heap) (hx : s.heap.get? a = some (accObj C d vs n)) (k : R i s) : wpAny (model prog w) A (sequenceKey (.ref a) i name) R E s := by
  have T : Looks (model prog w) s.heap (typeOf (.ref a)) (.ref C) := (Looks.ld hx).andThen .now
  unfold sequenceKey
  refine wpAny_bind (T.here ?_)
  refine wpAny_bind ((anyM_none X H.nos).here ?_)
  rw [if_pos (show (!false) = true from rfl)]
  exact wpAny_pure k

theorem set_size {n m a b : Nat} (hl : n ≤ 1000000) (hw : m ≤ 1000000) : min a n + (m + (n - b)) ≤ sizeLine + 1 :=
  Nat.le_trans (Nat.add_le_add (Nat.le_trans (Nat.min_le_right _ _) hl) (Nat.add_le_add hw (Nat.le_trans (Nat.sub_le _ _) hl))) (by decide)
end
end Mine

end
section
open PySem PySem.W
open PyProof.Rows hiding wpAt wpAt_bind
open PySem.Builtin PySem.Builtin.ObjectAttr
set_option linter.unusedSectionVars false
set_option maxRecDepth 100000
set_option maxHeartbeats 1000000
set_option linter.unusedVariables false
set_option linter.unusedSimpArgs false
namespace Mine
variable [aI : Membership Nat Unit]
section
variable {Γ : Fm} {loc : Loc} {own own' : Own} {Q : QV} {QQ : QF}

noncomputable def plainDv : Dv → Bool
  | .raw (.builtin _) => false
  | _ => true
theorem handed_plain {h : Heap} {v : Value} {d : Dv} (hp : plainDv d = true) (vr : VR h v d) : handedIn v = true := by
  cases vr with
  | raw => cases v <;> first | rfl | cases hp
  | _ => rfl

inductive AttrTo (Γ : Fm) (cd : ClassData) (name : Str) (e : Dv) (R : Own → Prop) (v : Dv) (own : Own) : Prop
  | mk (a C d : Addr) (ds : List Dv) (l l' : List (Str × Dv)) (own' : Own) : v = .raw (.ref a) → StoreK Γ.K C cd → HasO a (.acc C d ds) own → findIn Γ.K (.ref C) name = some none → SetL name e l l' → l.length ≤ 1000 → Upd d (.idict l) (.idict l') own own' → R own' → AttrTo Γ cd name e R v own
theorem as_attr {o : PySem.Expr} {name : Str} {pos : Pos} {e : Dv} {cd : ClassData} {Q : Loc → Own → Prop}
    (x : Ev Γ loc own o fun v loc own => AttrTo Γ cd name e (Q loc) v own) : As Γ loc own (.Attribute o name pos) e Q := by
  intro h₀ s v g rel vr
  rw [arm_assign_Attribute]
  refine wpAny_bind (wpAny_holding (x.use g rel fun ov loc own s1 vo p1 r1 v1 ⟨a, C, d, ds, l, l', own', e1, S, ha, hf, sl, hl, up, q⟩ => ?_))
  subst e1
  cases v1
  refine wpAny_bind (wpAny_standAt (wpAny_bind (wpAny_holding ?_)))
  obtain ⟨vs, n, ho, r⟩ := r1.ow.at_ _ ha.mem
  have hd := r1.ow.at_ _ up.mem
  have had : a ≠ d := by
    rintro rfl
    obtain ⟨es, k, z, _⟩ := hd
    rw [ho] at z; simp at z
  refine setattr_ S (g.kin.keeps r1.ow.keep) ho rfl (by simp) rfl had hd hf sl hl (vr.mono p1.p) fun s2 ch on ho2 hg2 => ?_
  exact wpAny_release ⟨_, _, p1.trans (ch.pers.st ho2 hg2), r1.upd up ch on, q⟩

theorem ex_assign1 {tg e : PySem.Expr} {pos : Pos} (he : exec (.Assign [tg] e pos) Γ.env = (do standAt pos; let v ← eval e Γ.env; assignAll v [assign tg Γ.env]; pure .next))
    (x : Ev Γ loc own e fun d loc own => As Γ loc own tg d fun loc own => QQ .next loc own) : Ex Γ loc own (.Assign [tg] e pos) QQ := by
  intro h₀ s g rel
  rw [he]
  refine wpAny_bind (wpAny_standAt (wpAny_bind (x.use g rel fun d loc own s1 v p1 r1 v1 q => ?_)))
  refine wpAny_bind ?_
  have z := q h₀ s1 v g r1 v1
  unfold assignAll
  exact wpAny_mono z (fun _ s2 ⟨loc, own, p, r, q⟩ => wpAny_pure ⟨_, _, _, p1.trans p, r, .next, q⟩) fun _ _ y => y
end
end Mine

end
section
open PySem PySem.W
open PyProof.Rows hiding wpAt wpAt_bind
open PySem.Builtin PySem.Builtin.ObjectAttr
set_option linter.unusedSectionVars false
set_option maxRecDepth 100000
set_option maxHeartbeats 1000000
set_option linter.unusedVariables false
set_option linter.unusedSimpArgs false
namespace Mine
variable [aI : Membership Nat Unit]
section
variable {Γ : Fm} {loc : Loc} {own own' : Own} {Q : QV} {QQ : QF}

noncomputable def AsL (Γ : Fm) (loc : Loc) (own : Own) (ts : List PySem.Expr) (ds : List Dv) (Q : Loc → Own → Prop) : Prop := match ts, ds with
  | [], [] => Q loc own
  | t :: ts, d :: ds => As Γ loc own t d fun loc own => AsL Γ loc own ts ds Q
  | _, _ => False
theorem asL_go {h₀ : Heap} : ∀ {ts : List PySem.Expr} {ds : List Dv} {vs : List Value} {loc : Loc} {own : Own} {Q : Loc → Own → Prop} {h : Shared} {s : Shared}, plainArgs ts = true → AsL Γ loc own ts ds Q → Gd Γ.K h₀ → Rel h₀ Γ.env.locals loc own s.heap → VRs s.heap vs ds → Stays h s →
    wpAny (model Γ.prog Γ.w) Γ.A (assignInOrder ((assignEach ts Γ.env).map (·.2)) vs) (fun _ => OutU h₀ Γ.env.locals h Q) Γ.E s
  | [], [], _, _, _, _, _, _, _, x, g, r, v, p => by cases v; exact wpAny_pure ⟨_, _, p, r, x⟩
  | [], _ :: _, _, _, _, _, _, _, _, x, _, _, _, _ => x.elim
  | _ :: _, [], _, _, _, _, _, _, _, x, _, _, _, _ => x.elim
  | t :: ts, d :: ds, _, _, _, _, _, _, hp, x, g, r, v, p => by
    cases v with
    | cons v1 v2 =>
      have he : assignEach (t :: ts) Γ.env = (false, assign t Γ.env) :: assignEach ts Γ.env := by cases t <;> first | rfl | cases hp
      rw [he]
      show wpAny _ _ (holding _ (assign t Γ.env _) >>= fun _ => assignInOrder ((assignEach ts Γ.env).map (·.2)) _) _ _ _
      refine wpAny_bind (wpAny_holding (wpAny_mono (x h₀ _ _ g r v1) (fun _ s2 ⟨loc, own, p2, r2, q2⟩ => ?_) fun _ _ z => z))
      exact asL_go (plain_tail hp) q2 g r2 (v2.mono p2.p) (p.trans p2)
theorem assignEach_len {env : Env} : ∀ {ts : List PySem.Expr}, plainArgs ts = true → (assignEach ts env).length = ts.length ∧ (assignEach ts env).findIdx? (·.1) = none
  | [], _ => ⟨rfl, rfl⟩
  | t :: ts, h => by
    have he : assignEach (t :: ts) env = (false, assign t env) :: assignEach ts env := by cases t <;> first | rfl | cases h
    obtain ⟨a, b⟩ := assignEach_len (env := env) (plain_tail h)
    rw [he]
    exact ⟨by rw [List.length_cons, a, List.length_cons], by rw [List.findIdx?_cons, b]; rfl⟩
theorem as_tuple {ts : List PySem.Expr} {k : Nat} {pos : Pos} {ds : List Dv} {Q : Loc → Own → Prop} (hp : plainArgs ts = true) (hl : ts.length = ds.length) (x : AsL Γ loc own ts ds Q) : As Γ loc own (.Tuple ts k pos) (.tup ds) Q := by
  intro h₀ s v g rel vr
  obtain ⟨a, vs, n, rfl, o, r⟩ := tup_inv vr
  obtain ⟨l1, l2⟩ := assignEach_len (env := Γ.env) hp
  refine assign_Tuple_tuple Γ.hh (items := vs.toArray) ⟨_, o, rfl, _, rfl⟩ (by rw [l1, hl, List.size_toArray, r.length]) l2 fun h' eb => ?_
  have ex : Ext s.heap h' := fun b o e => eb b o (Nat.ne_of_lt (Heap.lt_size e)) e
  exact asL_go hp x g (rel.ext ex) (r.mono (Ext.pers ex)) (Ext.pers ex).st

end
end Mine

end
section
open PySem PySem.W
open PyProof.Rows hiding wpAt wpAt_bind
open PySem.Builtin PySem.Builtin.ObjectAttr
set_option linter.unusedSectionVars false
set_option maxRecDepth 100000
set_option maxHeartbeats 1000000
set_option linter.unusedVariables false
set_option linter.unusedSimpArgs false
namespace Mine
variable [aI : Membership Nat Unit]
section
variable {prog : Program} {w : World} {A : Around} {E : Value → Shared → Prop} {a : Addr} {s : Shared}
end
section
variable {Γ : Fm} {loc : Loc} {own own' : Own} {Q : QV} {QQ : QF}
theorem vrs_ints {h : Heap} : ∀ {vs : List Value} {ns : List Int}, VRs h vs (ns.map .int) → IntsAre vs ns
  | [], [], _ => IntsAre.nil
  | _ :: _, _ :: _, .cons x y => by cases x; exact IntsAre.cons _ _ (vrs_ints y)
theorem op_sum {a : Addr} {ns : List Int} (ha : HasO a (.list (ns.map .int)) own) (q : Q (.int ns.sum) loc own) : OpN Γ loc own [.raw (.ref a)] (fun vs => call (.builtin "sum") vs) Q := by
  intro h₀ s vs g rel vr
  cases vr with
  | cons x y =>
    cases y; cases x
    obtain ⟨vs, il, r, e⟩ := list_at ha rel
    have hi : IntsAre vs ns := vrs_ints r
    have hall : AllInts vs.toArray := hi.allInts
    have hn := hi.numsOf
    obtain ⟨xs, hxs⟩ := hall.items
    rw [show vs = vs.toArray.toList from rfl, hxs, nums_intItems] at hn
    rw [hxs] at il
    refine sum_intListG (by first | exact Γ.hh | rfl) il fun h' tk t' hk => ?_
    refine ⟨_, _, _, (Ext.pers hk).st, rel.ext hk, ?_, q⟩
    rw [preSum_eq, List.take_of_length_le (by simp), hn]
    exact .int _ _
end
end Mine

end
section
open PySem PySem.W PySem.Builtin PySem.Builtin.ObjectAttr
open PyProof.Rows hiding wpAt wpAt_bind
set_option linter.unusedSectionVars false
set_option maxRecDepth 100000
set_option maxHeartbeats 1000000
set_option linter.unusedVariables false
namespace Mine
variable [aI : Membership Nat Unit]

noncomputable def makesLIn (K : Frag) (C : Addr) : Bool := match K.lookup C with
  | some ⟨_, _, .cls cd, sl⟩ => !cd.abstract && !cd.hasDel && (sl.toList[4]?).join == some (.builtin "list.__new__") && !cd.mro.isEmpty && cd.mro.contains (.ref C) && cd.mro.contains (.type "list") &&
      specialIn K (.ref C) "__call__" == some (some (.builtin "type.__call__")) && instIn K (.ref C) (.type "type") == some true
  | _ => false
structure MakesL (M : Model) (h : Heap) (C : Addr) : Prop where
  obj : ∃ oc od cd sl, h.get? C = some ⟨oc, od, .cls cd, sl⟩ ∧ cd.abstract = false ∧ cd.hasDel = false ∧ cd.mro.isEmpty = false
  made : Looks M h (Bind.madeBy (.ref C)) (some "list.__new__")
  base : Looks M h (Bind.staticBase (.ref C)) (.ref C)
  self : Looks M h (isSubtype (.ref C) (.ref C)) true
  top : Looks M h (isSubtype (.ref C) (.type "list")) true
  call : Looks M h (specialOf (.ref C) "__call__") (some (.builtin "type.__call__"))
  typ : Looks M h (isInstance (.ref C) (.type "type")) true
theorem makesL_of {K : Frag} {M : Model} {h : Heap} (X : K.In h) {C : Addr} (e : makesLIn K C = true) : MakesL M h C := by
  unfold makesLIn at e
  split at e
  · rename_i oc od cd sl ho
    simp only [Bool.and_eq_true, Bool.not_eq_true', beq_iff_eq] at e
    obtain ⟨⟨⟨⟨⟨⟨⟨e1, e2⟩, e3⟩, e4⟩, e5⟩, e6⟩, e7⟩, e8⟩ := e
    have hc : clsIn K C = some cd := by unfold clsIn; rw [ho]
    have hm : Looks M h (mroOf (.ref C)) cd.mro := (looks_clsIn X hc).andThen .now
    obtain ⟨c, l, hl⟩ : ∃ c l, cd.mro = c :: l := by cases q : cd.mro with | nil => rw [q] at e4; cases e4 | cons c l => exact ⟨c, l, rfl⟩
    have made : Looks M h (Bind.madeBy (.ref C)) (some "list.__new__") := by
      intro A Q E s k q
      unfold Bind.madeBy
      refine wpAny_bind (hm A _ E s k ?_)
      rw [hl, List.forIn_cons]
      refine wpAny_bind (wpAny_bind (wpAny_bind (wpAny_bind (wpAny_loadPart (k _ _ (X _ _ ho)) (wpAny_pure ?_)))))
      dsimp only
      rw [← Array.getElem?_toList, e3]
      exact wpAny_pure (wpAny_pure (wpAny_pure q))
    refine ⟨⟨oc, od, cd, sl, X _ _ ho, e1, e2, e4⟩, made, ?_, looks_mroIn X ?_, looks_mroIn X ?_, looks_specialIn X e7, looks_instIn X e8⟩
    · intro A Q E s k q
      unfold Bind.staticBase
      refine wpAny_bind (hm A _ E s k ?_)
      rw [hl, List.forIn_cons]
      exact wpAny_bind (wpAny_bind (wpAny_bind (made A _ E s k (wpAny_pure (wpAny_pure (wpAny_pure q))))))
    · unfold mroIn; rw [hc, Option.bind_some, if_neg (by rw [e4]; decide), e5]
    · unfold mroIn; rw [hc, Option.bind_some, if_neg (by rw [e4]; decide), e6]
  · cases e

theorem ln_split : splitId "list.__new__" = some ("list", "__new__") := by decide +kernel
theorem ln_kind : builtinKind "list.__new__" = some .builtinFn := by decide +kernel
theorem ln_row : Manifest.signature? "list.__new__" = some ((Manifest.signature? "list.__new__").getD ⟨.hand, "", "", .cls, []⟩) := by kernel_rfl
theorem ln_args0 (C : Addr) : Bind.checkArgs "list.__new__" ((Manifest.signature? "list.__new__").getD ⟨.hand, "", "", .cls, []⟩) ⟨[.ref C], []⟩ = pure () := by kernel_rfl
theorem ln_args1 (C : Addr) (a : Value) : Bind.checkArgs "list.__new__" ((Manifest.signature? "list.__new__").getD ⟨.hand, "", "", .cls, []⟩) ⟨[.ref C, a], []⟩ = pure () := by kernel_rfl
theorem ln_hasDict (C : Addr) : typeHasDict (.ref C) = true := by kernel_rfl

section
variable {prog : Program} {w : World} {A : Around} {K : Frag} {C : Addr} {R : Result → Shared → Prop} {h : Heap} {g : Array GenState} {d : Drawn} {t : Nat} {os : OsState}
theorem newL_K {rest : List Value} (hr : rest.length ≤ 1) (Y : MakesL (model prog w) h C) 
    (hq : R (.ok (.ret (.ref (h.objs.size + 1)))) ⟨(h.push emptyDict).push (accObj C h.objs.size [] 0), g, d, t, os⟩) :
    codeAny (model prog w) A (.call (.builtin "list.__new__") ⟨.ref C :: rest, []⟩) R ⟨h, g, d, t, os⟩ := by
  obtain ⟨⟨oc, od, cd, sl, hC, e1, e2, e4⟩, made, base, self, top, call, typ⟩ := Y
  refine codeAny_call_builtin_code (Code.quiet_builtin _ (by decide +kernel)) ?_
  have args : Bind.checkArgs "list.__new__" ((Manifest.signature? "list.__new__").getD ⟨.hand, "", "", .cls, []⟩) ⟨.ref C :: rest, []⟩ = pure () := by
    rcases rest with _ | ⟨a, _ | ⟨b, r⟩⟩
    · exact ln_args0 C
    · exact ln_args1 C a
    · simp at hr
  simp only [checkBuiltinCall, ln_kind, ln_split]
  rw [ln_row]
  dsimp only
  rw [args]
  repeat (first | simp only [bne_self_eq_false, Bool.false_eq_true, if_false] | lk)
  refine codeAny_builtin_stack F.entry_list_new rfl fun p st => ?_
  have hown := owner_list_new
  simp only [hown]
  repeat (first | simp only [bne_self_eq_false, Bool.false_eq_true, if_false, ln_hasDict, Bool.not_true] | lk)
  refine wpAny_load (Heap.get?_push_of_some _ (Heap.get?_push_of_some _ hC)) (wpAny_pure ?_)
  rw [e2]
  refine wpAny_pure (wpAny_pure ?_)
  show R _ _
  rw [Heap.size_push]
  exact hq

theorem make_coreL {rest : List Value} {init : Value} (hr : rest.length ≤ 1) (Y : MakesL (model prog w) h C) (hi : Looks (model prog w) h (typeLookup (.ref C) "__init__") (some init))
    (hb : ∀ self, Looks (model prog w) h (bindSpecial init self) (init, [self]))
    (hq : codeAny (model prog w) (A.under (.builtin "type.__call__" ⟨.ref C :: rest, []⟩)) (.call init ⟨.ref (h.objs.size + 1) :: rest, []⟩) (InitBack (h.objs.size + 1) R) ⟨(h.push emptyDict).push (accObj C h.objs.size [] 0), g, d, t, os⟩) :
    codeAny (model prog w) A (.call (.ref C) ⟨rest, []⟩) R ⟨h, g, d, t, os⟩ := by
  have Y' := Y
  obtain ⟨⟨oc, od, cd, sl, hC, e1, e2, e4⟩, made, base, self, top, call, typ⟩ := Y
  refine codeAny_of_tree ?_
  show wpAny _ _ (callAny (.ref C) _) _ _ _
  refine nd_load hC ?_
  show wpAny _ _ (callAny.viaDunder (.ref C) _) _ _ _
  unfold callAny.viaDunder
  refine wpAny_bind (call.at ?_)
  dsimp only
  rw [tc_bind]
  refine wpAny_bind (wpAny_pure (wpAny_bind (wpAny_pure ?_)))
  refine wpAny_pure (a := Fin.again (.call (.builtin "type.__call__") ⟨.ref C :: rest, []⟩)) (And.intro rfl ?_)
  refine codeAny_call_builtin_at (Code.quiet_builtin _ (by decide +kernel)) entry_typeCall (check_slot tc_kind tc_split typ (tc_args _ _ _) ?_)
  unfold Builtin.«type.__call__»
  have hm : Looks (model prog w) h (mroOf (.ref C)) cd.mro := ((Looks.ld (part := none) hC).andThen .now).andThen .now
  repeat (first | simp only [e4, Bool.false_eq_true, if_false] | with_reducible refine wpAny_call ?_ | lk)
  refine newL_K hr Y' ?_
  have k : ∀ b o, h.get? b = some o → ((h.push emptyDict).push (accObj C h.objs.size [] 0)).get? b = some o := fun b o e => Heap.get?_push_of_some _ (Heap.get?_push_of_some _ e)
  have hx : ((h.push emptyDict).push (accObj C h.objs.size [] 0)).get? (h.objs.size + 1) = some (accObj C h.objs.size [] 0) := by heap_get
  have t1 : Looks (model prog w) ((h.push emptyDict).push (accObj C h.objs.size [] 0)) (typeOf (.ref (h.objs.size + 1))) (.ref C) := (Looks.ld hx).andThen .now
  have s1 := self.keeps k
  have i1 := hi.keeps k
  have b1 := (hb (.ref (h.objs.size + 1))).keeps k
  unfold isInstance callSpecial? specialOf
  repeat (first | with_reducible refine wpAny_call ?_ | lk)
  refine codeAny_mono hq fun r s' z => ?_
  rcases r with e | (v | _ | _ | _) <;> first | exact z | exact z.elim | skip
  obtain ⟨rfl, z⟩ := z
  exact wpAny_pure (wpAny_pure z)

theorem tc_weight (C : Addr) (rest : List Value) : (Code.builtin "type.__call__" ⟨.ref C :: rest, []⟩).weight = 1 := by kernel_rfl
theorem tc_units (C : Addr) (rest : List Value) : (Code.builtin "type.__call__" ⟨.ref C :: rest, []⟩).cUnits = 1 := by kernel_rfl
end

theorem callT_make {prog : Program} {w : World} {K : Frag} {A : Around} {own : Own} {C fI : Addr} {ds : List Dv} {Q : Dv → Own → Prop} (hr : ds.length ≤ 1) (hm : makesLIn K C = true) (hi : findIn K (.ref C) "__init__" = some (some (.ref fI)))
    (hf : typeIn K (.ref fI) = some (.type "function"))
    (x : ∀ A' x dx, A'.handled = A.handled → A'.depth = A.depth + 1 → A'.units = A.units + 1 → CallT prog w K A' ((x, .acc C dx []) :: (dx, .idict []) :: own) (.ref fI) (.raw (.ref x) :: ds) fun d own' => d = .none ∧ Q (.raw (.ref x)) own') : CallT prog w K A own (.ref C) ds Q := by
  intro h₀ s vs g ok vr
  obtain ⟨h, gs, dr, t, os⟩ := s
  have X : K.In h := g.kin.keeps ok.keep
  have ex1 : Ext h (h.push emptyDict) := Ext.push _
  have ex2 : Ext (h.push emptyDict) ((h.push emptyDict).push (accObj C h.objs.size [] 0)) := Ext.push _
  have ok1 : OwnOk h₀ ((h.objs.size, .idict []) :: own) (h.push emptyDict) := ok.more ex1 (get_size_none _) ⟨[], 0, Heap.get?_push_size _ rfl, .nil⟩
  have ok2 : OwnOk h₀ (((h.push emptyDict).objs.size, .acc C h.objs.size []) :: (h.objs.size, .idict []) :: own) ((h.push emptyDict).push (accObj C h.objs.size [] 0)) := ok1.more ex2 (get_size_none _) ⟨[], 0, Heap.get?_push_size _ rfl, .nil⟩
  rw [Heap.size_push] at ok2
  have hp : Pers h ((h.push emptyDict).push (accObj C h.objs.size [] 0)) := Ext.pers (ex1.trans ex2)
  refine make_coreL (by rw [vr.length]; exact hr) (makesL_of X hm) (looks_findIn X hi) (fun self => bind_fn X self hf) ?_
  refine codeAny_mono (x (A.under (.builtin "type.__call__" ⟨.ref C :: vs, []⟩)) (h.objs.size + 1) h.objs.size rfl (by show A.depth + _ = _; rw [tc_weight]) (by show A.units + _ = _; rw [tc_units]) h₀ ⟨(h.push emptyDict).push (accObj C h.objs.size [] 0), gs, dr, t, os⟩ (.ref (h.objs.size + 1) :: vs) g ok2 (.cons (.raw _) (vr.mono hp))) fun r s' ⟨v, d, own', e, p, o', v', hd, q⟩ => ?_
  subst e hd
  cases v'
  exact ⟨rfl, _, _, own', rfl, Stays.trans (b := ⟨(h.push emptyDict).push (accObj C h.objs.size [] 0), gs, dr, t, os⟩) hp.st p, o', .raw _, q⟩
end Mine

end
section
open PySem PySem.W PySem.Builtin PySem.Builtin.ObjectAttr
open PyProof.Rows hiding wpAt wpAt_bind
set_option linter.unusedSectionVars false
set_option maxRecDepth 100000
set_option maxHeartbeats 1000000
set_option linter.unusedVariables false
namespace Mine
variable [aI : Membership Nat Unit]

noncomputable def popSig : Manifest.Signature := (Manifest.signature? "list.pop").getD ⟨.hand, "", "", .cls, []⟩
theorem len_sig : ∃ sig, Manifest.signature? "list.__len__" = some sig ∧ ∀ x : Addr, Bind.checkArgs "list.__len__" sig ⟨[.ref x], []⟩ = pure () := ⟨(Manifest.signature? "list.__len__").getD ⟨.hand, "", "", .cls, []⟩, by kernel_rfl, fun x => by kernel_rfl⟩
theorem init_sig : ∃ sig, Manifest.signature? "list.__init__" = some sig ∧ ∀ x : Addr, Bind.checkArgs "list.__init__" sig ⟨[.ref x], []⟩ = pure () := ⟨(Manifest.signature? "list.__init__").getD ⟨.hand, "", "", .cls, []⟩, by kernel_rfl, fun x => by kernel_rfl⟩
theorem len_kind : builtinKind "list.__len__" = some .slot := by decide +kernel
theorem init_kind : builtinKind "list.__init__" = some .slot := by decide +kernel
theorem len_entry : entryFor table "list.__len__" = some Builtin.«list.__len__» := entryFor_of_tree (by kernel_rfl)
theorem init_entry : entryFor table "list.__init__" = some Builtin.«list.__init__» := entryFor_of_tree (by kernel_rfl)
theorem len_plain : plainId "list.__len__" = true := by decide +kernel
theorem init_plain : plainId "list.__init__" = true := by decide +kernel

section
variable {prog : Program} {w : World} {A : Around} {E : Value → Shared → Prop} {s : Shared} {x b : Addr}
theorem chk_slot {i : String} {Q : Unit → Shared → Prop} (hs : ∃ sig, Manifest.signature? i = some sig ∧ ∀ x : Addr, Bind.checkArgs i sig ⟨[.ref x], []⟩ = pure ()) (hk : builtinKind i = some .slot) (q : Q () s) :
    wpAny (model prog w) A (checkBoundCall i ⟨[.ref x], []⟩) Q E s := by
  obtain ⟨sig, e, a⟩ := hs
  unfold checkBoundCall
  simp only [e, hk]
  show wpAny _ _ (Bind.checkArgs i sig ⟨[.ref x], []⟩) _ _ _
  rw [a]; exact wpAny_pure q
theorem call_bound {B i : String} {bi : Builtin} {pos : Pos} {env : Env} {Q : Value → Shared → Prop} (hb : s.heap.get? b = some (boundObj B i x)) (hB : B = "method-wrapper" ∨ B = "builtin_function_or_method")
    (hp : plainId i = true) (he : entryFor table i = some bi)
    (hck : ∀ (A : Around) {Q : Unit → Shared → Prop} {E : Value → Shared → Prop}, Q () s → wpAny (model prog w) A (checkBoundCall i ⟨[.ref x], []⟩) Q E s)
    (hc : wpAny (model prog w) A.in1 (bi ⟨[.ref x], []⟩) (fun fin s' => ∃ v, fin = .done (.ret v) ∧ Q v s') E s) : wpAny (model prog w) A (callWith pos (.ref b) [] (backTo pos (starEach [] env)) []) Q E s := by
  refine callWith_of (P := fun h => h.get? b = some (boundObj B i x)) rfl (fun h e => ⟨.machine, .inr (.inl rfl), ?_⟩) (evalArgs_none' (wpAny_pure ⟨hb, ?_⟩))
  · unfold keeperOf
    refine (Looks.ld e).andThen ?_
    rcases hB with rfl | rfl <;> exact Looks.now
  · refine wpAny_call (codeAny_of_tree ?_)
    show wpAny _ _ (callAny (.ref b) _) _ _ _
    refine nd_load hb ?_
    have hc' := wpAny_mono hc (Q' := fun fin s' => match fin with
      | .done f => (match (Except.ok f : Result) with | .ok (.ret v) => Q v s' | .ok _ => False | .error e => E e s')
      | .again c' => c'.quiet = true ∧ codeAny (model prog w) A c' (fun r s' => match r with | .ok (.ret v) => Q v s' | .ok _ => False | .error e => E e s') s')
      (fun fin s' h' => by obtain ⟨v, rfl, hv⟩ := h'; exact hv) fun _ _ h' => h'
    rcases hB with rfl | rfl
    all_goals
      show wpAny _ _ (checkBoundCall i ⟨[.ref x], []⟩ >>= _) _ _ _
      refine wpAny_bind (hck _ ?_)
      refine wpAny_pure (a := Fin.again (.builtin i ⟨[.ref x], []⟩)) ⟨plainId_quiet hp _, codeAny_builtin he ?_⟩
      rw [Around.under_plainId hp]
      exact hc'
end
end Mine

end
section
open PySem PySem.W PySem.Builtin PySem.Builtin.ObjectAttr
open PyProof.Rows hiding wpAt wpAt_bind
set_option linter.unusedSectionVars false
set_option maxRecDepth 100000
set_option maxHeartbeats 1000000
set_option linter.unusedVariables false
namespace Mine
variable [aI : Membership Nat Unit]
section
variable {Γ : Fm} {loc : Loc} {own own' : Own} {Q : QV} {QQ : QF} {c : Code}

noncomputable def EvT (Γ : Fm) (c : Code) (loc : Loc) (own : Own) (e : PySem.Expr) (Q : QV) : Prop :=
  ∀ h₀ s, Gd Γ.K h₀ → Rel h₀ Γ.env.locals loc own s.heap → PySem.wpAt (model Γ.prog Γ.w) Γ.A c (eval e Γ.env) (Out h₀ Γ.env.locals s Q) Γ.E s
noncomputable def ExT (Γ : Fm) (c : Code) (loc : Loc) (own : Own) (st : Stmt) (Q : QF) : Prop :=
  ∀ h₀ s, Gd Γ.K h₀ → Rel h₀ Γ.env.locals loc own s.heap → PySem.wpAt (model Γ.prog Γ.w) Γ.A c (exec st Γ.env) (OutF h₀ Γ.env.locals s Q) Γ.E s
noncomputable def ExsT (Γ : Fm) (c : Code) (loc : Loc) (own : Own) (sts : List Stmt) (Q : QF) : Prop :=
  ∀ h₀ s, Gd Γ.K h₀ → Rel h₀ Γ.env.locals loc own s.heap → PySem.wpAt (model Γ.prog Γ.w) Γ.A c (execs sts Γ.env) (OutF h₀ Γ.env.locals s Q) Γ.E s
theorem ext_of {st : Stmt} (x : Ex Γ loc own st QQ) : ExT Γ c loc own st QQ := fun h₀ s g rel => PySem.wpAt_of_wpAny (x h₀ s g rel)
theorem exst_of {st : List Stmt} (x : Exs Γ loc own st QQ) : ExsT Γ c loc own st QQ := fun h₀ s g rel => PySem.wpAt_of_wpAny (x h₀ s g rel)
theorem exst_cons {st : Stmt} {r : List Stmt} (x : ExT Γ c loc own st fun f loc own => match f with | .next => ExsT Γ c loc own r QQ | f => QQ f loc own) : ExsT Γ c loc own (st :: r) QQ := by
  intro h₀ s g rel
  refine ks_wpAt_execs_cons (ks_wpAt_mono (x h₀ s g rel) (fun f s' ⟨a, loc, own, p, r, fr, q⟩ => ?_) fun _ _ z => z)
  cases fr with
  | next => exact ks_wpAt_mono (q h₀ s' g r) (fun _ _ z => z.pers p) fun _ _ z => z
  | brk => exact ⟨_, _, _, p, r, .brk, q⟩
  | cont => exact ⟨_, _, _, p, r, .cont, q⟩
  | ret v => exact ⟨_, _, _, p, r, .ret v, q⟩
theorem ext_return {e : PySem.Expr} {pos : Pos} (x : EvT Γ c loc own e fun d loc own => QQ (.ret d) loc own) : ExT Γ c loc own (.Return (some e) pos) QQ := fun h₀ s g rel =>
  ks_wpAt_Return_some (ks_wpAt_mono (x h₀ s g rel) (fun v s' ⟨d, loc, own, p, r, vr, q⟩ => ⟨_, _, _, p, r, .ret vr, q⟩) fun _ _ z => z)
theorem ext_expr {e : PySem.Expr} {pos : Pos} (hi : interactive Γ.env = false) (hs : swapsWith e none pos.line Γ.env = pure false) (x : EvT Γ c loc own e fun d loc own => QQ .next loc own) : ExT Γ c loc own (.Expr e pos) QQ := fun h₀ s g rel =>
  ks_wpAt_Expr_any (ks_wpAt_mono (x h₀ s g rel) (fun v s' ⟨d, loc, own, p, r, vr, q⟩ => ⟨_, _, _, p, r, .next, q⟩) fun _ _ z => z) hi hs

theorem callT_defT {prog : Program} {w : World} {K : Frag} {A : Around} {own : Own} {f : Addr} {ds : List Dv} {Q : Dv → Own → Prop} {fd : FuncData} {body : List Stmt} {loc : Loc} {oc : Value} {od : Option Addr} {osl : Array (Option Value)} {D U : Nat}
    (hlim : ∀ h, K.In h → h.NoLimit) (hK : K.lookup f = some ⟨oc, od, .func fd, osl⟩) (hcd : codeIn K fd.code fd.qualname = true) (hbody : fd.body = .stmts body) (hroom : D < recursionLimit)
    (hcell : ∀ x ∈ fd.scope.names, x.2 ≠ .cell) (hp : Params K fd ds loc) (hnd : (loc.map (·.1)).Nodup)
    (hh : A.handled = none) (hD : A.depth ≤ D) (hU : A.units ≤ U) (hk : fd.scope.kind = .function) (hg : fd.globals = mainGlobals) (hb : fd.builtins = builtinsNs) (hco : fd.scope.isCoroutine = false) (hgen : fd.scope.isGenerator = false)
    (x : ∀ L, ExsT (fnFm prog w K A fd f L D U hh hD hU hk hg hb) (.func body (callEnv fd L f)) loc own body fun fl loc own => Q (retOf fl) own) : CallT prog w K A own (.ref f) ds Q := by
  intro h₀ s vs g ok vr
  have X : K.In s.heap := g.kin.keeps ok.keep
  obtain ⟨binds, bt, bl, bv⟩ := hp s vs X vr
  refine ks_codeAny_call_defAt (Nat.lt_of_le_of_lt hD hroom) (X _ _ hK) rfl (hlim _ X) (codeRec_of X hcd) hbody bt hcell bl (fun h₁ ns ex => ?_) hco hgen hk
  have fr : h₀.get? s.heap.objs.size = none := ok.keep.none (get_size_none _)
  have rel : Rel h₀ s.heap.objs.size loc own h₁ := by
    refine ⟨ok.ext ex, ⟨⟨_, ns, fun y d hy => ?_⟩, fr, fun p hp e => ?_, hnd⟩⟩
    · obtain ⟨v, e, r⟩ := bv y d hy; exact ⟨v, e, r.mono (Ext.pers ex)⟩
    · obtain ⟨ob, q, _⟩ := (ok.at_ p hp).some
      rw [e, get_size_none] at q; cases q
  refine ks_wpAt_mono (x s.heap.objs.size h₀ { s with heap := h₁, toks := s.toks + binds.length } g rel) (fun fl s' ⟨a, loc', own', p, r, fr, q⟩ => ?_) fun _ _ z => z.elim
  have p' : Stays s s' := Stays.trans (b := { s with heap := h₁, toks := s.toks + binds.length }) (Ext.pers ex).st p
  cases fr with
  | next => exact ⟨_, _, own', rfl, p', r.ow, .none, q⟩
  | brk => exact ⟨_, _, own', rfl, p', r.ow, .none, q⟩
  | cont => exact ⟨_, _, own', rfl, p', r.ow, .none, q⟩
  | ret v => exact ⟨_, _, own', rfl, p', r.ow, v, q⟩

structure SupF (Γ : Fm) (sn : Str) (cc : Addr) : Prop where
  ks : Γ.env.kindOf "super" = some .globalImplicit
  kc : Γ.env.kindOf "__class__" = some .free
  fn : ∃ f c d fd sl ar, Γ.env.func = some f ∧ Γ.K.lookup f = some ⟨c, d, .func fd, sl⟩ ∧ (fd.params.posonlyargs ++ fd.params.args).head? = some ar ∧ ar.arg = sn
  kl : Γ.env.kindOf sn = some .local
  cd : ∃ a c d vs sl file tf, Γ.env.code = .ref a ∧ Γ.K.lookup a = some ⟨c, d, .fields vs, sl⟩ ∧ vs[2]? = some (.str file tf) ∧ ((Γ.prog.main.file : Str) == file) = true
  cl : Γ.env.cells.lookup (Str.ofString "__class__") = some cc
noncomputable def SupE (Γ : Fm) (name : Str) (p0 p1 apos pos : Pos) : Prop :=
  eval (.Call (.Attribute (.Call (.Name "super" p0) [] [] p1) name apos) [] [] pos) Γ.env = (do
      let ov ← attributeBase (.Call (.Name "super" p0) [] [] p1) name Γ.env (eval (.Call (.Name "super" p0) [] [] p1) Γ.env)
      standAt apos.atName
      let (f, first) ← holding [ov] (getMethod ov name (do return (← importBound (.Call (.Name "super" p0) [] [] p1) Γ.env).getD true))
      callWith pos f first (backTo pos (starEach [] Γ.env)) [])
theorem evt_sup {name self : Str} {i T B : String} {x C d cc : Addr} {cd : ClassData} {ds : List Dv} {body : List Stmt} {p0 p1 apos pos : Pos} (S : SupName name i T B) (H : ClsK Γ.prog Γ.K C cc cd) (F : SupF Γ self cc) (hx : Has self (.raw (.ref x)) loc) (ha : HasO x (.acc C d ds) own)
    (k : ∀ h₀ s b, Gd Γ.K h₀ → Rel h₀ Γ.env.locals loc own s.heap → s.heap.get? b = some (boundObj B i x) → wpAny (model Γ.prog Γ.w) Γ.A (callWith pos (.ref b) [] (backTo pos (starEach [] Γ.env)) []) (Out h₀ Γ.env.locals s Q) Γ.E s)
    (he : SupE Γ name p0 p1 apos pos) :
    EvT Γ (.func body Γ.env) loc own (.Call (.Attribute (.Call (.Name "super" p0) [] [] p1) name apos) [] [] pos) Q := by
  intro h₀ s g rel
  obtain ⟨f, fc, fo, fd, fsl, ar, f1, f2, f3, rfl⟩ := F.fn
  obtain ⟨a, ac, ao, vs, asl, file, tf, a1, a2, a3, a4⟩ := F.cd
  have G := g.ext rel.ow.keep
  obtain ⟨m, ns, hm⟩ := rel.lc.ns
  obtain ⟨v, mv, vr⟩ := hm _ _ hx.mem
  cases vr
  obtain ⟨ws, n, ho, r⟩ := rel.ow.at_ _ ha.mem
  refine sup_call (L := x) S G H Γ.hk F.ks F.kc f1 (G.kin _ _ f2) rfl f3 F.kl a1 (G.kin _ _ a2) rfl a3 a4 F.cl Γ.hg Γ.hb ns mv ho rfl (by intro c z; simp at z) (fun b h' t' ex hb => ?_) he
  exact wpAny_mono (k h₀ { s with heap := h', toks := t' } b g (rel.ext ex) hb) (fun _ _ z => z.pers (Ext.pers ex).st) fun _ _ z => z

theorem evt_len {self : Str} {x C d cc : Addr} {cd : ClassData} {ds : List Dv} {body : List Stmt} {p0 p1 apos pos : Pos} (H : ClsK Γ.prog Γ.K C cc cd) (F : SupF Γ self cc) (hx : Has self (.raw (.ref x)) loc) (ha : HasO x (.acc C d ds) own)
    (he : SupE Γ "__len__" p0 p1 apos pos) (q : Q (.int ds.length) loc own) : EvT Γ (.func body Γ.env) loc own (.Call (.Attribute (.Call (.Name "super" p0) [] [] p1) "__len__" apos) [] [] pos) Q := by
  refine evt_sup sup_len H F hx ha (fun h₀ s b g rel hb => ?_) he
  obtain ⟨ws, n, ho, r⟩ := rel.ow.at_ _ ha.mem
  refine call_bound hb (.inl rfl) len_plain len_entry (fun A {Q} {E} q => chk_slot len_sig len_kind q) ?_
  unfold Builtin.«list.__len__»
  refine wpAny_bind (wpAny_of_eq (show slotArgs "__len__" 0 ⟨[.ref x], []⟩ = pure (.ref x, []) from rfl) ?_)
  show wpAny _ _ (seqSize x >>= fun n => retInt n) _ _ _
  unfold seqSize retInt
  refine wpAny_bind (wpAny_bind (wpAny_loadPart ho (wpAny_pure ?_)))
  refine wpAny_bind (wpAny_mkInt (wpAny_pure ⟨_, rfl, ?_⟩))
  refine ⟨_, _, _, Pers.st .refl, rel, ?_, q⟩
  rw [← r.length]
  exact .int _ _
theorem evt_init {self : Str} {x C d cc : Addr} {cd : ClassData} {body : List Stmt} {p0 p1 apos pos : Pos} (H : ClsK Γ.prog Γ.K C cc cd) (F : SupF Γ self cc) (hx : Has self (.raw (.ref x)) loc) (ha : Upd x (.acc C d []) (.acc C d []) own own')
    (K : AccK Γ.K C) (he : SupE Γ "__init__" p0 p1 apos pos) (q : Q .none loc own') : EvT Γ (.func body Γ.env) loc own (.Call (.Attribute (.Call (.Name "super" p0) [] [] p1) "__init__" apos) [] [] pos) Q := by
  have ha' : HasO x (.acc C d []) own := by
    clear q
    induction ha with
    | here => exact .here
    | there _ ih => exact .there ih
  refine evt_sup sup_init H F hx ha' (fun h₀ s b g rel hb => ?_) he
  obtain ⟨ob, ws, n, ho, hd, hv, hi, hmk, hne⟩ := (SeqO.acc K).at (rel.ow.at_ _ ha.mem)
  refine call_bound hb (.inl rfl) init_plain init_entry (fun A {Q} {E} q => chk_slot init_sig init_kind q) ?_
  obtain ⟨p, r⟩ := seq_upd (K := Γ.K) (ws := []) (f := fun _ => #[]) rel ha (.acc K) ho hd hne rfl .nil hmk
  show wpAny _ _ (Builtin.List.listItems (.ref x) >>= _) _ _ s
  unfold Builtin.List.listItems
  refine wpAny_bind (wpAny_bind (wpAny_seqItems ho hd (wpAny_pure ?_)))
  refine wpAny_bind (m := Builtin.List.listUpdate (.ref x) _) ?_
  unfold Builtin.List.listUpdate
  refine wpAny_updateSeq ho hd ?_ (by have := hv.length; rw [List.size_toArray, this]; decide) (by decide)
  refine wpAny_bind (wpAny_letGo (wpAny_pure ⟨_, rfl, ?_⟩))
  exact ⟨_, _, _, p.st, r, .none, q⟩
end
end Mine

end
section
open PySem PySem.W PySem.Builtin PySem.Builtin.ObjectAttr
open PyProof.Rows hiding wpAt wpAt_bind
set_option linter.unusedSectionVars false
set_option maxRecDepth 100000
set_option maxHeartbeats 1000000
set_option linter.unusedVariables false
namespace Mine
variable [aI : Membership Nat Unit]
noncomputable def fnOf (K : Frag) (a : Addr) : FuncData := match K.lookup a with
  | some ⟨_, _, .func fd, _⟩ => fd
  | _ => { name := "", qualname := "", params := { posonlyargs := [], args := [], vararg := none, kwonlyargs := [], kw_defaults := [], kwarg := none, defaults := [] }, body := .stmts [], scope := { kind := .function, names := [], isGenerator := false, isCoroutine := false }, globals := 0, closure := [], defaults := .none, kwdefaults := .none, pyModule := .none, code := .none }
noncomputable def bodyOf (fd : FuncData) : List Stmt := match fd.body with | .stmts b => b | _ => []
theorem peek_binds {K : Frag} {s : Shared} {fd : FuncData} {args : Args} {binds : List (Str × Value)} (X : K.In s.heap) (e : ∀ S, peek K S (bindArgs fd args) = some binds) : BindsTo s fd args binds := kp_binds X e

theorem zip_look {h : Heap} : ∀ {names : List Str} {vs : List Value} {ds : List Dv} {acc : List (Str × Value)}, names.Nodup → VRs h vs ds → names.length = ds.length → ∀ x d, (x, d) ∈ names.zip ds → ∃ v, ((names.zip vs).reverse ++ acc).lookup x = some v ∧ VR h v d
  | [], _, _, _, _, _, _, x, d, m => by simp at m
  | n :: names, [], _, _, _, y, l, x, d, m => by cases y; simp at l
  | n :: names, v :: vs, d' :: ds, acc, nd, .cons y ys, l, x, d, m => by
    rw [List.nodup_cons] at nd
    rw [List.zip_cons_cons] at m
    rw [List.zip_cons_cons, List.reverse_cons, List.append_assoc]
    rcases List.mem_cons.mp m with e | m
    · cases e
      refine ⟨v, ?_, y⟩
      rw [List.lookup_append, (?_ : ((names.zip vs).reverse).lookup n = none)]
      · simp
      · rw [List.lookup_eq_none_iff]
        intro p hp
        have hp' : p ∈ names.zip vs := by simpa using hp
        have := (List.of_mem_zip (a := p.1) (b := p.2) hp').1
        simp only [beq_eq_false_iff_ne, ne_eq, bne_iff_ne]
        intro z
        exact nd.1 (z ▸ this)
    · exact zip_look (acc := [(n, v)] ++ acc) nd.2 ys (by simpa using l) x d m
theorem params_of {K : Frag} {fd : FuncData} {ds : List Dv} (names : List Str) (defs : List Value) (ddefs : List Dv) (hdef : ∀ h, VRs h defs ddefs) (hnd : names.Nodup) (hlen : names.length = ds.length + ddefs.length)
    (e : ∀ S vs, vs.length = ds.length → peek K S (bindArgs fd ⟨vs, []⟩) = some (names.zip (vs ++ defs))) (hl : ∀ x ∈ names, fd.scope.names.lookup x = some .local) : Params K fd ds (names.zip (ds ++ ddefs)) := by
  intro s vs X vr
  refine ⟨_, peek_binds X (fun S => e S vs vr.length), fun x hx => hl _ (List.of_mem_zip (a := x.1) (b := x.2) hx).1, fun x d m => ?_⟩
  have := zip_look (acc := []) hnd (vr.append (hdef s.heap)) (by rw [List.length_append]; exact hlen) x d m
  simpa using this

noncomputable def defOk (K : Frag) (f : Addr) (names : List Str) : Bool := match K.lookup f with
  | some ⟨_, _, .func fd, _⟩ => (fd.scope.names.all fun x => x.2 != .cell) && (names.all fun n => fd.scope.names.lookup n == some .local) && fd.scope.kind == .function && fd.globals == mainGlobals && fd.builtins == builtinsNs &&
      !fd.scope.isCoroutine && !fd.scope.isGenerator && codeIn K fd.code fd.qualname && decide names.Nodup && (match fd.body with | .stmts _ => true | _ => false)
  | _ => false
structure DefK (K : Frag) (f : Addr) (names : List Str) : Prop where
  obj : ∃ c d sl, K.lookup f = some ⟨c, d, .func (fnOf K f), sl⟩
  cell : ∀ x ∈ (fnOf K f).scope.names, x.2 ≠ .cell
  loc : ∀ x ∈ names, (fnOf K f).scope.names.lookup x = some .local
  kind : (fnOf K f).scope.kind = .function
  glb : (fnOf K f).globals = mainGlobals
  blt : (fnOf K f).builtins = builtinsNs
  co : (fnOf K f).scope.isCoroutine = false
  gen : (fnOf K f).scope.isGenerator = false
  code : codeIn K (fnOf K f).code (fnOf K f).qualname = true
  nd : names.Nodup
  body : (fnOf K f).body = .stmts (bodyOf (fnOf K f))
theorem defK_of {K : Frag} {f : Addr} {names : List Str} (h : defOk K f names = true) : DefK K f names := by
  unfold defOk at h
  split at h
  · rename_i c d fd sl e
    have hf : fnOf K f = fd := by unfold fnOf; rw [e]
    simp only [Bool.and_eq_true, List.all_eq_true, bne_iff_ne, beq_iff_eq, Bool.not_eq_true', decide_eq_true_eq] at h
    obtain ⟨⟨⟨⟨⟨⟨⟨⟨⟨h1, h2⟩, h3⟩, h4⟩, h5⟩, h6⟩, h7⟩, h8⟩, h9⟩, h10⟩ := h
    refine ⟨⟨c, d, sl, by rw [hf]; exact e⟩, by rw [hf]; exact h1, by rw [hf]; exact h2, by rw [hf]; exact h3, by rw [hf]; exact h4, by rw [hf]; exact h5, by rw [hf]; exact h6, by rw [hf]; exact h7, by rw [hf]; exact h8, h9, ?_⟩
    rw [hf]
    unfold bodyOf
    split at h10
    · rename_i b hb; rw [hb]
    · cases h10
  · cases h
noncomputable abbrev dfFm (prog : Program) (w : World) (K : Frag) (A : Around) (f L : Addr) (names : List Str) (H : DefK K f names) (hh : A.handled = none) (hD : A.depth ≤ 900) (hU : A.units ≤ 9000) : Fm :=
  fnFm prog w K A (fnOf K f) f L 900 9000 hh hD hU H.kind H.glb H.blt
theorem callT_fn {prog : Program} {w : World} {K : Frag} {A : Around} {own : Own} {f : Addr} {ds ddefs : List Dv} {Q : Dv → Own → Prop} {names : List Str} (H : DefK K f names) (loc : Loc) (defs : List Value)
    (hlim : ∀ h, K.In h → h.NoLimit) (hlen : names.length = ds.length + ddefs.length) (hloc : names.zip (ds ++ ddefs) = loc) (hdef : ∀ h, VRs h defs ddefs)
    (e : ∀ S vs, vs.length = ds.length → peek K S (bindArgs (fnOf K f) ⟨vs, []⟩) = some (names.zip (vs ++ defs)))
    (hh : A.handled = none) (hD : A.depth ≤ 900) (hU : A.units ≤ 9000)
    (x : ∀ L, Exs (dfFm prog w K A f L names H hh hD hU) loc own (bodyOf (fnOf K f)) fun fl loc own => Q (retOf fl) own) : CallT prog w K A own (.ref f) ds Q := by
  obtain ⟨c, d, sl, hK⟩ := H.obj
  subst hloc
  exact callT_def hlim hK H.code H.body (by decide) H.cell (params_of names defs ddefs hdef H.nd hlen e H.loc) (by
    rw [List.map_fst_zip (by rw [List.length_append]; omega)]; exact H.nd) hh hD hU H.kind H.glb H.blt H.co H.gen x
theorem callT_fnT {prog : Program} {w : World} {K : Frag} {A : Around} {own : Own} {f : Addr} {ds ddefs : List Dv} {Q : Dv → Own → Prop} {names : List Str} (H : DefK K f names) (loc : Loc) (defs : List Value)
    (hlim : ∀ h, K.In h → h.NoLimit) (hlen : names.length = ds.length + ddefs.length) (hloc : names.zip (ds ++ ddefs) = loc) (hdef : ∀ h, VRs h defs ddefs)
    (e : ∀ S vs, vs.length = ds.length → peek K S (bindArgs (fnOf K f) ⟨vs, []⟩) = some (names.zip (vs ++ defs)))
    (hh : A.handled = none) (hD : A.depth ≤ 900) (hU : A.units ≤ 9000)
    (x : ∀ L, ExsT (dfFm prog w K A f L names H hh hD hU) (.func (bodyOf (fnOf K f)) (callEnv (fnOf K f) L f)) loc own (bodyOf (fnOf K f)) fun fl loc own => Q (retOf fl) own) : CallT prog w K A own (.ref f) ds Q := by
  obtain ⟨c, d, sl, hK⟩ := H.obj
  subst hloc
  exact callT_defT hlim hK H.code H.body (by decide) H.cell (params_of names defs ddefs hdef H.nd hlen e H.loc) (by
    rw [List.map_fst_zip (by rw [List.length_append]; omega)]; exact H.nd) hh hD hU H.kind H.glb H.blt H.co H.gen x
end Mine

end
section
open PySem PySem.W PySem.Builtin PySem.Builtin.ObjectAttr
open PyProof.Rows hiding wpAt wpAt_bind
set_option linter.unusedSectionVars false
set_option maxRecDepth 100000
set_option maxHeartbeats 1000000
set_option linter.unusedVariables false
namespace Mine
variable [aI : Membership Nat Unit]
section
variable {Γ : Fm} {loc : Loc} {own own1 : Own} {Q : QV} {QQ : QF}
theorem evo_some {e : PySem.Expr} (x : Ev Γ loc own e Q) : EvO Γ loc own (some e) Q := x
theorem evo_none (q : Q .none loc own) : EvO Γ loc own none Q := q
theorem Upd.has {a : Addr} {o o' : AObj} {own own' : Own} (u : Upd a o o' own own') : HasO a o own := by
  induction u with
  | here => exact .here
  | there _ ih => exact .there ih
theorem HasO.upd {a : Addr} {o : AObj} {own : Own} (o' : AObj) (h : HasO a o own) : ∃ own', Upd a o o' own own' := by
  induction h with
  | here => exact ⟨_, .here⟩
  | there _ ih => obtain ⟨r, u⟩ := ih; exact ⟨_, .there u⟩
theorem Upd.has' {a : Addr} {o o' : AObj} {own own' : Own} (u : Upd a o o' own own') : HasO a o' own' := by
  induction u with
  | here => exact .here
  | there _ ih => exact .there ih
theorem Upd.same {a : Addr} {o : AObj} {own own' : Own} (u : Upd a o o own own') : own' = own := by
  induction u with
  | here => rfl
  | there _ ih => rw [ih]
end
end Mine

end
section
open PySem PySem.W PySem.Builtin PySem.Builtin.ObjectAttr
open PyProof.Rows hiding wpAt wpAt_bind
set_option linter.unusedSectionVars false
set_option maxRecDepth 100000
set_option maxHeartbeats 1000000
set_option linter.unusedVariables false
namespace Mine
variable [aI : Membership Nat Unit]
theorem li_kind : builtinKind "list.__iter__" = some .slot := by decide +kernel
theorem li_split : splitId "list.__iter__" = some ("list", "__iter__") := by decide +kernel
section
variable {prog : Program} {w : World} {A : Around} {E : Value → Shared → Prop} {s : Shared} {K : Frag} {C d a it : Addr}
theorem acc_iter {vs : List Value} {n : Nat} {R : Value → Shared → Prop} (H : AccK K C) (X : K.In s.heap) (hx : s.heap.get? a = some (accObj C d vs n))
    (k : R (.ref s.heap.objs.size) { s with heap := s.heap.push { cls := .type "list_iterator", data := .fields #[.ref a, .int 0 0] } }) : wpAny (model prog w) A (pyIter (.ref a)) R E s := by
  have T : Looks (model prog w) s.heap (typeOf (.ref a)) (.ref C) := (Looks.ld hx).andThen .now
  have hsub : Looks (model prog w) s.heap (isInstance (.ref a) (.type "list")) true := T.andThen (looks_mroIn X H.sub)
  have hcall : wpAny (model prog w) A (call (.builtin "list.__iter__") [.ref a]) (fun it s' => ∃ T' r, s'.TypeIs it T' ∧ typeLookup (.type T') "__next__" = pure (some r) ∧ R it s') E s := by
    refine call_bi (.inr li_kind) li_split slot_list_iter.plain entry_list_iter (args_list_iter _) hsub ?_
    show wpAny _ _ (newFields "list_iterator" [.ref a, rawInt 0] >>= fun v => ret v) _ _ s
    exact wpAny_bind (wpAny_newObj_type (wpAny_pure ⟨_, rfl, "list_iterator", _, ⟨_, Heap.get?_push_size _ rfl, rfl⟩, slot_listiter_next.lookup, k⟩))
  unfold pyIter callSpecialIfBoundUnlessNone? bindSpecialIfBound?
  refine wpAny_bind (wpAny_bind (T.here ((looks_findIn X H.it).here ?_)))
  refine wpAny_bind (wpAny_holding (wpAny_bind (wpAny_bind (wpAny_bind (T.here ((looks_findIn X H.it).here ?_))))))
  refine wpAny_bind (wpAny_askSetting ?_)
  have fin : ∀ (g : Value × List Value), g = (.builtin "list.__iter__", [.ref a]) → wpAny (model prog w) A (if (g.1 == Value.none) = true then (do let v ← (do rule "iter.none"; raiseError "TypeError" s!"'{← typeNameOf (.ref a)}' object is not iterable"); pure (some v)) else do let v ← call g.1 g.2; pure (some v))
      (fun o s' => wpAny (model prog w) A (match o with
        | some it => (specialOf it "__next__" >>= fun x => match x with
          | none => (do rule "iter.non-iterator"; raiseError "TypeError" s!"iter() returned non-iterator of type '{← typeNameOf it}'")
          | some _ => pure it)
        | none => (bindSpecialIfBound? (.ref a) "__getitem__" >>= fun x => match x with
          | none => (do rule "iter.not-iterable"; raiseError "TypeError" s!"'{← typeNameOf (.ref a)}' object is not iterable")
          | some _ => (do rule "iter.getitem-fallback"; newFields "iterator" [.ref a, ← mkInt 0]))) R E s') E s := by
    rintro g rfl
    rw [if_neg (show ¬ ((Value.builtin "list.__iter__" == Value.none) = true) by decide)]
    refine wpAny_bind (wpAny_mono hcall (fun it s' ⟨T', r, h1, h2, h3⟩ => wpAny_pure ?_) fun _ _ z => z)
    exact wpAny_bind (wpAny_specialOf h1 h2 (wpAny_pure h3))
  split
  · refine wpAny_bind (wpAny_of_eq (slot_list_iter.bind _) (wpAny_pure ?_))
    exact fin _ rfl
  · refine wpAny_tryCatch (wpAny_bind (wpAny_of_eq (slot_list_iter.bind _) (wpAny_pure ?_)))
    exact fin _ rfl

theorem seq_next {i : Nat} {ob : Obj} {vs : List Value} {n : Nat} {x : Value} {R : Option Value → Shared → Prop} (hit : s.heap.IsListIter it a i) (ho : s.heap.get? a = some ob) (hd : ob.data = .seq vs.toArray n) (hx : vs[i]? = some x)
    (k : ∀ h', h'.IsListIter it a (i + 1) → Heap.SameBut it s.heap h' → R (some x) { s with heap := h' }) : wpAny (model prog w) A (pyNext (.ref it)) R E s := by
  obtain ⟨oi, hoi, hci, hdi⟩ := id hit
  have hbody : wpAny (model prog w) A.in1 (Builtin.«list_iterator.__next__» ⟨[.ref it], []⟩) (fun fin s' => ∃ v, fin = .done (.ret v) ∧ (v = x ∧ ∃ h', h'.IsListIter it a (i + 1) ∧ Heap.SameBut it s.heap h' ∧ s' = { s with heap := h' })) (fun _ _ => False) s := by
    show wpAny _ _ (field (.ref it) 0 >>= _) _ _ s
    refine wpAny_bind (wpAny_field hoi hdi (x := .ref a) rfl ?_)
    show wpAny _ _ (if (Value.ref a == Value.none) = true then _ else _) _ _ s
    rw [if_neg (show ¬ ((Value.ref a == Value.none) = true) from Bool.false_ne_true)]
    show wpAny _ _ (field (.ref it) 1 >>= _) _ _ s
    refine wpAny_bind (wpAny_field hoi hdi (x := .int i 0) rfl ?_)
    show wpAny _ _ (seqItems? (.ref a) >>= _) _ _ s
    refine wpAny_bind (wpAny_seqItems ho hd ?_)
    have e : vs.toArray[((i : Int)).toNat]? = some x := by rw [Int.toNat_natCast, List.getElem?_toArray]; exact hx
    simp only [e]
    refine wpAny_bind (wpAny_setField hoi hdi (by simp) (wpAny_pure ⟨x, rfl, rfl, _, ⟨_, Heap.get?_update_self _ hoi (Obj.isFreed_of_fields (Obj.data_mapFields hdi _)), (Obj.cls_mapFields ..).trans hci, ?_⟩, Heap.SameBut.update .., rfl⟩))
    rw [Obj.data_mapFields hdi]; simp [rawInt]
  unfold pyNext
  refine wpAny_bind (wpAny_attempt (wpAny_callSpecial?_slot (name := Str.ofString "__next__") hit.typeIs slot_listiter_next (wpAny_call_entry slot_listiter_next hit.typeIs entry_listiter_next ?_ (args_listiter_next _))))
  refine wpAny_mono hbody (fun fin s' ⟨v, e, hv, h', h1, h2, h3⟩ => ?_) fun _ _ z => z.elim
  subst e hv h3
  exact ⟨_, rfl, wpAny_pure (k h' h1 h2)⟩
theorem seq_stop {i : Nat} {ob : Obj} {vs : List Value} {n : Nat} {R : Option Value → Shared → Prop} (hh : A.handled = none) (hit : s.heap.IsListIter it a i) (ho : s.heap.get? a = some ob) (hd : ob.data = .seq vs.toArray n) (hx : vs[i]? = none)
    (k : ∀ h', Heap.ExtBut it s.heap h' → R none { s with heap := h' }) : wpAny (model prog w) A (pyNext (.ref it)) R E s := by
  obtain ⟨oi, hoi, hci, hdi⟩ := id hit
  unfold pyNext
  refine wpAny_bind (wpAny_attempt (wpAny_callSpecial?_slot (name := Str.ofString "__next__") hit.typeIs slot_listiter_next (wpAny_call_entry slot_listiter_next hit.typeIs entry_listiter_next ?_ (args_listiter_next _))))
  show wpAny _ _ (field (.ref it) 0 >>= _) _ _ s
  refine wpAny_bind (wpAny_field hoi hdi (x := .ref a) rfl ?_)
  show wpAny _ _ (if (Value.ref a == Value.none) = true then _ else _) _ _ s
  rw [if_neg (show ¬ ((Value.ref a == Value.none) = true) from Bool.false_ne_true)]
  show wpAny _ _ (field (.ref it) 1 >>= _) _ _ s
  refine wpAny_bind (wpAny_field hoi hdi (x := .int i 0) rfl ?_)
  show wpAny _ _ (seqItems? (.ref a) >>= _) _ _ s
  refine wpAny_bind (wpAny_seqItems ho hd ?_)
  have e : vs.toArray[((i : Int)).toNat]? = none := by rw [Int.toNat_natCast, List.getElem?_toArray]; exact hx
  simp only [e]
  refine wpAny_bind (wpAny_rule (wpAny_bind (wpAny_setField hoi hdi (by simp) ?_)))
  show wpAny _ _ (newExc (.type "StopIteration") [] >>= _) _ _ _
  refine wpAny_bind ?_
  simp only [newExc, newTuple]
  refine wpAny_bind (wpAny_newObj_type ?_ (by size_fits))
  refine wpAny_bind (m := firstArgMember _ _) (wpAny_of_eq (a := Value.none) (by first | rfl | (simp only [firstArgMember]; rfl)) ?_)
  refine wpAny_newObj_type ?_ (by size_fits)
  simp only [raiseNew]
  refine wpAny_bind (wpAny_handled ?_)
  rw [show A.in1.handled = none from hh]
  refine wpAny_bind (wpAny_pure (wpAny_throw ?_))
  refine wpAny_bind (wpAny_isInstance (T := "StopIteration") (b := true) ⟨_, Heap.get?_push_size _ rfl, rfl⟩ isSubtype_stop ?_)
  exact wpAny_pure (k _ (((Heap.SameBut.update ..).extBut.push _).push _))
end

theorem walks_pairs {prog : Program} {w : World} {A : Around} (hh : A.handled = none) (I ax : Addr) (hne : ax ≠ I) (ob : Obj) (n : Nat) (vs : List Value) (hd : ob.data = .seq vs.toArray n) (Ts : Nat → Addr) (vals : Nat → Array Value)
    (hit : ∀ j, j < vs.length → vs[j]? = some (.ref (Ts j))) (hTI : ∀ j, j < vs.length → Ts j ≠ I) :
    WalksU prog w A I (I :: ax :: (List.range vs.length).map Ts) [I] vs.length (fun j v => j < vs.length ∧ v = vals j)
      (fun j h => h.IsListIter I ax j ∧ h.get? ax = some ob ∧ ∀ k, k < vs.length → h.IsTuple (Ts k) (vals k))
      (fun j T h => (j < vs.length ∧ T = Ts j) ∧ h.IsListIter I ax (j + 1) ∧ h.get? ax = some ob ∧ ∀ k, k < vs.length → h.IsTuple (Ts k) (vals k)) where
  sub := fun b hb => by simp at hb; simp [hb]
  frame := fun _ _ _ st hk => ⟨st.1.at fun o e => hk I (by simp) o e, hk ax (by simp) _ st.2.1,
    fun k hk' => (st.2.2 k hk').at fun o e => hk (Ts k) (List.mem_cons_of_mem _ (List.mem_cons_of_mem _ (List.mem_map.mpr ⟨k, List.mem_range.mpr hk', rfl⟩))) o e⟩
  item := fun i s Q E hi st hQ => by
    refine seq_next st.1 st.2.1 hd (hit i hi) fun h' hit' hs' => ?_
    have tup : ∀ k, k < vs.length → h'.IsTuple (Ts k) (vals k) := fun k hk' => (st.2.2 k hk').extBut hs'.extBut (hTI k hk')
    exact hQ (Ts i) (vals i) h' s.toks ⟨hi, rfl⟩ (tup i hi) ⟨⟨hi, rfl⟩, hit', (hs'.2 ax hne).trans st.2.1, tup⟩ fun b o hb e => hs'.extBut b o (fun h => hb (by simp [h])) e
  go := fun _ _ _ _ _ s Q _ hm hQ => wpAny_letOwnedTupleGo_listiter hm.2.1 (hQ s.heap hm.2 fun _ _ _ e => e)
  apart := fun j T _ hm hmem => by
    rcases List.mem_cons.mp hmem with e | e
    · exact hTI j hm.1.1 (hm.1.2 ▸ e)
    · cases e
  done := fun s Q E st hQ => seq_stop hh st.1 st.2.1 hd (by simp) fun h' he' => hQ h' s.toks fun b o hb e => he' b o (fun h => hb (by simp [h])) e
  self := fun _ _ _ _ st hQ => wpAny_pyIter_listiter st.1 hQ
end Mine

end
section
open PySem PySem.W PySem.Builtin PySem.Builtin.ObjectAttr
open PyProof.Rows hiding wpAt wpAt_bind
set_option linter.unusedSectionVars false
set_option maxRecDepth 100000
set_option maxHeartbeats 1000000
set_option linter.unusedVariables false
namespace Mine
variable [aI : Membership Nat Unit]
noncomputable def shiftVal (k : Int) (val : Nat → Int) : Nat → Int
  | 0 => k
  | j + 1 => val j
theorem preSum_shift (k : Int) (val : Nat → Int) : ∀ n, preSum (shiftVal k val) (n + 1) = k + preSum val n
  | 0 => by simp [preSum, shiftVal]
  | n + 1 => by
    have := preSum_shift k val n
    show preSum (shiftVal k val) (n + 1) + shiftVal k val (n + 1) = k + (preSum val n + val n)
    rw [this]; show k + preSum val n + val n = _; omega
theorem args_sum2 (a b : Value) : argsOk "sum" ⟨[a, b], []⟩ := by unfold argsOk; kernel_rfl
section
variable {prog : Program} {w : World} {A : Around} {E : Value → Shared → Prop} {s : Shared}
theorem shiftWalk {I : Addr} {fp wr : List Addr} {G : Array GenState → Array GenState → Prop} {n : Nat} {P : Nat → Value → Prop} {St : Nat → Shared → Prop} (W : WalksS prog w A I fp wr G n P St) :
    WalksS prog w A I fp wr G (n + 1) (fun j v => ∃ i, j = i + 1 ∧ P i v) (fun j s => ∃ i, j = i + 1 ∧ St i s) where
  sub := W.sub
  grefl := W.grefl
  gtrans := W.gtrans
  frame := fun j s h' tk ⟨i, e, st⟩ a b => ⟨i, e, W.frame i s h' tk st a b⟩
  item := fun j s Q E hj ⟨i, e, st⟩ k => W.item i s Q E (by omega) st fun v s' p st' m => k v s' ⟨i, e, p⟩ ⟨i + 1, by omega, st'⟩ m
  done := fun s Q E ⟨i, e, st⟩ k => W.done s Q E ((show n = i by omega) ▸ st) k
  self := fun j s Q E ⟨i, e, st⟩ q => W.self i s Q E st q
theorem call_sum2 {x : Value} {k : Int} {t : Tok} {Q : Value → Shared → Prop}
    (h : wpAny (model prog w) A.in1 (pyIter x) (fun it s₂ => ∃ I fp wr G n P St val, it = .ref I ∧ WalksS prog w A.in1 I fp wr G n P St ∧ St 0 s₂ ∧ (∀ b ∈ fp, b < s₂.heap.objs.size) ∧
      (∀ i v, P i v → ∃ t, v = .int (val i) t) ∧ ∀ s' t', Moved wr G s₂ s' → Q (.int (k + preSum val n) t') s') E s) :
    wpAny (model prog w) A (call (.builtin "sum") [x, .int k t]) Q E s := by
  refine call_function_tree F.kind_sum F.plain_sum F.entry_sum (args_sum2 _ _) ?_
  unfold Builtin.«sum»
  simp only [List.length_cons, List.length_nil]
  rw [if_neg (by decide)]
  refine wpAny_bind (wpAny_of_eq (show Builtin.Builtins.bindParams "sum" ["start"] 0 ⟨[.int k t], []⟩ = pure [some (.int k t)] from rfl) ?_)
  refine wpAny_bind (wpAny_mono h (fun it s₂ h₂ => ?_) fun _ _ e => e)
  obtain ⟨I, fp, wr, G, n, P, St, val, rfl, W, hst, hfp, hval, hQ⟩ := h₂
  have W' := shiftWalk W
  have hval' : ∀ i v, (∃ j, i = j + 1 ∧ P j v) → ∃ t, v = .int (shiftVal k val i) t := fun i v ⟨j, e, p⟩ => by subst e; exact hval j v p
  have tail : ∀ (t₁ : Tok) (tk : Nat) (st : Int), (st = 0 ∨ st = 2) → s₂.toks ≤ tk → wpAny (model prog w) A.in1 (do
      for (ty, what, hint) in [("str", "strings", "''"), ("bytes", "bytes", "b''"), ("bytearray", "bytearray", "b''")] do
        if ← isInstance (.int k t₁) (.type ty) then
          rule "sum.start-refused"; raiseError "TypeError" s!"sum() can't sum {what} [use {hint}.join(seq) instead]"
      again (.builtin "sum.loop" ⟨[.ref I, ← newList [.int k t₁], rawInt st, rawInt 0], []⟩))
      (fun fin s' => match fin with
        | .done f => (match (Except.ok f : Result) with | .ok (.ret v) => Q v s' | .ok _ => False | .error e => E e s')
        | .again c' => c'.quiet = true ∧ codeAny (model prog w) A c' (fun r s' => match r with | .ok (.ret v) => Q v s' | .ok _ => False | .error e => E e s') s') E { s₂ with toks := tk } := by
    intro t₁ tk st hst2 htk
    simp only [List.forIn_cons, List.forIn_nil]
    refine wpAny_bind (wpAny_bind (wpAny_bind (wpAny_isInstance (T := "int") (b := false) (typeIs_int _ _ _) PySem.sub_int_str ?_)))
    simp only [Bool.false_eq_true, if_false]
    refine wpAny_pure (wpAny_bind (wpAny_bind (wpAny_isInstance (T := "int") (b := false) (typeIs_int _ _ _) PySem.sub_int_bytes ?_)))
    simp only [Bool.false_eq_true, if_false]
    refine wpAny_pure (wpAny_bind (wpAny_bind (wpAny_isInstance (T := "int") (b := false) (typeIs_int _ _ _) PySem.sub_int_bytearray ?_)))
    simp only [Bool.false_eq_true, if_false]
    refine wpAny_pure (wpAny_pure ?_)
    refine wpAny_bind (wpAny_newObj_type ?_)
    have hSf : s₂.heap.objs.size ∉ fp := fun hm => Nat.lt_irrefl _ (hfp _ hm)
    have e1 : preSum (shiftVal k val) 1 = k := by simp [preSum, shiftVal]
    refine wpAny_pure ⟨plainId_quiet F.plain_sum_loop _, codeAny_sum_loopAnyS W' (shiftVal k val) hval' s₂.heap.objs.size hSf n 1 _ t₁ 0 st hst2 (by omega) (by omega)
      (W'.frame 1 s₂ _ _ ⟨0, rfl, hst⟩ htk fun b _ o e => Heap.get?_push_of_some _ e) (by rw [e1]; exact Heap.get?_push_size _ rfl) fun s' t' hm => ?_⟩
    rw [preSum_shift]
    exact hQ s' t' (hm.drop_new htk)
  dsimp only
  split
  · refine wpAny_bind (wpAny_rule (wpAny_bind (wpAny_mkInt (wpAny_bind (wpAny_pure ?_)))))
    exact tail _ _ 0 (.inl rfl) (by first | exact Nat.le_succ _ | exact Nat.le_refl _)
  · refine wpAny_bind (wpAny_pure ?_)
    exact tail _ _ 2 (.inr rfl) (Nat.le_refl _)
end
end Mine

end
section
open PySem PySem.W PySem.Builtin PySem.Builtin.ObjectAttr
open PyProof.Rows hiding wpAt wpAt_bind
set_option linter.unusedSectionVars false
set_option maxRecDepth 100000
set_option maxHeartbeats 1000000
set_option linter.unusedVariables false
namespace Mine
variable [aI : Membership Nat Unit]
noncomputable def codeTab (K : Frag) (c T : Addr) : Bool := match K.lookup c with
  | some ⟨oc, _, .fields vs, _⟩ => oc == .type "code" && (match (vs[11]? : Option Value), vs.getD 18 .none, vs.getD 7 .none, vs.getD 9 .none, vs.getD 10 .none with
     | some (Value.ref P), .str _ _, .int _ _, .bool _, .int _ _ => P == T
     | _, _, _, _, _ => false) && c != T
  | _ => false
theorem isCode_of {K : Frag} {h : Heap} {c T : Addr} (X : K.In h) (e : codeTab K c T = true) {ps : Array Value} (hp : h.get? T = some (tabObj ps)) (htr : TriplesOk ps.toList) : h.IsCode c T ps ∧ h.TableAt c T ps := by
  unfold codeTab at e
  split at e
  · rename_i oc od vs sl ho
    rw [Bool.and_eq_true, Bool.and_eq_true] at e
    obtain ⟨⟨e0, e1⟩, e2⟩ := e
    split at e1
    · rename_i P fl tf fg tg inF tx tt h11 h18 h7 h9 h10
      rw [beq_iff_eq] at e1 e0
      subst e1
      have h11' : vs.getD 11 .none = .ref P := by rw [Array.getD_eq_getD_getElem?, h11]; rfl
      exact ⟨⟨_, vs, _, _, _, _, _, _, _, _, X _ _ ho, rfl, h11', h18, h7, h9, h10, hp, rfl, htr, by simpa using e2⟩, ⟨_, vs, X _ _ ho, e0, rfl, h11⟩, hp⟩
    · cases e1
  · cases e
theorem gen_code {prog : Program} {w : World} {A : Around} {E : Value → Shared → Prop} {s : Shared} {K : Frag} {env : Env} {c T : Addr} {pos : Pos} {qn : Str} {scope : Scope} {Q : Value → Shared → Prop} (hc : env.code = .ref c) (X : K.In s.heap) (e : codeTab K c T = true) (r : OR s.heap T .tab)
    (hQ : ∀ code h' tk, Heap.ExtBut T s.heap h' → OR h' T .tab → Q code { s with heap := h', toks := tk }) : wpAny (model prog w) A (genexprCode env pos qn scope) Q E s := by
  obtain ⟨ps, hp, htr⟩ := id r
  obtain ⟨hok, ht⟩ := isCode_of X e hp htr
  cases hf : codeAmong pos ps.toList with
  | some c' => exact wpAny_genexprCode_hit hc hok hf (hQ c' s.heap s.toks (fun _ _ _ e => e) r)
  | none =>
    refine wpAny_genexprCodeX hc hok ht hf fun c' h' tk hx _ _ hk' _ ht' _ => hQ _ h' tk hx ⟨_, ht'.2, ?_⟩
    obtain ⟨o, ws, fl, tf, flg, tg, inF, tx, tt, op, q1, q2, q3, q4, q5, q6, q7, q8, q9, q10, q11⟩ := hk'
    exact q10

structure GenOk (Γ : Fm) (scope : Scope) (iter : PySem.Expr) (xa xb : Str) (c T : Addr) : Prop where
  co : scope.isCoroutine = false
  clos : closureFor scope Γ.env = pure []
  cell : ∀ y ∈ scope.names, y.2 ≠ .cell
  h0 : scope.names.lookup (".0" : Str) = some NameKind.local
  ha : scope.names.lookup xa = some .local
  hb : scope.names.lookup xb = some .local
  ab : xa ≠ xb
  kind : scope.kind = .function
  code : Γ.env.code = .ref c
  tab : codeTab Γ.K c T = true
  fold : ∀ x, genFold iter Γ.env x = pure x
  lim : ∀ h, Γ.K.In h → h.NoLimit

section
variable {Γ : Fm} {loc : Loc} {own own' : Own} {Q : QV} {QQ : QF}
theorem pairs_at {h : Heap} : ∀ {vs : List Value} {ps : List (Dv × Dv)}, VRs h vs (ps.map fun p => .tup [p.1, p.2]) → ∃ (Ts : Nat → Addr) (vals : Nat → Array Value), (∀ j, j < vs.length → vs[j]? = some (.ref (Ts j))) ∧ (∀ j, j < vs.length → h.IsTuple (Ts j) (vals j)) ∧ (∀ j, ∃ va vb, vals j = #[va, vb]) ∧
    (∀ j p, ps[j]? = some p → ∃ va vb, vals j = #[va, vb] ∧ VR h va p.1 ∧ VR h vb p.2) ∧ ∀ j, j < vs.length → ¬ Hid (Ts j)
  | [], [], _ => ⟨fun _ => 0, fun _ => #[.none, .none], by simp, by simp, fun _ => ⟨_, _, rfl⟩, by simp, by simp⟩
  | v :: vs, p :: ps, .cons x y => by
    obtain ⟨Ts, vals, a, b, b2, c, nh⟩ := pairs_at y
    cases x with
    | @tup A' ws n es n0 e r =>
      cases r with
      | cons r1 r2 =>
        cases r2 with
        | cons r2 r3 =>
          cases r3
          rename_i va vb
          refine ⟨fun j => match j with | 0 => A' | j + 1 => Ts j, fun j => match j with | 0 => #[va, vb] | j + 1 => vals j, fun j hj => ?_, fun j hj => ?_, fun j => ?_, fun j q hq => ?_, fun j hj => ?_⟩
          · cases j with
            | zero => rfl
            | succ j => exact a j (by simpa using hj)
          · cases j with
            | zero => exact ⟨_, e, rfl, _, rfl⟩
            | succ j => exact b j (by simpa using hj)
          · cases j with
            | zero => exact ⟨_, _, rfl⟩
            | succ j => exact b2 j
          · cases j with
            | zero => simp at hq; subst hq; exact ⟨va, vb, rfl, r1, r2⟩
            | succ j => exact c j q (by simpa using hq)
          · cases j with
            | zero => exact n0
            | succ j => exact nh j (by simpa using hj)

theorem Rel.extTab {h₀ h h' : Heap} {L T : Addr} {loc : Loc} {own : Own} (r : Rel h₀ L loc own h) (ht : HasO T .tab own) (x : Heap.ExtBut T h h') (o : OR h' T .tab) : Rel h₀ L loc own h' ∧ Pers h h' := by
  obtain ⟨own', u⟩ := ht.upd .tab
  cases u.same
  have hp : Pers h h' := fun a vs n _ e => x a _ (fun z => by
    subst z
    obtain ⟨ps, q, q'⟩ := r.ow.at_ _ u.mem
    rw [q] at e; simp at e) e
  refine ⟨⟨⟨fun b ob e => x b ob (fun z => by subst z; have := r.ow.off _ u.mem; rw [e] at this; cases this) (r.ow.keep b ob e), fun p hp' => ?_, r.ow.off, r.ow.nd⟩, ⟨?_, r.lc.fresh, r.lc.off, r.lc.nd⟩⟩, hp⟩
  · rcases u.of_mem r.ow.nd p hp' with rfl | ⟨q, e⟩
    · exact o
    · obtain ⟨ob, z, _⟩ := (r.ow.at_ p q).some
      exact (r.ow.at_ p q).mono hp ((x _ _ e z).trans z.symm)
  · obtain ⟨m, ⟨ob, es, ep, q, z⟩, k⟩ := r.lc.ns
    exact ⟨m, ⟨ob, es, ep, x _ _ (fun e => r.lc.off _ u.mem e.symm) q, z⟩, fun y d hy => by obtain ⟨v, a, b⟩ := k y d hy; exact ⟨v, a, b.mono hp⟩⟩
theorem passing_all (n : Nat) : passing (fun _ => true) n 0 = List.range n := by
  unfold passing; simp

theorem WalksS.weak {prog : Program} {w : World} {A : Around} {I : Addr} {fp wr : List Addr} {G : Array GenState → Array GenState → Prop} {n n' : Nat} {P P' : Nat → Value → Prop} {St : Nat → Shared → Prop} (W : WalksS prog w A I fp wr G n P St) (hn : n = n') (hp : ∀ j v, P j v → P' j v) :
    WalksS prog w A I fp wr G n' P' St where
  sub := W.sub
  grefl := W.grefl
  gtrans := W.gtrans
  frame := W.frame
  item := fun j s Q E hj st k => W.item j s Q E (hn ▸ hj) st fun v s' p st' m => k v s' (hp _ _ p) st' m
  done := fun s Q E st k => W.done s Q E (hn ▸ st) k
  self := W.self

theorem gen_pairs {elt iter : PySem.Expr} {xa xb : Str} {pa pb pt pos : Pos} {kt : Nat} {scope : Scope} {c T x C d : Addr} {ps : List (Dv × Dv)} {F : Nat → Value → Prop} {R : Value → Shared → Prop} {h₀ : Heap} {s : Shared}
    (O : GenOk Γ scope iter xa xb c T) (H : AccK Γ.K C) (hroom : Γ.A.depth < recursionLimit) (g : Gd Γ.K h₀) (rel : Rel h₀ Γ.env.locals loc own s.heap)
    (hi : Ev Γ loc own iter fun e loc' own' => e = .raw (.ref x) ∧ loc' = loc ∧ own' = own) (ha : HasO x (.acc C d (ps.map fun p => .tup [p.1, p.2])) own) (ht : HasO T .tab own)
    (he : ∀ (cenv : Env) (A' : Around) E' i p va vb (s₂ : Shared) m₂, cenv.scope = scope → cenv.globals = mainGlobals → cenv.builtins = builtinsNs → A'.handled = none → A'.depth ≤ Γ.A.depth + 1 → A'.units ≤ Γ.A.units + 8 → ps[i]? = some p → VR s₂.heap va p.1 → VR s₂.heap vb p.2 →
      s₂.heap.Ns cenv.locals m₂ → m₂ xa = some va → m₂ xb = some vb → Gd Γ.K s₂.heap → wpAny (model Γ.prog Γ.w) A' (eval elt cenv) (fun y s₃ => F i y ∧ Keeps s₂ s₃) E' s₂)
    (k : ∀ a (s₅ : Shared) fp wr G St, Stays s s₅ → ((∀ x y, G x y → AllBare x → AllBare y) ∧ (∀ i s', St i s' → s'.TypeIs (.ref a) "generator") ∧ a ∈ fp) → Rel h₀ Γ.env.locals loc own s₅.heap → (∀ h', ExtOff wr s₅.heap h' → Pers s.heap h' ∧ Rel h₀ Γ.env.locals loc own h') → (∀ b ∈ fp, b < s₅.heap.objs.size) →
      WalksS Γ.prog Γ.w Γ.A.in4 a fp wr G ps.length F St → St 0 s₅ → R (.ref a) s₅) :
    wpAny (model Γ.prog Γ.w) Γ.A (eval (.GeneratorExp elt [⟨.Tuple [.Name xa pa, .Name xb pb] kt pt, iter, [], 0⟩] scope pos) Γ.env) R Γ.E s := by
  refine wpAny_GeneratorExp_walksQTD Γ.hh O.co O.clos O.cell O.h0 O.ha O.hb O.ab O.kind hroom (hi.use g rel fun e loc own s1 v p1 r1 v1 ⟨e1, e2, e3⟩ => ?_) O.fold
  subst e1 e2 e3
  cases v1
  refine Classical.byContradiction fun hN => ?_
  obtain ⟨vs, n, ho, hv⟩ := r1.ow.at_ _ ha.mem
  obtain ⟨Ts, vals, a1, a2, a3, a4, _⟩ := pairs_at hv
  obtain ⟨psT, hTg, hTr⟩ := r1.ow.at_ _ ht.mem
  obtain ⟨mg, bm, ob, M⟩ := g.bmd
  refine hN ?_
  clear hN
  refine acc_iter H (g.kin.keeps r1.ow.keep) ho ?_
  obtain ⟨h1, gs1, dr1, tk1, os1⟩ := s1
  dsimp only at p1 r1 ho hv hTg hTr a2 a4 ⊢
  have ex2 : Ext h1 (h1.push { cls := .type "list_iterator", data := .fields #[.ref x, .int 0 0] }) := Ext.push _
  have hI : (h1.push { cls := .type "list_iterator", data := .fields #[.ref x, .int 0 0] }).get? h1.objs.size = some { cls := .type "list_iterator", data := .fields #[.ref x, .int 0 0] } := Heap.get?_push_size _ rfl
  generalize h1.push { cls := .type "list_iterator", data := .fields #[.ref x, .int 0 0] } = h2 at ex2 hI
  have r2 := r1.ext ex2
  have X2 : Γ.K.In h2 := g.kin.keeps r2.ow.keep
  have hIn : h1.get? h1.objs.size = none := get_size_none _
  refine ⟨O.lim _ X2, ?_⟩
  replace hTg := ex2 _ _ hTg
  refine gen_code O.code X2 O.tab (r2.ow.at_ _ ht.mem) fun code h3 tk3 hx3 orT => ?_
  obtain ⟨r3, p3⟩ := r2.extTab ht hx3 orT
  have X3 : Γ.K.In h3 := g.kin.keeps r3.ow.keep
  have g3 : Gd Γ.K h3 := g.ext r3.ow.keep
  replace M := M.keeps r3.ow.keep
  refine wpAny_builtinsFor (globals := Γ.env.globals) (Γ.hg ▸ M.ns) M.name M.ne M.obj M.cls M.dict M.data ?_
  have IneT : h1.objs.size ≠ T := fun z => by
    obtain ⟨ob', q, _⟩ := (r1.ow.at_ _ ht.mem).some
    rw [show ((T, AObj.tab) : Addr × AObj).1 = T from rfl, ← z, hIn] at q; cases q
  have xneT : x ≠ T := fun z => by
    have q := ex2 _ _ ho
    rw [z, hTg] at q; simp at q
  have TneT : ∀ j, j < vs.length → Ts j ≠ T := fun j hj z => by
    obtain ⟨o', q, q2, n', q3⟩ := a2 j hj
    rw [z] at q
    rw [ex2 _ _ q] at hTg; cases hTg; cases q3
  have hI3 := hx3 _ _ IneT hI
  have hx3' := hx3 _ _ xneT (ex2 _ _ ho)
  have xneI : x ≠ h1.objs.size := Nat.ne_of_lt (Heap.lt_size ho)
  have TneI : ∀ j, j < vs.length → Ts j ≠ h1.objs.size := fun j hj => by
    obtain ⟨o', q, _⟩ := a2 j hj
    exact Nat.ne_of_lt (Heap.lt_size q)
  have tup3 : ∀ j, j < vs.length → h3.IsTuple (Ts j) (vals j) := fun j hj => by
    obtain ⟨o', q, q2⟩ := a2 j hj
    exact ⟨o', hx3 _ _ (TneT j hj) (ex2 _ _ q), q2⟩
  have hlen : vs.length = ps.length := by rw [hv.length, List.length_map]
  have hl1 := O.lim _ (g.kin.keeps r1.ow.keep)
  have hcs : cStatics ≠ h1.objs.size := by obtain ⟨m, hn, _⟩ := hl1; exact Nat.ne_of_lt hn.lt
  refine ⟨h1.objs.size, _, _, vs.length, _, _, _, fun _ => true, F, rfl, fun A' hA => walks_pairs hA h1.objs.size x xneI (accObj C d vs n) n vs rfl Ts vals a1 TneI, fun i v z => ?_, ⟨⟨_, hI3, rfl, rfl⟩, hx3', tup3⟩, ?_, O.lim _ X3, by simpa using hcs, fun href hh => ?_, fun a h5 tk gs hb hlt hsz hk5 W hat => ?_⟩
  · obtain ⟨va, vb, e⟩ := a3 i; exact ⟨va, vb, z.2.trans e⟩
  · intro b hb
    rcases List.mem_cons.mp hb with rfl | hb
    · exact Heap.lt_size hI3
    · rcases List.mem_cons.mp hb with rfl | hb
      · exact Heap.lt_size hx3'
      · obtain ⟨j, hj, rfl⟩ := List.mem_map.mp hb
        obtain ⟨o', q, _⟩ := tup3 j (List.mem_range.mp hj)
        exact Heap.lt_size q
  · refine ⟨fun A' E' i va vb s₂ m₂ _ _ _ _ _ _ _ _ => wpAny_pure ⟨rfl, s₂.heap, s₂.toks, rfl, fun _ _ e => e⟩, fun A' E' i va vb s₂ m₂ hA hD hU hP _ hn hma hmb hkp => ?_⟩
    have hil : i < ps.length := hlen ▸ hP.1
    have hpi : ps[i]? = some ps[i] := List.getElem?_eq_getElem hil
    obtain ⟨va', vb', e, v1, v2⟩ := a4 i _ hpi
    have ev := hP.2.trans e
    have : va = va' ∧ vb = vb' := by
      have := congrArg Array.toList ev
      simpa using this
    obtain ⟨rfl, rfl⟩ := this
    have move : ∀ b o, h3.get? b = some o → b ≠ h1.objs.size → s₂.heap.get? b = some o := fun b o q nb => hkp b (List.mem_range.mpr (Heap.lt_size q)) (by simpa using nb) o (hh b o q)
    have hp12 : Pers h1 s₂.heap := fun b ws m nq q => move b _ (p3 b ws m nq (ex2 _ _ q)) (Nat.ne_of_lt (Heap.lt_size q))
    have ge : Ext h₀ s₂.heap := fun b o q => move b o (r3.ow.keep b o q) fun z => by
      rw [z, r1.ow.keep.none hIn] at q; cases q
    exact he _ A' E' i _ va vb s₂ m₂ rfl Γ.hg rfl hA hD hU hpi (v1.mono hp12) (v2.mono hp12) hn hma hmb (g.ext ge)
  · have pp3 : Pers s.heap h3 := p1.p.trans ((Ext.pers ex2).trans p3)
    have ap : Apart [h3.objs.size, h1.objs.size] h₀ Γ.env.locals own := by
      have n3 := get_size_none h3
      refine ⟨fun b hb => ?_, fun b hb z => ?_, fun b hb p hp z => ?_⟩ <;> (rcases List.mem_cons.mp hb with rfl | hb; rotate_left; rcases List.mem_cons.mp hb with rfl | hb; rotate_left; cases hb)
      · exact r3.ow.keep.none n3
      · exact r1.ow.keep.none hIn
      · obtain ⟨m, ⟨o, _, _, q, _⟩, _⟩ := r3.lc.ns
        rw [← z, n3] at q; cases q
      · obtain ⟨m, ⟨o, _, _, q, _⟩, _⟩ := r1.lc.ns
        rw [← z, hIn] at q; cases q
      · obtain ⟨o, q, _⟩ := (r3.ow.at_ p hp).some
        rw [z, n3] at q; cases q
      · obtain ⟨o, q, _⟩ := (r1.ow.at_ p hp).some
        rw [z, hIn] at q; cases q
    refine k a _ _ _ _ _ ⟨pp3.trans (Ext.pers hk5), p1.os, fun h0 => (p1.bare h0).push hb⟩ ⟨fun _ _ x y => y.moved x, fun _ _ st => st.1.typeIs, .head _⟩ (r3.ext hk5) (fun h' e => ?_) ?_ (WalksS.weak W ?_ fun j v ⟨i, q, hf⟩ => ?_) hat
    · have e3 : ExtOff [h3.objs.size, h1.objs.size] h3 h' := fun b o nb q => e b o nb (hk5 b o q)
      have p3' : Pers h3 h' := fun b ws m _ q => e3 b _ (fun hb => by
        rcases List.mem_cons.mp hb with rfl | hb
        · rw [get_size_none] at q; cases q
        · rcases List.mem_cons.mp hb with rfl | hb
          · rw [hI3] at q; simp at q
          · cases hb) q
      exact ⟨pp3.trans p3', r3.others e3 ap p3'⟩
    · intro b hb
      show b < h5.objs.size
      rw [hsz]
      rcases List.mem_cons.mp hb with rfl | hb
      · exact Nat.lt_succ_self _
      · rcases List.mem_cons.mp hb with rfl | hb
        · exact Nat.lt_succ_of_lt hlt
        · exact Nat.lt_succ_of_lt (Nat.lt_trans (List.mem_range.mp hb) hlt)
    · rw [passing_all, List.length_range, hlen]
    · rw [passing_all] at q
      obtain ⟨hj, rfl⟩ := List.getElem?_eq_some_iff.mp q
      simpa using hf
end
end Mine

end
section
open PySem PySem.W PySem.Builtin PySem.Builtin.ObjectAttr
open PyProof.Rows hiding wpAt wpAt_bind
set_option linter.unusedSectionVars false
set_option maxRecDepth 100000
set_option maxHeartbeats 1000000
set_option linter.unusedVariables false
namespace Mine
variable [aI : Membership Nat Unit]
section
variable {prog : Program} {w : World} {A : Around} {E : Value → Shared → Prop} {s : Shared} {K : Frag} {env : Env} {m : Str → Option Value}
theorem Keeps.refl {s : Shared} : Keeps s s := ⟨s.heap, s.toks, rfl, fun _ _ e => e⟩
theorem Keeps.toks {s s' : Shared} {n : Nat} (k : Keeps s s') : Keeps s { s' with toks := n } := by obtain ⟨h, t, e, q⟩ := k; exact ⟨h, n, by rw [e], q⟩
theorem low_len {x : Str} {p1 p2 p3 : Pos} {a : Str} {t : Tok} {R : Value → Shared → Prop} (hk : env.scope.kind = .function) (hl : env.kindOf "len" = some .globalImplicit) (hx : env.kindOf x = some .local) (hd : (x == ("__debug__" : Str)) = false) (hg : env.globals = mainGlobals) (hb : env.builtins = builtinsNs)
    (G : Gd K s.heap) (hn : nsIn K mainGlobals "len" = some none) (ns : s.heap.Ns env.locals m) (hm : m x = some (.str a t)) (ha : a.length ≤ 1000000) (k : ∀ t', R (.int a.length t') { s with toks := s.toks + 1 + 1 }) :
    wpAny (model prog w) A (eval (.Call (.Name "len" p1) [.Name x p2] [] p3) env) R E s := by
  obtain ⟨mg, g⟩ := G.glb
  obtain ⟨mb, B, BB⟩ := G.blt
  rw [arm_eval_Call_Name']
  refine wpAny_bind (Calls.Name_function_global hk hl (Calls.loadGlobal_builtin (v := .builtin "len") (hg ▸ g) (mg_none_of G.kin g hn) (hb ▸ B) ((BB _ (by decide +kernel)).trans (by kernel_rfl)) ?_) (by decide +kernel))
  refine PyProof.Rows.callWith_method1 ?_ rfl rfl
  refine wpAny_items_cons (wpAny_Name (wpAny_loadName_local hk hx ns hm (wpAny_items_nil ?_)) hd) rfl
  exact len_str (by omega) (k _)
theorem low_lens {x y : Str} {p1 p2 p3 p4 p5 p6 p7 : Pos} {a b : Str} {t u : Tok} (hk : env.scope.kind = .function) (hl : env.kindOf "len" = some .globalImplicit) (hx : env.kindOf x = some .local) (hd : (x == ("__debug__" : Str)) = false) (hy : env.kindOf y = some .local) (hd' : (y == ("__debug__" : Str)) = false)
    (hg : env.globals = mainGlobals) (hb : env.builtins = builtinsNs)
    (G : Gd K s.heap) (hn : nsIn K mainGlobals "len" = some none) (ns : s.heap.Ns env.locals m) (hm : m x = some (.str a t)) (hm' : m y = some (.str b u)) (ha : a.length ≤ 1000000) (hb' : b.length ≤ 1000000) :
    wpAny (model prog w) A (eval (.BinOp (.Call (.Name "len" p1) [.Name x p2] [] p3) .Add (.Call (.Name "len" p4) [.Name y p5] [] p6) p7) env) (fun v s' => (∃ t, v = .int (a.length + b.length) t) ∧ Keeps s s') E s := by
  refine wpAny_BinOp (low_len hk hl hx hd hg hb G hn ns hm ha fun t' => ?_)
  refine low_len hk hl hy hd' hg hb (s := { s with toks := s.toks + 1 + 1 }) G hn ns hm' hb' fun t'' => ?_
  exact PySem.P.add_int ⟨⟨_, rfl⟩, Keeps.toks (Keeps.toks (Keeps.toks Keeps.refl))⟩
end

section
variable {Γ : Fm} {loc : Loc} {own own' : Own} {Q : QV} {QQ : QF}
theorem sumLens (ps : List (Str × Str)) : preSum (fun i => match ps[i]? with | some p => (p.1.length + p.2.length : Int) | none => 0) ps.length = (ps.map fun p => (p.1.length + p.2.length : Int)).sum := by
  have e : ∀ n, n ≤ ps.length → preSum (fun i => match ps[i]? with | some p => (p.1.length + p.2.length : Int) | none => 0) n = ((ps.take n).map fun p => (p.1.length + p.2.length : Int)).sum := by
    intro n hn
    induction n with
    | zero => rfl
    | succ n ih =>
      rw [preSum, ih (by omega), List.take_add_one, List.map_append, List.sum_append]
      have hl : n < ps.length := by omega
      simp [List.getElem?_eq_getElem hl]
  rw [e _ (Nat.le_refl _), List.take_of_length_le (Nat.le_refl _)]

noncomputable def dpair (p : Str × Str) : Dv := .tup [.str p.1, .str p.2]
noncomputable def signs (ps : List (Str × Str)) : Int := (ps.map fun p => (p.1.length + p.2.length : Int)).sum
theorem ev_sum_lens {iter : PySem.Expr} {xa xb name : Str} {pa pb pt pos p1 p2 p3 p4 p5 p6 p7 ps1 pcall pat psf : Pos} {kt : Nat} {scope : Scope} {c T x C d : Addr} {cd : ClassData} {ps : List (Str × Str)} {l : List (Str × Dv)} {n : Int}
    (O : GenOk Γ scope iter xa xb c T) (H : AccK Γ.K C) (S : StoreK Γ.K C cd) (hroom : Γ.A.depth < recursionLimit)
    (hi : Ev Γ loc own iter fun e loc' own' => e = .raw (.ref x) ∧ loc' = loc ∧ own' = own) (ha : HasO x (.acc C d (ps.map dpair)) own) (hd : HasO d (.idict l) own) (ht : HasO T .tab own)
    (hlen : scope.names.lookup ("len" : Str) = some .globalImplicit) (hsum : Γ.env.kindOf "sum" = some .globalImplicit) (nlen : nsIn Γ.K mainGlobals "len" = some none) (nsum : nsIn Γ.K mainGlobals "sum" = some none)
    (hda : (xa == ("__debug__" : Str)) = false) (hdb : (xb == ("__debug__" : Str)) = false) (hps : ∀ p ∈ ps, p.1.length ≤ 1000000 ∧ p.2.length ≤ 1000000)
    (hself : Γ.env.kindOf "self" = some .local) (hsv : Has "self" (.raw (.ref x)) loc) (hbase : ∀ p, attributeBase (.Name "self" p) name Γ.env (eval (.Name "self" p) Γ.env) = eval (.Name "self" p) Γ.env) (hcp : copiedNames.contains name = false)
    (hf : findIn Γ.K (.ref C) name = some none) (hl : l.lookup name = some (.int n))
    (q : Q (.int (n + signs ps)) loc own) :
    Ev Γ loc own (.Call (.Name "sum" ps1) [.GeneratorExp (.BinOp (.Call (.Name "len" p1) [.Name xa p2] [] p3) .Add (.Call (.Name "len" p4) [.Name xb p5] [] p6) p7) [⟨.Tuple [.Name xa pa, .Name xb pb] kt pt, iter, [], 0⟩] scope pos, .Attribute (.Name "self" psf) name pat] [] pcall) Q := by
  intro h₀ s g rel
  obtain ⟨mg, G⟩ := g.glb
  obtain ⟨mb, B, BB⟩ := g.blt
  rw [arm_eval_Call_Name']
  refine wpAny_bind (Calls.Name_function_global Γ.hk hsum (Calls.loadGlobal_builtin (v := .builtin "sum") (Γ.hg ▸ G.keeps rel.ow.keep) (mg_none_of g.kin G nsum) (Γ.hb ▸ B.keeps rel.ow.keep) ((BB _ (by decide +kernel)).trans (by kernel_rfl)) ?_) (by decide +kernel))
  refine PyProof.Rows.callWith_method1 ?_ rfl rfl
  refine wpAny_items_cons ?_ rfl
  refine gen_pairs (ps := ps.map fun p => (.str p.1, .str p.2)) (F := fun i v => ∃ t, v = .int (match ps[i]? with | some p => (p.1.length + p.2.length : Int) | none => 0) t) O H hroom g rel hi (by rw [List.map_map]; exact ha) ht ?_ ?_
  · intro cenv A' E' i p va vb s₂ m₂ hsc hg' hb' hA hD hU hp v1 v2 ns ma mb' G2
    rw [List.getElem?_map] at hp
    obtain ⟨p0, hp0, rfl⟩ := Option.map_eq_some_iff.mp hp
    cases v1; cases v2
    have hm := hps _ (List.mem_of_getElem? hp0)
    have hk' : cenv.scope.kind = .function := by rw [hsc]; exact O.kind
    refine wpAny_mono (low_lens hk' (by show cenv.scope.names.lookup _ = _; rw [hsc]; exact hlen) (by show cenv.scope.names.lookup _ = _; rw [hsc]; exact O.ha) hda (by show cenv.scope.names.lookup _ = _; rw [hsc]; exact O.hb) hdb hg' hb' G2 nlen ns ma mb' hm.1 hm.2) (fun v s' ⟨⟨t, e⟩, kk⟩ => ⟨⟨t, ?_⟩, kk⟩) fun _ _ z => z
    rw [e, hp0]
  · intro a s₅ fp wr Gn St pp gb r5 back hfp W st
    refine wpAny_items_cons ?_ rfl
    rw [arm_eval_Attribute, hbase]
    obtain ⟨m, ns, hm⟩ := r5.lc.ns
    obtain ⟨v, mv, vr⟩ := hm _ _ hsv.mem
    cases vr
    obtain ⟨vs, k, ho, rr⟩ := r5.ow.at_ _ ha.mem
    refine wpAny_bind (wpAny_Name (wpAny_loadName_local Γ.hk hself ns mv ?_) (by decide +kernel))
    refine wpAny_bind (wpAny_standAt (wpAny_bind (wpAny_holding (getattr_acc H S (g.kin.keeps r5.ow.keep) ho (r5.ow.at_ _ hd.mem) hf hl hcp (fun v hv vr => ?_) fun v vr => handed_plain rfl vr))))
    refine wpAny_bind (wpAny_letTemporaryGo (wpAny_pure (wpAny_items_nil ?_)))
    cases vr
    refine call_sum2 (W.of_in1.of_in1.of_in1.self 0 _ _ _ (W.frame 0 s₅ s₅.heap _ st (Nat.le_succ _) fun _ _ _ e => e) ?_)
    refine ⟨a, fp, wr, Gn, _, _, St, _, rfl, W.of_in1.of_in1.of_in1, W.frame 0 s₅ s₅.heap _ st (Nat.le_succ _) (fun _ _ _ e => e), hfp, fun i v z => z, fun s' t' mv => ?_⟩
    obtain ⟨p', r'⟩ := back s'.heap fun b o nb e => mv.heap b o nb e
    refine ⟨_, _, _, ⟨p', mv.os.trans pp.os, fun h0 => gb.1 _ _ mv.gens (pp.bare h0)⟩, r', ?_, q⟩
    rw [List.length_map, sumLens]
    exact .int _ _
end
end Mine

end
section
open PySem PySem.W PySem.Builtin PySem.Builtin.ObjectAttr
open PyProof.Rows hiding wpAt wpAt_bind
set_option linter.unusedSectionVars false
set_option maxRecDepth 100000
set_option maxHeartbeats 1000000
set_option linter.unusedVariables false
namespace Mine
variable [aI : Membership Nat Unit]
noncomputable abbrev Fm.in1 (Γ : Fm) : Fm := { Γ with A := Γ.A.in1, U := Γ.U + 1, hh := Γ.hh, hD := Γ.hD, hU := Nat.succ_le_succ Γ.hU }
section
variable {Γ : Fm} {loc : Loc} {own own' : Own} {Q : QV} {QQ : QF}
theorem op_len_acc {x C d f : Addr} {ds : List Dv} (ha : HasO x (.acc C d ds) own) (hs : findIn Γ.K (.ref C) "__len__" = some (some (.ref f))) (hf : typeIn Γ.K (.ref f) = some (.type "function"))
    (c : CallT Γ.prog Γ.w Γ.K Γ.A.in1 own (.ref f) [.raw (.ref x)] fun r own' => ∃ n : Int, r = .int n ∧ 0 ≤ n ∧ n < 2 ^ 63 ∧ Q (.int n) loc own') : OpN Γ loc own [.raw (.ref x)] (fun vs => call (.builtin "len") vs) Q := by
  intro h₀ s vs g rel vr
  cases vr with
  | cons a b =>
    cases b; cases a
    obtain ⟨ws, k, ho, rr⟩ := rel.ow.at_ _ ha.mem
    have X := g.kin.keeps rel.ow.keep
    have T : Looks (model Γ.prog Γ.w) s.heap (typeOf (.ref x)) (.ref C) := (Looks.ld ho).andThen .now
    refine Calls.call_function_entry kind_len plain_len entry_len (args_len1 _) ?_
    unfold Builtin.«len»
    refine wpAny_bind (m := oneArg "len" _) (wpAny_pure ?_)
    refine wpAny_bind (m := callSpecial? (.ref x) (Str.ofString "__len__")) ?_
    unfold callSpecial? specialOf
    refine wpAny_bind (wpAny_bind (T.here ((looks_findIn X hs).here (wpAny_holding (wpAny_bind ((bind_fn X _ hf).here (wpAny_bind ?_)))))))
    refine (c.use (Γ := Γ.in1) (loc := loc) g rel (.cons (.raw _) .nil) fun r own' s' v p r' v' ⟨n, e, h0, h1, q⟩ => ?_)
    subst e
    cases v'
    refine wpAny_pure ?_
    refine wpAny_bind (wpAny_holding (wpAny_pure ?_))
    refine wpAny_bind (wpAny_letGo ?_)
    show wpAny _ _ (if n < 0 then _ else _) _ _ _
    rw [if_neg (by omega)]
    show wpAny _ _ (if n ≥ 2 ^ 63 then _ else _) _ _ _
    rw [if_neg (by omega)]
    exact wpAny_bind (wpAny_mkInt (wpAny_pure ⟨_, rfl, _, _, _, p.trans (Pers.st .refl), r', .int _ _, q⟩))
end
end Mine

end
section
open PySem PySem.W PySem.Builtin PySem.Builtin.ObjectAttr
open PyProof.Rows hiding wpAt wpAt_bind
set_option linter.unusedSectionVars false
set_option maxRecDepth 100000
set_option maxHeartbeats 1000000
set_option linter.unusedVariables false
namespace Mine
variable [aI : Membership Nat Unit]
theorem boot_len : bootBuiltins "len" = some (.builtin "len") := by kernel_rfl
theorem boot_sum : bootBuiltins "sum" = some (.builtin "sum") := by kernel_rfl
section
variable {Γ : Fm} {loc : Loc} {own own' : Own} {Q : QV} {QQ : QF}
end
end Mine

end
section
open PySem PySem.W PySem.Builtin PySem.Builtin.ObjectAttr
open PyProof.Rows hiding wpAt wpAt_bind
set_option linter.unusedSectionVars false
set_option maxRecDepth 100000
set_option maxHeartbeats 1000000
set_option linter.unusedVariables false
namespace Mine
variable [aI : Membership Nat Unit]
theorem Rel.both {h₀ h : Heap} {L : Addr} {loc loc' : Loc} {own own' : Own} (x : Rel h₀ L loc own h) (a : loc'.Sublist loc) (b : own'.Sublist own) : Rel h₀ L loc' own' h :=
  ⟨x.ow.sub b, ⟨let ⟨m, n, k⟩ := x.lc.ns; ⟨m, n, fun y d hy => k y d (a.subset hy)⟩, x.lc.fresh, fun p hp => x.lc.off p (b.subset hp), (a.map _).nodup x.lc.nd⟩⟩
section
variable {Γ : Fm} {loc loc1 : Loc} {own own1 : Own} {Q : QV} {QQ : QF}
theorem HasO.of_mem {a : Addr} {o : AObj} : ∀ {own : Own}, (a, o) ∈ own → HasO a o own
  | _ :: _, .head _ => .here
  | _ :: _, .tail _ m => .there (of_mem m)
end
theorem lk_append : typeLookup (.type "list") "append" = pure (some (.builtin "list.append")) := by rw [typeLookup_type, builtinLookup_eq_fast]; kernel_rfl
theorem ty_append : typeOf (.builtin "list.append") = pure (.type "method_descriptor") := by show builtinType _ = _; rw [builtinType_eq_fast]; kernel_rfl
end Mine

end
section
open PySem PySem.W PySem.Builtin PySem.Builtin.ObjectAttr
open PyProof.Rows hiding wpAt wpAt_bind
set_option linter.unusedSectionVars false
set_option maxRecDepth 100000
set_option maxHeartbeats 1000000
set_option linter.unusedVariables false
set_option linter.unusedSimpArgs false
namespace Mine
variable [aI : Membership Nat Unit]
theorem lookIn_none {h : Heap} {es : List DictEntry} {l : List (Str × Dv)} (x : Ents h es l) (n : Str) (hl : l.lookup n = none) (c : Value) (k : Nat) : lookIn n { cls := c, data := .dict es.toArray k } = some none := by
  have := x.find n
  rw [hl] at this
  unfold nsFind findBy at this
  unfold lookIn
  simp only [List.find?_toArray] at this
  dsimp only
  have nr : (es.any fun x => x.refKey) = false := by
    clear this hl
    induction x with
    | nil => rfl
    | cons _ _ ih => rw [List.any_cons]; show (false || _) = false; rw [Bool.false_or]; exact ih
  cases q : es.find? (fun e => e.key.isStr n) with
  | none => dsimp only; rw [nr]; rfl
  | some en => rw [q] at this; cases this
section
variable {prog : Program} {w : World} {A : Around} {E : Value → Shared → Prop} {K : Frag} {C d a : Addr} {cd : ClassData}
theorem getattr_bound {s : Shared} {name : Str} {f : Addr} {vs : List Value} {n : Nat} {l : List (Str × Dv)} {R : Value → Shared → Prop} {expr : Bool} (H : AccK K C) (S : StoreK K C cd) (X : K.In s.heap) (hx : s.heap.get? a = some (accObj C d vs n)) (hd : OR s.heap d (.idict l))
    (ht : findIn K (.ref C) name = some (some (.ref f))) (hty : typeIn K (.ref f) = some (.type "function")) (hg : specialIn K (.ref f) "__get__" = some (some (.builtin "function.__get__"))) (htk : takesIn K (.ref f) = some false) (hl : l.lookup name = none) (hcp : copiedNames.contains name = false)
    (k : R (.ref s.heap.objs.size) { s with heap := s.heap.push (methodObj (.ref f) (.ref a)), toks := s.toks + 1 }) : wpAny (model prog w) A (getAttr (.ref a) name expr) R E s := by
  obtain ⟨hh, gg, dd, tt, oo⟩ := s
  dsimp only at X hx hd k
  have T : Looks (model prog w) hh (typeOf (.ref a)) (.ref C) := (Looks.ld hx).andThen .now
  obtain ⟨es, m, D, en⟩ := hd
  have hv := lookIn_none en name hl (.type "dict") m
  have I : InstAt hh a (accObj C d vs n) C (some { cls := .type "dict", data := .dict es.toArray m }) := ⟨hx, rfl, rfl, D⟩
  have hf : findObj K C (some { cls := .type "dict", data := .dict es.toArray m }) name = some (.bind (.builtin "function.__get__") (.ref f)) := by
    unfold findObj
    rw [S.cls, Option.bind_some, ht, Option.bind_some]
    simp only [hg, htk, Option.bind_some]
    unfold W.ownOf
    rw [S.dict]
    simp only [if_true, hv, Option.bind_some, hcp, Bool.false_and, Bool.false_eq_true, if_false]
  have L1 := looks_find (M := model prog w) X I hf
  unfold getAttr getAttrBy
  refine wpAny_bind (wpAny_mkText (wpAny_holding (wpAny_bind (T.at (wpAny_bind ((looks_findIn X H.ga).at ?_))))))
  show wpAny _ _ (getAttrByItsOwn (.ref a) (.str name tt) (.ref C) (.builtin "list.__getattribute__") true expr) _ _ _
  unfold getAttrByItsOwn hookBefore callGetattribute boundAndCalled
  refine wpAny_bind ((looks_findIn X H.gt).at ?_)
  refine wpAny_bind (wpAny_attempt (wpAny_holding ?_))
  have hcond : (expr && onTheHeap (.builtin "list.__getattribute__")) = false := by cases expr <;> rfl
  rw [hcond]
  simp only [Bool.false_eq_true, if_false]
  refine wpAny_bind (wpAny_of_eq (lga_slot.bind _) ?_)
  have hsub : Looks (model prog w) hh (isInstance (.ref a) (.type "list")) true := T.andThen (looks_mroIn X H.sub)
  refine wpAny_mono (Q := fun u s' => u = .ref hh.objs.size ∧ s' = ⟨hh.push (methodObj (.ref f) (.ref a)), gg, dd, tt + 1, oo⟩) (E := fun _ _ => False) ?_ (fun u s' hu => ?_) fun _ _ z => z.elim
  · refine wpAny_call ?_
    show codeAny _ _ (.call (.builtin "list.__getattribute__") ⟨[.ref a, .str name tt], []⟩) _ _
    refine codeAny_call_builtin lga_plain PySem.F.entry_list_ga ?_
    refine check_slot (i := "list.__getattribute__") (self := .ref a) (rest := [.str name tt]) (kw := []) lga_kind lga_split hsub (lga_args (.ref a) (.str name tt)) ?_
    unfold Builtin.«object.__getattribute__»
    repeat (first | (with_reducible refine Looks.at T ?_) | (with_reducible refine Looks.at L1 ?_) | wp_step)
    refine fn_get X hty ?_
    exact wpAny_pure ⟨rfl, rfl⟩
  · obtain ⟨rfl, rfl⟩ := hu
    show wpAny _ _ (handedOut _) _ _ _
    rw [handedOut_of rfl]; exact wpAny_pure k
end
section
variable {Γ : Fm} {loc : Loc} {own own' : Own} {Q : QV} {QQ : QF}
theorem CallT.useC {f : Value} {ds : List Dv} {Q : Dv → Own → Prop} (c : CallT Γ.prog Γ.w Γ.K Γ.A own f ds Q) {h₀ : Heap} {s : Shared} {vs : List Value} {R : Result → Shared → Prop} (g : Gd Γ.K h₀) (rel : Rel h₀ Γ.env.locals loc own s.heap) (vr : VRs s.heap vs ds)
    (k : ∀ d own' s' v, Stays s s' → Rel h₀ Γ.env.locals loc own' s'.heap → VR s'.heap v d → Q d own' → R (.ok (.ret v)) s') : codeAny (model Γ.prog Γ.w) Γ.A (.call f ⟨vs, []⟩) R s := by
  obtain ⟨rb, ex⟩ := rel.rebase
  have hL : ∃ oL, s.heap.get? Γ.env.locals = some oL := let ⟨_, ⟨oL, _, _, q, _⟩, _⟩ := rel.lc.ns; ⟨oL, q⟩
  obtain ⟨ok, ex'⟩ := rel.ow.hide
  refine codeAny_mono (c _ s vs (g.ext ex') ok vr) fun r s' ⟨v, d, own', e, p, o', vr', q⟩ => ?_
  subst e
  refine k d own' s' v p ⟨⟨fun b o e => o'.keep b o (ex' b o e), o'.at_, fun p hp => ex'.none (o'.off p hp), o'.nd⟩, ?_⟩ vr' q
  obtain ⟨m, ⟨oL, es, ep, hL, r⟩, n⟩ := rel.lc.ns
  have nL : Γ.env.locals ∉ own.map (·.1) := fun q => by
    obtain ⟨p, hp, e⟩ := List.mem_map.mp q
    exact rel.lc.off p hp e
  have hLg := hideAll_get (own.map (·.1)) hL nL
  refine ⟨⟨m, ⟨oL, es, ep, o'.keep _ _ hLg, r⟩, fun x d hx => ?_⟩, rel.lc.fresh, fun p hp e => ?_, rel.lc.nd⟩
  · obtain ⟨v, e, vr⟩ := n x d hx; exact ⟨v, e, vr.mono p.p⟩
  · have := o'.off p hp; rw [e, hLg] at this; cases this
inductive StarTo (Γ : Fm) (cd : ClassData) (name : Str) (R : Addr → Addr → Prop) (v : Dv) (own : Own) : Prop
  | mk (a C d : Addr) (ds : List Dv) (l : List (Str × Dv)) (f : Addr) : v = .raw (.ref a) → AccK Γ.K C → StoreK Γ.K C cd → HasO a (.acc C d ds) own → HasO d (.idict l) own → l.lookup name = none → findIn Γ.K (.ref C) name = some (some (.ref f)) → typeIn Γ.K (.ref f) = some (.type "function") →
      specialIn Γ.K (.ref f) "__get__" = some (some (.builtin "function.__get__")) → takesIn Γ.K (.ref f) = some false → (∃ c d fd sl, Γ.K.lookup f = some ⟨c, d, .func fd, sl⟩) → R a f → StarTo Γ cd name R v own
theorem ev_meth_star {o e : PySem.Expr} {name : Str} {apos pos p : Pos} {cd : ClassData}
    (hb : attributeBase o name Γ.env (eval o Γ.env) = eval o Γ.env) (hcp : copiedNames.contains name = false) (he : starEach [.Starred e p] Γ.env = [(true, eval e Γ.env)])
    (x : Ev Γ loc own o fun v loc own => StarTo Γ cd name (fun a f => Ev Γ loc own e fun d loc own => ∃ args, d = .tup args ∧ args.length ≤ 1000 ∧ CallT Γ.prog Γ.w Γ.K Γ.A own (.ref f) (.raw (.ref a) :: args) fun d own => Q d loc own) v own) :
    Ev Γ loc own (.Call (.Attribute o name apos) [.Starred e p] [] pos) Q := by
  intro h₀ s g rel
  rw [arm_eval_Call, hb]
  refine wpAny_bind (x.use g rel fun v loc own s1 vv p1 r1 v1 ⟨a, C, d, ds, l, f, hv, H, S, ha, hd, hn, hf, hty, hg, htk, ⟨fc, fo, fd, fsl, hK⟩, y⟩ => ?_)
  subst hv
  cases v1
  obtain ⟨vs, n, ho, r⟩ := r1.ow.at_ _ ha.mem
  refine wpAny_bind (wpAny_standAt ?_)
  have hcf : methodCallForm ([PySem.Expr.Starred e p].length + ([] : List Keyword).length) (backTo pos (starEach [.Starred e p] Γ.env)) (backToKw pos (keywordEach [] Γ.env)) = false := by rw [he]; rfl
  unfold methodCall
  rw [hcf]
  refine wpAny_bind (wpAny_holding ?_)
  show wpAny _ _ (getAttr (.ref a) name true >>= fun v => pure (v, [])) _ _ _
  refine wpAny_bind (getattr_bound H S (g.kin.keeps r1.ow.keep) ho (r1.ow.at_ _ hd.mem) hf hty hg htk hn hcp (wpAny_pure ?_))
  show wpAny _ _ (pure pos >>= fun q => callWith q (.ref s1.heap.objs.size) [] (backTo pos (starEach [.Starred e p] Γ.env)) []) _ _ _
  refine wpAny_bind (wpAny_pure ?_)
  have ex : Ext s1.heap (s1.heap.push (methodObj (.ref f) (.ref a))) := Ext.push _
  have hm : (s1.heap.push (methodObj (.ref f) (.ref a))).get? s1.heap.objs.size = some (methodObj (.ref f) (.ref a)) := Heap.get?_push_size _ rfl
  generalize s1.heap.push (methodObj (.ref f) (.ref a)) = h2 at ex hm
  have r2 := r1.ext ex
  obtain ⟨rb, exb⟩ := r2.rebase
  have hmb := hideAll_get (Γ.env.locals :: own.map (·.1)) hm fun q => by
    rcases List.mem_cons.mp q with z | q
    · obtain ⟨m, ⟨oL, _, _, hL, _⟩, _⟩ := r1.lc.ns
      rw [← z, get_size_none] at hL; cases hL
    · obtain ⟨p', hp', z⟩ := List.mem_map.mp q
      obtain ⟨ob, q', _⟩ := (r1.ow.at_ p' hp').some
      rw [z, get_size_none] at q'; cases q'
  rw [he]
  refine ks_call (P := fun h => h.get? s1.heap.objs.size = some (methodObj (.ref f) (.ref a)) ∧ Γ.K.In h) rfl (fun h ⟨q1, q2⟩ => ⟨.boundFrame, .inr (.inr rfl), ?_⟩) (ks_lone ?_)
  · unfold keeperOf
    refine (Looks.ld q1).andThen ?_
    exact (Looks.ld (q2 _ _ hK)).andThen .now
  · refine y.use (g.ext exb) (s := ⟨h2, s1.gens, s1.drawn, s1.toks + 1, s1.os⟩) rb fun dd loc own s3 v p3 r3 v3 ⟨args, e1, hl, c⟩ => ?_
    subst e1
    cases v3 with
    | @tup b ws m es nb hb' rv =>
      have hT' : s3.TypeIs (.ref b) "tuple" := ⟨_, hb', rfl⟩
      unfold StarOf notIterableAtAll
      refine wpAny_bind (wpAny_specialOf hT' PySem.F.slot_tuple_iter.lookup (wpAny_pure ⟨rfl, ?_⟩))
      refine wpAny_collect_seq b (.inr rfl) hb' rfl rfl (fun h' hk' => ?_) (by rw [List.size_toArray, rv.length]; unfold sizeLine; omega)
      have r4 := r3.ext hk'
      have hm4 := r4.ow.keep _ _ hmb
      refine ⟨⟨hm4, g.kin.keeps fun b o q => r4.ow.keep b o (exb b o q)⟩, ?_⟩
      refine wpAny_call (ks_codeAny_call_bound hm4 ?_)
      refine c.useC (s := { s3 with heap := h' }) (vs := .ref a :: ws) (g.ext exb) r4 (.cons (.raw _) (rv.mono (Ext.pers hk'))) fun d5 own5 s5 v5 p5 r5 v5' q5 => ?_
      exact ⟨_, _, _, ((p1.trans (Ext.pers ex).st).trans p3).trans (Stays.trans (b := { s3 with heap := h' }) (Ext.pers hk').st p5), r5.unbase exb, v5', q5⟩
end
end Mine

end
section
open PySem PySem.W PySem.Builtin PySem.Builtin.ObjectAttr
open PyProof.Rows hiding wpAt wpAt_bind
set_option linter.unusedSectionVars false
set_option maxRecDepth 100000
set_option maxHeartbeats 1000000
set_option linter.unusedVariables false
namespace Mine
variable [aI : Membership Nat Unit]
section
variable {Γ : Fm} {loc : Loc} {own own' : Own} {Q : QV} {QQ : QF}
theorem comp_pure {α : Type} {scope : Scope} {cl : List (Str × Addr)} {hk : scope.kind = .function} {tg elt : PySem.Expr} {ifs : List PySem.Expr} {H : Own → Prop} {Q : List Dv → Own → Prop} {xs : List α} {enc : α → Dv} (f : α → Option Dv) (hH : H own) (hl : xs.length ≤ 100000)
    (step : ∀ C acc x res, x ∈ xs → ∀ [Membership Nat Unit], As (compFm Γ scope cl C hk) [] ((acc, .list res) :: own) tg (enc x) fun loc own' => Elt (compFm Γ scope cl C hk) loc own' ifs elt fun o loc own' => o = f x ∧ ((acc, .list res) :: own).Sublist own')
    (fin : Q (xs.filterMap f) own) : Comp Γ scope cl hk tg elt ifs (xs.map enc) H own Q := by
  refine ⟨fun k own' res => own' = own ∧ res = (xs.take k).filterMap f, ⟨rfl, rfl⟩, ?_, ?_, ?_, ?_⟩
  · rintro k own' res ⟨rfl, _⟩; exact hH
  · rintro k own' res ⟨_, rfl⟩
    have := List.length_filterMap_le f (xs.take k)
    have := List.length_take_le k xs
    have : (xs.take k).length ≤ xs.length := by rw [List.length_take]; omega
    omega
  · rintro C acc k d own' res hd ⟨rfl, rfl⟩
    rw [List.getElem?_map] at hd
    cases hx : xs[k]? with
    | none => rw [hx] at hd; cases hd
    | some x =>
      rw [hx] at hd
      cases hd
      have ht : xs.take (k + 1) = xs.take k ++ [x] := by rw [List.take_add_one, hx]; rfl
      intro I h₀ s v g rel vr
      refine wpAny_mono (step C acc x ((xs.take k).filterMap f) (List.mem_of_getElem? hx) h₀ s v g rel vr) (fun _ s' ⟨loc, own, p, r, q⟩ => ⟨loc, own, p, r, ?_⟩) fun _ _ z => z
      have key : ∀ (o : Option Dv) (loc : Loc) (own2 : Own), (o = f x ∧ ((acc, .list ((xs.take k).filterMap f)) :: own').Sublist own2) → ∃ own3, ((acc, .list ((xs.take k).filterMap f)) :: own3).Sublist own2 ∧ match o with
          | some v => own3 = own' ∧ (xs.take k).filterMap f ++ [v] = (xs.take (k + 1)).filterMap f
          | none => own3 = own' ∧ (xs.take k).filterMap f = (xs.take (k + 1)).filterMap f := by
        rintro o loc own2 ⟨rfl, sb⟩
        refine ⟨_, sb, ?_⟩
        rw [ht, List.filterMap_append]
        cases hf : f x with
        | none => simp [hf]
        | some y => simp [hf]
      unfold Elt at q ⊢
      split at q
      · exact fun h₁ s1 g1 r1 => wpAny_mono (q h₁ s1 g1 r1) (fun v s2 ⟨d, l, o, a, b, c, e⟩ => ⟨d, l, o, a, b, c, key _ l _ e⟩) fun _ _ z => z
      · refine fun h₁ s1 g1 r1 => wpAny_mono (q h₁ s1 g1 r1) (fun v s2 ⟨l, o, a, b, c⟩ => ⟨l, o, a, b, ?_⟩) fun _ _ z => z
        cases v
        · simp only [Bool.false_eq_true, if_false] at c ⊢; exact key _ l _ c
        · simp only [if_true] at c ⊢
          exact fun h₁ s1 g1 r1 => wpAny_mono (c h₁ s1 g1 r1) (fun v s2 ⟨d, l, o, a, b, c, e⟩ => ⟨d, l, o, a, b, c, key _ l _ e⟩) fun _ _ z => z
      · exact q.elim
  · rintro own' res ⟨rfl, rfl⟩
    rw [List.take_of_length_le (by simp)]
    exact fin
end
noncomputable def pickO (is : List Nat) (own : Own) : Own := is.filterMap (own[·]?)
theorem pickO_mem {is : List Nat} {own : Own} {p : Addr × AObj} (h : p ∈ pickO is own) : p ∈ own := by
  obtain ⟨i, _, e⟩ := List.mem_filterMap.mp h
  exact List.mem_of_getElem? e
theorem pickO_nd {is : List Nat} {own : Own} (hi : is.Nodup) (nd : (own.map (·.1)).Nodup) : ((pickO is own).map (·.1)).Nodup := by
  unfold pickO
  rw [List.Nodup, List.pairwise_map, List.pairwise_filterMap]
  refine List.Pairwise.imp (R := fun a b => a ≠ b) (fun {i j} ne a ha b hb e => ne ?_) hi
  have h1 : (own.map (·.1))[i]? = some a.1 := by rw [List.getElem?_map, ha]; rfl
  have h2 : (own.map (·.1))[j]? = some a.1 := by rw [List.getElem?_map, hb, e]; rfl
  obtain ⟨q1, r1⟩ := List.getElem?_eq_some_iff.mp h1
  obtain ⟨q2, r2⟩ := List.getElem?_eq_some_iff.mp h2
  have pw := List.pairwise_iff_getElem.mp nd
  rcases Nat.lt_trichotomy i j with z | z | z
  · exact absurd (r1.trans r2.symm) (pw i j q1 q2 z)
  · exact z
  · exact absurd (r2.trans r1.symm) (pw j i q2 q1 z)
theorem OwnOk.pick {h₀ h : Heap} {own : Own} (x : OwnOk h₀ own h) {is : List Nat} (hi : is.Nodup) : OwnOk h₀ (pickO is own) h :=
  ⟨x.keep, fun p hp => x.at_ p (pickO_mem hp), fun p hp => x.off p (pickO_mem hp), pickO_nd hi x.nd⟩
theorem Rel.pick {h₀ h : Heap} {L : Addr} {loc loc1 : Loc} {own : Own} (x : Rel h₀ L loc own h) {is : List Nat} (hi : is.Nodup) (a : loc1.Sublist loc) : Rel h₀ L loc1 (pickO is own) h :=
  ⟨x.ow.pick hi, ⟨let ⟨m, n, k⟩ := x.lc.ns; ⟨m, n, fun y d hy => k y d (a.subset hy)⟩, x.lc.fresh, fun p hp => x.lc.off p (pickO_mem hp), (a.map _).nodup x.lc.nd⟩⟩
section
variable {Γ : Fm} {loc loc1 : Loc} {own own1 : Own} {Q : QV} {QQ : QF}
end
end Mine

end
section
open PySem PySem.W PySem.Builtin PySem.Builtin.ObjectAttr
open PyProof.Rows hiding wpAt wpAt_bind
set_option linter.unusedSectionVars false
set_option maxRecDepth 100000
set_option maxHeartbeats 1000000
set_option linter.unusedVariables false
namespace Mine
variable [aI : Membership Nat Unit]
section
variable {Γ : Fm} {loc : Loc} {own own' : Own} {Q : QV} {QQ : QF}
theorem fix_at {a : Addr} {o : Obj} {ds : List Dv} {h₀ : Heap} {L : Addr} {h : Heap} (ha : HasO a (.fix o ds) own) (rel : Rel h₀ L loc own h) : ∃ vs : List Value, h.IsList a vs.toArray ∧ VRs h vs ds ∧ vs.length = ds.length := by
  obtain ⟨e, c, vs, k, d, r⟩ := rel.ow.at_ _ ha.mem
  exact ⟨vs, ⟨_, e, c, _, d⟩, r, r.length⟩
theorem sub_fix_slice {value slice : PySem.Expr} {a sl : Addr} {o : Obj} {ds : List Dv} {l u t : Dv} {lo hi st : Option Int} (ha : HasO a (.fix o ds) own) (hs : HasO sl (.slc l u t) own) (pl : PartD l lo) (pu : PartD u hi) (pt : PartD t st) (h0 : st ≠ some 0) (hl : ds.length ≤ 1000000)
    (q : ∀ b, Q (.raw (.ref b)) loc ((b, .list (pickL ds lo hi st)) :: own)) : Sub Γ loc own value slice (.raw (.ref a)) (.raw (.ref sl)) Q := by
  intro h₀ s v w g rel x y
  cases x; cases y
  obtain ⟨vs, il, r, e⟩ := fix_at ha rel
  obtain ⟨vl, vu, vt, os, r1, r2, r3⟩ := rel.ow.at_ _ hs.mem
  obtain ⟨ws, hw, rw'⟩ := pick_slice r lo hi st
  obtain ⟨ops, ho⟩ := subscripted_any slice (.ref a) (.ref sl)
  refine tail_any il.typeIs slot_list_getitem.lookup (wpAny_getItem_list_slice il ⟨_, os, rfl, rfl⟩ (pl.is r1) (pu.is r2) (pt.is r3) h0 ?_ (by rw [List.size_toArray]; unfold sizeLine; omega)) ho
  rw [hw]
  have ex : Ext s.heap (s.heap.push (lstObj ws 0)) := Ext.push _
  exact ⟨_, _, _, (Ext.pers ex).st, rel.more (o := .list (pickL ds lo hi st)) ex (get_size_none _) ⟨ws, 0, Heap.get?_push_size _ rfl, rw'.mono (Ext.pers ex)⟩, .raw _, q _⟩

end
theorem ints_vrs {h : Heap} {vs : List Value} {ns : List Int} (hi : IntsAre vs ns) : VRs h vs (ns.map .int) := by
  induction hi with
  | nil => exact .nil
  | cons i t _ ih => exact .cons (.int _ _) ih
theorem noList_of {K : Frag} (e : K.all (fun p => p.2.cls != .type "list") = true) : ∀ b o, K.lookup b = some o → o.cls ≠ .type "list" := fun b o h => by
  have := List.all_eq_true.mp e _ (lookup_mem h)
  simpa using this
end Mine

end
section
open PySem PySem.W PySem.Builtin PySem.Builtin.ObjectAttr
open PyProof.Rows hiding wpAt wpAt_bind
set_option linter.unusedSectionVars false
set_option maxRecDepth 100000
set_option maxHeartbeats 1000000
set_option linter.unusedVariables false
namespace Mine
variable [aI : Membership Nat Unit]
section
variable {Γ : Fm} {loc : Loc} {own own' : Own} {Q : QV} {QQ : QF}
theorem op_mul_str {x : Str} {n : Int} (h0 : n ≤ 1000) (hm : -1000 ≤ n) (hx : x.length ≤ 1000) (q : Q (.str (Txt.mul x n)) loc own) : Op2 Γ loc own (.str x) (.int n) (binaryOp .Mult) Q := by
  intro h₀ s v u g rel a b
  cases a; cases b
  refine SB.mul ⟨by simp; omega, fun h1 _ => ?_, fun h1 _ => ?_⟩ fun t' k => out_same rel rfl (.str _ _) q
  · have : (x.length : Int) * n ≤ 1000 * 1000 := Int.mul_le_mul (by omega) h0 (by omega) (by decide)
    have := Int.le_ediv_of_mul_le (a := (x.length : Int)) (b := 2 ^ 63 - 1) (c := n) (by omega) (by omega)
    omega
  · have : x.length * n.toNat ≤ 1000 * 1000 := Nat.mul_le_mul hx (by omega)
    unfold Builtin.Str.tooLong
    simp; unfold sizeLine; omega
theorem sub_str {value slice : PySem.Expr} {x : Str} {i : Int} (hs : notSlice slice = true) (ht : ∀ t r, letTemporaryGo value (.str x t) r = pure ()) (h1 : -(x.length : Int) ≤ i) (h2 : i < x.length) (hx : x.length ≤ 1000000) (q : Q (.str (Txt.item x i)) loc own) :
    Sub Γ loc own value slice (.str x) (.int i) Q := by
  intro h₀ s v u g rel a b
  cases a; cases b
  exact item_str (by unfold fitsSsize; simp; omega) h1 h2 (fun _ => out_same rel rfl (.str _ _) q) (subscripted_plain hs) (ht _)
theorem meth_str {x : Str} {name : Str} {i : String} {pos : Pos} {es : List PySem.Expr} (hg : ∀ {M : Model} {A : Around} {E : Value → Shared → Prop} {s : Shared} {t : Tok} {pl : Sem Bool} {R : Value × List Value → Shared → Prop}, R (.builtin i, [.str x t]) s → wpAny M A (getMethod (.str x t) name pl) R E s) (hp : plainArgs es = true)
    (y : EvL Γ loc own pos es fun args loc own => OpN Γ loc own (.str x :: args) (fun vs => call (.builtin i) vs) Q) : Meth Γ loc own (.str x) name pos es Q := by
  intro h₀ s v pl g rel vr
  cases vr
  exact hg (callWith_go (first := [_]) (fd := [.str x]) (.inr (.inl ⟨i, rfl⟩)) hp g rel (.cons (.str _ _) .nil) Stays.refl y)
theorem vrs_strs {h : Heap} : ∀ {vs : List Value} {ys : List Str}, VRs h vs (ys.map .str) → StrsAre vs ys
  | [], [], _ => .nil
  | _ :: _, _ :: _, .cons x y => by cases x; exact .cons _ _ (vrs_strs y)
theorem op_join_list {x : Str} {a : Addr} {ys : List Str} (ha : HasO a (.list (ys.map .str)) own) (hok : (ys.map (·.length)).sum + ys.length * x.length ≤ 16777216) (q : Q (.str (Str.join x ys)) loc own) : OpN Γ loc own [.str x, .raw (.ref a)] (fun vs => call (.builtin "str.join") vs) Q := by
  intro h₀ s vs g rel vr
  cases vr with
  | cons v1 v2 =>
    cases v2 with
    | cons v2 v3 =>
      cases v3; cases v1; cases v2
      obtain ⟨vs, il, r, e⟩ := list_at ha rel
      refine join_list il (vrs_strs r) hok fun t' k => out_same rel rfl (.str _ _) ?_
      rw [show Txt.join x ys = Str.join x ys from StrLaws.glued_eq_join x ys]; exact q
end
end Mine

end
section
open PySem PySem.W PySem.Builtin PySem.Builtin.ObjectAttr
open PyProof.Rows hiding wpAt wpAt_bind
set_option linter.unusedSectionVars false
set_option maxRecDepth 100000
set_option maxHeartbeats 1000000
set_option linter.unusedVariables false
namespace Mine
variable [aI : Membership Nat Unit]
theorem str_ext {a b : Str} (h : a.cps = b.cps) : a = b := by cases a; cases b; cases h; rfl
theorem append_cps (a b : Str) : (a ++ b).cps = a.cps ++ b.cps := rfl
theorem append_empty (a : Str) : a ++ (⟨#[]⟩ : Str) = a := str_ext (by rw [append_cps]; simp)
theorem len_append (a b : Str) : (a ++ b).length = a.length + b.length := by show (a ++ b).cps.size = _; rw [append_cps]; simp; rfl
noncomputable def cat : List Str → Str
  | [] => ⟨#[]⟩
  | x :: r => x ++ cat r
theorem join_cat : ∀ l : List Str, Str.join ⟨#[]⟩ l = cat l
  | [] => rfl
  | [x] => (append_empty x).symm
  | x :: y :: r => by
    show x ++ (⟨#[]⟩ : Str) ++ Str.join ⟨#[]⟩ (y :: r) = x ++ cat (y :: r)
    rw [append_empty, join_cat]
theorem cat_len (l : List Str) : (cat l).length = (l.map (·.length)).sum := by
  induction l with
  | nil => rfl
  | cons x r ih => show (x ++ cat r).length = _; rw [len_append, ih]; rfl
noncomputable def txt (ps : List (Str × Str)) : Str := cat (ps.map fun p => p.1 ++ p.2)
theorem txt_len (ps : List (Str × Str)) : ((txt ps).length : Int) = signs ps := by
  rw [txt, cat_len, signs, List.map_map]
  induction ps with
  | nil => rfl
  | cons p r ih =>
    simp only [List.map_cons, List.sum_cons, Function.comp, len_append] at ih ⊢
    omega
theorem Keeps.push {s s' : Shared} {o : Obj} (k : Keeps s s') : Keeps s { s' with heap := s'.heap.push o } := by
  obtain ⟨h, t, e, q⟩ := k
  subst e
  exact ⟨_, t, rfl, fun b o' z => Heap.get?_push_of_some _ (q b o' z)⟩
noncomputable def MForm (o : PySem.Expr) (name : Str) (apos : Pos) (es : List PySem.Expr) (pos : Pos) (env : Env) (pl : Sem Bool) : Prop :=
  eval (.Call (.Attribute o name apos) es [] pos) env = (do
      let ov ← eval o env
      standAt apos.atName
      let (f, first) ← holding [ov] (getMethod ov name pl)
      callWith pos f first (backTo pos (starEach es env)) [])
section
variable {prog : Program} {w : World} {A : Around} {E : Value → Shared → Prop} {s : Shared} {K : Frag} {env : Env} {m : Str → Option Value}
theorem low_join {gn x y : Str} {tg : Tok} {p1 p2 p3 p4 p5 p6 : Pos} {kt : Nat} {a b : Str} {t u : Tok} (he : ∃ pl, MForm (.Name gn p1) "join" p2 [.Tuple [.Name x p3, .Name y p4] kt p5] p6 env pl) (hk : env.scope.kind = .function) (hl : env.kindOf gn = some .globalImplicit) (hdg : (gn == ("__debug__" : Str)) = false)
    (hx : env.kindOf x = some .local) (hd : (x == ("__debug__" : Str)) = false) (hy : env.kindOf y = some .local) (hd' : (y == ("__debug__" : Str)) = false) (hg : env.globals = mainGlobals)
    (G : Gd K s.heap) (hn : nsIn K mainGlobals gn = some (some (.str ⟨#[]⟩ tg))) (ns : s.heap.Ns env.locals m) (hm : m x = some (.str a t)) (hm' : m y = some (.str b u)) (ha : a.length ≤ 1000) (hb' : b.length ≤ 1000) :
    wpAny (model prog w) A (eval (.Call (.Attribute (.Name gn p1) "join" p2) [.Tuple [.Name x p3, .Name y p4] kt p5] [] p6) env) (fun v s' => (∃ t, v = .str (a ++ b) t) ∧ Keeps s s') E s := by
  obtain ⟨mg, g⟩ := G.glb
  obtain ⟨pl, he⟩ := he
  refine PyProof.Rows.MethodCall_ (pl := pl) ?_ he
  refine Calls.Name_function_global hk hl (Calls.loadGlobal_global (hg ▸ g) (PySem.W.mg_of G.kin g hn) ?_) hdg
  refine GM.join ?_
  refine PyProof.Rows.callWith_method1 ?_ rfl rfl
  refine wpAny_items_cons ?_ rfl
  refine wpAny_Tuple ?_
  refine wpAny_items_cons (wpAny_Name (wpAny_loadName_local hk hx ns hm ?_) hd) rfl
  refine wpAny_items_cons (wpAny_Name (wpAny_loadName_local hk hy ns hm' ?_) hd') rfl
  refine wpAny_items_nil ⟨by show 2 ≤ sizeLine; decide, wpAny_items_nil ?_⟩
  refine join_tuple (items := #[.str a t, .str b u]) (ys := [a, b]) ⟨_, Heap.get?_push_size _ rfl, rfl, _, rfl⟩ (.cons _ _ (.cons _ _ .nil)) ?_ fun t' k => ⟨⟨t', ?_⟩, ?_⟩
  · show a.length + (b.length + 0) + 2 * 0 ≤ _; omega
  · rw [show Txt.join ⟨#[]⟩ [a, b] = Str.join ⟨#[]⟩ [a, b] from StrLaws.glued_eq_join _ _, join_cat]
    show Value.str (a ++ (b ++ ⟨#[]⟩)) t' = _
    rw [append_empty]
  · exact Keeps.toks (Keeps.push Keeps.refl)
end
theorem strVals_eq {n : Nat} {P : Nat → Value → Prop} {l : List (Str × Tok)} {ys : List Str} (hn : n = ys.length) (hP : ∀ i v, P i v → ∃ t, v = .str (ys.getD i ⟨#[]⟩) t) (h : ItemsOf P (strValues l).toArray n) : l.map (·.1) = ys := by
  apply List.ext_getElem?
  intro j
  have hsz : l.length = n := by simpa [strValues] using h.1
  by_cases hj : j < n
  · have hj' : j < l.length := hsz ▸ hj
    have hj2 : j < ys.length := hn ▸ hj
    obtain ⟨u, hv⟩ := hP j _ (h.2 j (.str l[j].1 l[j].2) (by simp [strValues, List.getElem?_eq_getElem hj']))
    injection hv with h1 _
    rw [List.getElem?_map, List.getElem?_eq_getElem hj', List.getElem?_eq_getElem hj2]
    simp only [Option.map_some]
    rw [h1, List.getD_eq_getElem?_getD, List.getElem?_eq_getElem hj2]; rfl
  · rw [List.getElem?_eq_none (by simp; omega), List.getElem?_eq_none (by omega)]
section
variable {Γ : Fm} {loc : Loc} {own own' : Own} {Q : QV} {QQ : QF}
theorem ev_join_gen {iter : PySem.Expr} {xa xb gn : Str} {tg : Tok} {pa pb pt pos p1 p2 p3 p4 p5 p6 q1 q2 q3 : Pos} {kt ku : Nat} {scope : Scope} {c T x C d : Addr} {ps : List (Str × Str)}
    (O : GenOk Γ scope iter xa xb c T) (H : AccK Γ.K C) (hroom : Γ.A.depth < recursionLimit)
    (hi : Ev Γ loc own iter fun e loc' own' => e = .raw (.ref x) ∧ loc' = loc ∧ own' = own) (ha : HasO x (.acc C d (ps.map dpair)) own) (ht : HasO T .tab own)
    (hgs : scope.names.lookup gn = some .globalImplicit) (hgk : Γ.env.kindOf gn = some .globalImplicit) (hdg : (gn == ("__debug__" : Str)) = false) (ng : nsIn Γ.K mainGlobals gn = some (some (.str ⟨#[]⟩ tg)))
    (hda : (xa == ("__debug__" : Str)) = false) (hdb : (xb == ("__debug__" : Str)) = false) (hps : ∀ p ∈ ps, p.1.length ≤ 1000 ∧ p.2.length ≤ 1000) (hpl : ps.length ≤ 1000)
    (hout : ∃ pl, MForm (.Name gn q1) "join" q2 [.GeneratorExp (.Call (.Attribute (.Name gn p1) "join" p2) [.Tuple [.Name xa p3, .Name xb p4] ku p5] [] p6) [⟨.Tuple [.Name xa pa, .Name xb pb] kt pt, iter, [], 0⟩] scope pos] q3 Γ.env pl)
    (hin : ∀ env, ∃ pl, MForm (.Name gn p1) "join" p2 [.Tuple [.Name xa p3, .Name xb p4] ku p5] p6 env pl)
    (q : Q (.str (txt ps)) loc own) :
    Ev Γ loc own (.Call (.Attribute (.Name gn q1) "join" q2) [.GeneratorExp (.Call (.Attribute (.Name gn p1) "join" p2) [.Tuple [.Name xa p3, .Name xb p4] ku p5] [] p6) [⟨.Tuple [.Name xa pa, .Name xb pb] kt pt, iter, [], 0⟩] scope pos] [] q3) Q := by
  intro h₀ s g rel
  obtain ⟨mg, G⟩ := g.glb
  obtain ⟨pl, hout⟩ := hout
  refine PyProof.Rows.MethodCall_ (pl := pl) ?_ hout
  refine Calls.Name_function_global Γ.hk hgk (Calls.loadGlobal_global (Γ.hg ▸ G.keeps rel.ow.keep) (PySem.W.mg_of g.kin G ng) ?_) hdg
  refine GM.join ?_
  refine PyProof.Rows.callWith_method1 ?_ rfl rfl
  refine wpAny_items_cons ?_ rfl
  refine gen_pairs (ps := ps.map fun p => (.str p.1, .str p.2)) (F := fun i v => ∃ t, v = .str ((ps.map fun p => p.1 ++ p.2).getD i ⟨#[]⟩) t) O H hroom g rel hi (by rw [List.map_map]; exact ha) ht ?_ ?_
  · intro cenv A' E' i p va vb s₂ m₂ hsc hg' hb' hA hD hU hp v1 v2 ns ma mb' G2
    rw [List.getElem?_map] at hp
    obtain ⟨p0, hp0, rfl⟩ := Option.map_eq_some_iff.mp hp
    cases v1; cases v2
    have hm := hps _ (List.mem_of_getElem? hp0)
    have hk' : cenv.scope.kind = .function := by rw [hsc]; exact O.kind
    refine wpAny_mono (low_join (hin _) hk' (by show cenv.scope.names.lookup _ = _; rw [hsc]; exact hgs) hdg (by show cenv.scope.names.lookup _ = _; rw [hsc]; exact O.ha) hda (by show cenv.scope.names.lookup _ = _; rw [hsc]; exact O.hb) hdb hg' G2 ng ns ma mb' hm.1 hm.2) (fun v s' ⟨⟨t, e⟩, kk⟩ => ⟨⟨t, ?_⟩, kk⟩) fun _ _ z => z
    rw [e, List.getD_eq_getElem?_getD, List.getElem?_map, hp0]; rfl
  · intro a s₅ fp wr Gn St pp gb r5 back hfp W st
    refine wpAny_items_nil ?_
    refine SC.joinGen (W.of_in1.of_in1) gb.2.1 st hfp gb.2.2 (fun i v ⟨t, e⟩ => ⟨_, t, e⟩) (fun s' l mv hl => ?_) (by rw [List.length_map]; unfold sizeLine; omega)
    rw [strVals_eq (ys := ps.map fun p => p.1 ++ p.2) (by simp) (fun i v z => z) hl]
    refine ⟨joinOk_of ?_, fun t' k => ?_⟩
    · have : ∀ qs : List (Str × Str), (∀ p ∈ qs, p.1.length ≤ 1000 ∧ p.2.length ≤ 1000) → ((qs.map fun p => p.1 ++ p.2).map (·.length)).sum ≤ qs.length * 2000 := by
        intro qs
        induction qs with
        | nil => intro _; exact Nat.le_refl _
        | cons p r ih =>
          intro h
          have h1 := h p (.head _)
          have h2 := ih fun x hx => h x (.tail _ hx)
          simp only [List.map_cons, List.sum_cons, len_append, List.length_cons]
          omega
      have h2 := this ps hps
      have : (⟨#[]⟩ : Str).length = 0 := rfl
      rw [this, Nat.mul_zero]
      omega
    · obtain ⟨p', r'⟩ := back s'.heap fun b o nb e => mv.heap b o nb e
      rw [show Txt.join ⟨#[]⟩ (ps.map fun p => p.1 ++ p.2) = Str.join ⟨#[]⟩ (ps.map fun p => p.1 ++ p.2) from StrLaws.glued_eq_join _ _, join_cat]
      exact ⟨_, _, _, ⟨p', mv.os.trans pp.os, fun h0 => gb.1 _ _ mv.gens (pp.bare h0)⟩, r', .str _ _, q⟩
end
end Mine

end
section
open PySem PySem.W PySem.Builtin PySem.Builtin.ObjectAttr
open PyProof.Rows hiding wpAt wpAt_bind
set_option linter.unusedSectionVars false
set_option maxRecDepth 100000
set_option maxHeartbeats 1000000
set_option linter.unusedVariables false
namespace Mine
variable [aI : Membership Nat Unit]
section
variable {Γ : Fm} {loc : Loc} {own own' : Own} {Q : QV} {QQ : QF}
theorem op_str_acc {x C d f : Addr} {ds : List Dv} (ha : HasO x (.acc C d ds) own) (hs : findIn Γ.K (.ref C) "__str__" = some (some (.ref f))) (hf : typeIn Γ.K (.ref f) = some (.type "function")) (hu : Γ.U + 2 < cLine)
    (c : CallT Γ.prog Γ.w Γ.K Γ.A.in1.in1 own (.ref f) [.raw (.ref x)] fun r own' => ∃ y, r = .str y ∧ Q (.str y) loc own') : OpN Γ loc own [.raw (.ref x)] (fun vs => call (.type "str") vs) Q := by
  intro h₀ s vs g rel vr
  cases vr with
  | cons a b =>
    cases b; cases a
    have hU := Γ.hU
    refine callType_newIn F.called_str (by decide) (F.typeCall_str_1 _) (F.newCall_str_1 _) (fun obj => F.args_object_init_2 obj _) F.entry_str_new
      (S := fun A R s => wpAny (model Γ.prog Γ.w) A.in1 (Builtin.Str.strOf (.ref x)) (fun r s' => R (.ok (.ret r)) s') (fun e s' => R (.error e) s') s) (fun A R s h => ?_) ?_
    · rw [str_new_tree]
      refine wpAny_bind (wpAny_pure ?_)
      refine wpAny_bind (wpAny_of_eq isSubtype_str_str ?_)
      exact wpAny_bind (wpAny_mono h (fun r s' h' => wpAny_pure h') fun _ _ e => e)
    · obtain ⟨ws, k, ho, rr⟩ := rel.ow.at_ _ ha.mem
      have X := g.kin.keeps rel.ow.keep
      have T : Looks (model Γ.prog Γ.w) s.heap (typeOf (.ref x)) (.ref C) := (Looks.ld ho).andThen .now
      unfold Builtin.Str.strOf
      rw [show Builtin.Str.isExactStr (.ref x) = false from rfl]
      refine wpAny_bind (m := cRoomFor _ _) (wpAny_cRoomFor (by simp only [Around.in1_units]; omega) ?_)
      refine wpAny_bind (m := callSpecial? (.ref x) (Str.ofString "__str__")) ?_
      unfold callSpecial? specialOf
      refine wpAny_bind (wpAny_bind (T.here ((looks_findIn X hs).here (wpAny_holding (wpAny_bind ((bind_fn X _ hf).here (wpAny_bind ?_)))))))
      refine wpAny_mono (c.use (Γ := Γ.in1.in1) (loc := loc) (R := fun v s' => Out h₀ Γ.env.locals s Q v s' ∧ ∃ y t, v = .str y t) g rel (.cons (.raw _) .nil) fun r own' s' v p r' v' ⟨y, e, q⟩ => ?_) (fun v s' ⟨z, y, t, e⟩ => ?_) fun _ _ z => z
      · subst e
        cases v'
        exact ⟨⟨_, _, _, p, r', .str _ _, q⟩, _, _, rfl⟩
      · subst e
        refine wpAny_pure ?_
        exact wpAny_pure ⟨typeIs_str _ _ _, z⟩
theorem cps_beq (a b : Str) : (a.cps.toList == b.cps.toList) = decide (a = b) := by
  by_cases h : a = b
  · subst h; simp
  · rw [decide_eq_false h]
    exact beq_eq_false_iff_ne.mpr fun e => h (str_ext (Array.toList_inj.mp e))
theorem op_eq_str {a b : Str} (q : Q (.bool (decide (a = b))) loc own) : Op2 Γ loc own (.str a) (.str b) (compareOp .Eq) Q := by
  intro h₀ s v u g rel x y; cases x; cases y
  refine PySem.P.eq_str ?_
  rw [cps_beq]
  exact out_same rel rfl (.bool _) q
theorem op_ne_str {a b : Str} (q : Q (.bool (!decide (a = b))) loc own) : Op2 Γ loc own (.str a) (.str b) (compareOp .NotEq) Q := by
  intro h₀ s v u g rel x y; cases x; cases y
  refine PySem.P.ne_str ?_
  rw [bne, cps_beq]
  exact out_same rel rfl (.bool _) q
end
end Mine

end
section
open PySem PySem.W PySem.Builtin PySem.Builtin.ObjectAttr
open PyProof.Rows hiding wpAt wpAt_bind
set_option linter.unusedSectionVars false
set_option maxRecDepth 100000
set_option maxHeartbeats 1000000
set_option linter.unusedVariables false
namespace Mine
variable [aI : Membership Nat Unit]
section
variable {Γ : Fm} {loc loc1 : Loc} {own own1 : Own}
end
theorem signs_append (a b : List (Str × Str)) : signs (a ++ b) = signs a + signs b := by unfold signs; rw [List.map_append, List.sum_append]
theorem signs_one (p : Str × Str) : signs [p] = p.1.length + p.2.length := by simp [signs]
theorem txt_nil : txt [] = ⟨#[]⟩ := rfl
theorem exs_mono' {Γ : Fm} {loc : Loc} {own : Own} {sts : List Stmt} {Q Q' : QF} (x : Exs Γ loc own sts Q) (m : ∀ f loc own, Q f loc own → Q' f loc own) : Exs Γ loc own sts Q' :=
  fun h₀ s g rel => wpAny_mono (x h₀ s g rel) (fun _ _ ⟨a, l, o, p, r, f, q⟩ => ⟨a, l, o, p, r, f, m _ _ _ q⟩) fun _ _ z => z
end Mine

end
section
open PySem PySem.W PySem.Builtin PySem.Builtin.ObjectAttr
open PyProof.Rows hiding wpAt wpAt_bind
set_option linter.unusedSectionVars false
set_option maxRecDepth 100000
set_option maxHeartbeats 1000000
set_option linter.unusedVariables false
namespace Mine
variable [aI : Membership Nat Unit]
section
variable {Γ : Fm} {loc : Loc} {own own' : Own} {Q : QV} {QQ : QF}
theorem ev_cell {x : Str} {pos : Pos} {d : Dv} {c : Addr} (hl : Γ.env.kindOf x = some .cell) (hd : (x == ("__debug__" : Str)) = false) (hc : Γ.env.cells.lookup x = some c) (ha : HasO c (.cell (some d)) own) (q : Q d loc own) : Ev Γ loc own (.Name x pos) Q := by
  intro h₀ s g rel
  obtain ⟨v, hv, vr⟩ := rel.ow.at_ _ ha.mem
  exact wpAny_Name (wpAny_loadName_cell Γ.hk hl hc hv (out_ext rel Ext.refl vr q)) hd
inductive StoreTo (Γ : Fm) (x : Str) (d : Dv) : Loc → Own → Loc → Own → Prop
  | loc {loc loc' : Loc} {own : Own} : Γ.env.kindOf x = some .local → SetL x d loc loc' → StoreTo Γ x d loc own loc' own
  | cel {loc : Loc} {own own' : Own} {c : Addr} {o : Option Dv} : Γ.env.kindOf x = some .cell → Γ.env.cells.lookup x = some c → Upd c (.cell o) (.cell (some d)) own own' → StoreTo Γ x d loc own loc own'
theorem storeTo_ {x : Str} {d : Dv} {v : Value} {loc' : Loc} {h₀ : Heap} {s : Shared} {R : Unit → Shared → Prop} (rel : Rel h₀ Γ.env.locals loc own s.heap) (u : StoreTo Γ x d loc own loc' own') (vr : VR s.heap v d)
    (k : ∀ s', Stays s s' → Rel h₀ Γ.env.locals loc' own' s'.heap → R () s') : wpAny (model Γ.prog Γ.w) Γ.A (storeName Γ.env x v) R Γ.E s := by
  cases u with
  | loc hl u => exact store_ rel hl u vr k
  | cel hl hc u =>
    rename_i c o
    have old := rel.ow.at_ _ u.mem
    obtain ⟨v₀, hv₀⟩ : ∃ v₀, s.heap.IsCell c v₀ := by
      cases o with
      | none => exact ⟨_, old⟩
      | some d => obtain ⟨v, p, _⟩ := old; exact ⟨_, p⟩
    refine wpAny_storeName_cell Γ.hk hl hc hv₀ fun h' hv' hs => ?_
    have ch : Chg c s.heap h' := ⟨fun b hb => hs.2 b hb, old.some⟩
    exact k _ ch.pers.st (rel.upd u ch ⟨v, hv', vr.mono ch.pers⟩)
theorem ex_assignS {x : Str} {pos' pos : Pos} {e : PySem.Expr} (hs : swapsWith e (some (.Name x pos')) pos.line Γ.env = pure false)
    (y : Ev Γ loc own e fun d loc own => ∃ loc' own', StoreTo Γ x d loc own loc' own' ∧ QQ .next loc' own') : Ex Γ loc own (.Assign [.Name x pos'] e pos) QQ := by
  intro h₀ s g rel
  refine wpAny_Assign_Name (y.use g rel fun d loc own s' v p r vr ⟨loc', own', u, q⟩ => storeTo_ r u vr fun s'' p' r' => ⟨_, _, _, p.trans p', r', .next, q⟩) hs
inductive StoresTo (Γ : Fm) : List Str → List Dv → Loc → Own → Loc → Own → Prop
  | nil {loc : Loc} {own : Own} : StoresTo Γ [] [] loc own loc own
  | cons {x : Str} {d : Dv} {xs : List Str} {ds : List Dv} {a b c : Loc} {o p q : Own} : StoreTo Γ x d a o b p → StoresTo Γ xs ds b p c q → StoresTo Γ (x :: xs) (d :: ds) a o c q
theorem bindsS_go {h₀ : Heap} : ∀ {xs : List Str} {ds : List Dv} {vs : List Value} {loc loc' : Loc} {own own' : Own} {s : Shared} {R : Unit → Shared → Prop}, StoresTo Γ xs ds loc own loc' own' → Rel h₀ Γ.env.locals loc own s.heap → VRs s.heap vs ds →
    (∀ s', Stays s s' → Rel h₀ Γ.env.locals loc' own' s'.heap → R () s') → wpAny (model Γ.prog Γ.w) Γ.A (assignInOrder (xs.map fun n => bindName Γ.env n) vs) R Γ.E s
  | _, _, _, _, _, _, _, _, _, .nil, r, v, k => by cases v; exact wpAny_pure (k _ (Pers.st .refl) r)
  | _, _, _, _, _, _, _, _, _, .cons u us, r, v, k => by
    cases v with
    | cons v1 v2 =>
      show wpAny _ _ (holding _ (bindName Γ.env _ _) >>= fun _ => assignInOrder _ _) _ _ _
      refine wpAny_bind (wpAny_holding (wpAny_bindName (storeTo_ r u v1 fun s2 p2 r2 => ?_)))
      exact bindsS_go us r2 (v2.mono p2.p) fun s3 p3 r3 => k s3 (p2.trans p3) r3
theorem ex_assign_swapS {ts : List PySem.Expr} {es : List PySem.Expr} {k k' : Nat} {pos p1 p2 : Pos} (names : List Str) (hs : swapsWithSole [.Tuple ts k p1] (.Tuple es k' p2) pos.line Γ.env = pure false) (hw : swappedStores [.Tuple ts k p1] (.Tuple es k' p2) Γ.env = pure (some names))
    (x : Ev Γ loc own (.Tuple es k' p2) fun d loc own => ∃ ds loc' own', d = .tup ds ∧ ds.length = names.length ∧ StoresTo Γ names.reverse ds.reverse loc own loc' own' ∧ QQ .next loc' own') : Ex Γ loc own (.Assign [.Tuple ts k p1] (.Tuple es k' p2) pos) QQ := by
  intro h₀ s g rel
  have e : exec (.Assign [.Tuple ts k p1] (.Tuple es k' p2) pos) Γ.env = (do
      standAt pos
      if ← swapsWithSole [.Tuple ts k p1] (.Tuple es k' p2) pos.line Γ.env then do
        evalThenUse (.Tuple es k' p2) Γ.env fun v => assignAll v ((assignEach [.Tuple ts k p1] Γ.env).map (·.2))
        pure .next
      else do
        let v ← eval (.Tuple es k' p2) Γ.env
        assignStores Γ.env v (← swappedStores [.Tuple ts k p1] (.Tuple es k' p2) Γ.env) ((assignEach [.Tuple ts k p1] Γ.env).map (·.2))) := rfl
  rw [e, hs, hw]
  refine wpAny_bind (wpAny_standAt (wpAny_bind (wpAny_pure ?_)))
  simp only [Bool.false_eq_true, if_false]
  refine wpAny_bind (x.use g rel fun d loc own s1 v q1 r1 v1 ⟨ds, loc', own', hd, hl, us, q⟩ => wpAny_bind (wpAny_pure ?_))
  subst hd
  obtain ⟨a, vs, n, rfl, o, r⟩ := tup_inv v1
  unfold assignStores
  refine wpAny_bind (wpAny_rule ?_)
  have hsz : names.length = vs.toArray.size := by rw [List.size_toArray, r.length, hl]
  rw [hsz]
  refine wpAny_bind (PyProof.Rows.unpackItems_tuple Γ.hh (items := vs.toArray) ⟨_, o, rfl, _, rfl⟩ fun h' eb => ?_)
  have ex : Ext s1.heap h' := fun b o e => eb b o (Nat.ne_of_lt (Heap.lt_size e)) e
  refine wpAny_bind (bindsS_go (s := { s1 with heap := h' }) us (r1.ext ex) (by simpa using (r.mono (Ext.pers ex)).reverse) fun s2 p2 r2 => wpAny_pure ⟨_, _, _, (q1.trans (b := s1) (c := { s1 with heap := h' }) (Ext.pers ex).st).trans p2, r2, .next, q⟩)
theorem StoreTo.keys {x : Str} {d : Dv} {loc' : Loc} (u : StoreTo Γ x d loc own loc' own') : own'.map (·.1) = own.map (·.1) := by
  cases u with
  | loc => rfl
  | cel _ _ u => exact u.keys
theorem ex_assign_compS {x : Str} {pos' pos p : Pos} {elt tg iter : PySem.Expr} {ifs : List PySem.Expr} {scope : Scope} (cl : List (Str × Addr)) (hE : Γ.E = fun _ _ => False) (ok : CompOk Γ scope cl iter)
    (hs : swapsWith (.ListComp elt [⟨tg, iter, ifs, 0⟩] scope p) (some (.Name x pos')) pos.line Γ.env = pure true)
    (y : It Γ loc own tg iter fun ds H loc own => Comp Γ scope cl ok.kind tg elt ifs ds H own fun res own => ∀ a, ∃ loc' own', StoreTo Γ x (.raw (.ref a)) loc ((a, .list res) :: own) loc' own' ∧ QQ .next loc' own') :
    Ex Γ loc own (.Assign [.Name x pos'] (.ListComp elt [⟨tg, iter, ifs, 0⟩] scope p) pos) QQ := by
  intro h₀ s g rel
  rw [exec_Assign_Name_used _ _ _ _ hs]
  refine wpAny_bind (wpAny_standAt (wpAny_bind ?_))
  show wpAny _ _ (comprehension (.ListComp elt [⟨tg, iter, ifs, 0⟩] scope p) scope Γ.env (firstIterPos [⟨tg, iter, ifs, 0⟩] p) (newList []) false (eval iter Γ.env) (some (assign (.Name x pos') Γ.env)) >>= fun _ => pure ()) _ _ _
  refine wpAny_bind ?_
  refine comp_core hE ok (QC := fun res loc own => ∀ a, ∃ loc' own', StoreTo Γ x (.raw (.ref a)) loc ((a, .list res) :: own) loc' own' ∧ QQ .next loc' own') g rel y fun acc C res loc own s' m p r n c0 cL ca co q => ?_
  obtain ⟨loc', own', u, q⟩ := q acc
  obtain ⟨rb, ex⟩ := r.rebase
  refine wpAny_assign_Name (storeTo_ rb u (.raw _) fun s2 p2 r2 => ?_)
  obtain ⟨o, es, ep, hC, z⟩ := n
  have hC2 : s2.heap.get? C = some o := r2.ow.keep C o (hideAll_get _ hC fun qq => by
    rcases List.mem_cons.mp qq with w | qq
    · exact cL w
    · obtain ⟨p, hp, w⟩ := List.mem_map.mp qq
      rcases List.mem_cons.mp hp with rfl | hp
      · exact ca w.symm
      · exact co p hp w)
  refine ⟨m, ⟨o, es, ep, hC2, z⟩, fun h' sb => ?_⟩
  have nt : ∃ o, s2.heap.get? C = some o ∧ ∀ vs n, o ≠ tupObj vs n := ⟨o, hC2, fun vs n e => by have := z.1; rw [e] at this; cases this⟩
  have pp : Pers s2.heap h' := (Chg.mk (a := C) (fun b hb => sb.2 b hb) nt).pers
  have r2' := r2.unbase ex
  refine wpAny_pure (wpAny_pure ⟨_, _, _, (p.trans p2).trans pp.st, r2'.others (F := [C]) (fun b o nb e => (sb.2 b fun z => nb (z ▸ .head _)).trans e) ⟨fun a ha => ?_, fun a ha => ?_, fun a ha p hp => ?_⟩ pp, .next, q⟩)
  all_goals (rcases List.mem_cons.mp ha with rfl | ha; rotate_left; cases ha)
  · exact c0
  · exact cL
  · have : p.1 ∈ ((acc, AObj.list res) :: own).map (·.1) := u.keys ▸ List.mem_map_of_mem hp
    obtain ⟨p', hp', e⟩ := List.mem_map.mp this
    rw [← e]
    rcases List.mem_cons.mp hp' with rfl | hp'
    · exact fun z => ca z.symm
    · exact co p' hp'
end

noncomputable def cellOwn (names : List (Str × NameKind)) (L : Addr) (cel : Str → Option Dv) : Own := (cellsFrom (L + 1) names []).map fun p => (p.2, .cell (cel p.1))
noncomputable abbrev lawFmC (prog : Program) (w : World) (K : Frag) (name : Str) (sc : Scope) (L fa : Addr) (cdv : Value) (hk : sc.kind = .function) : Fm :=
  { prog, w, K, A := callerA.deeper (envOfC name sc L fa cdv), env := envOfC name sc L fa cdv, E := fun _ _ => False, D := 400, U := 10, hh := rfl, hD := by show callerA.depth + 1 ≤ 400; decide, hU := by show callerA.units + 3 ≤ 10; decide, hk := hk, hg := rfl, hb := rfl }
theorem cells_own {cm : Str → Option Value} {cs : List (Str × Addr)} {cells : List (Addr × Obj)} (x : CellsAre cm cs cells) (hcm : ∀ n, cm n = none) : ∀ p ∈ cs, ∃ o, (p.2, o) ∈ cells ∧ o.data = .cell none := by
  induction x with
  | nil => intro p hp; cases hp
  | @cons n c o cs cells h _ ih =>
    intro p hp
    rcases List.mem_cons.mp hp with rfl | hp
    · exact ⟨o, .head _, by rw [h, hcm]⟩
    · obtain ⟨o', m, q⟩ := ih p hp; exact ⟨o', .tail _ m, q⟩
theorem law_joinC {prog : Program} {w : World} {K : Frag} {s₁ : Shared} {h₁ : Heap} {L fa a : Addr} {name : Str} {sc : Scope} {cdv : Value} {hk : sc.kind = .function} {vs : List Value} {ns : List Int} {tk : Nat} {c : ClaimW} {cl : Str → Option Addr} {mean : ExcName → Option Value} {args : List WData} {body : List Stmt} {E : Value → Shared → Prop}
    {m : Str → Option Value} {tabs : List (Addr × Addr)} {mb : Str → Option Value} {cm : Str → Option Value} {cells : List (Addr × Obj)} (F : Fr s₁.heap L h₁ m) (N : News s₁.heap L h₁ cells) (Y : CellsAre cm (cellsFrom (L + 1) sc.names []) cells) (hcm : ∀ n, cm n = none) (hcd : ((cellsFrom (L + 1) sc.names []).map (·.2)).Nodup)
    (hm : m "script" = some (.ref a)) (X : K.In s₁.heap) (hB : s₁.heap.Ns builtinsNs mb) (hbb : ∀ x : Str, x ≠ "__name__" → mb x = bootBuiltins x) (hM : ∃ mg b o, BMod s₁.heap mainGlobals mg b o)
    (hl : s₁.heap.IsList a vs.toArray) (hi : IntsAre vs ns) (ht : ∀ p ∈ tabs, s₁.heap.TableAt p.1 p.2 #[]) (hnd : (tabs.map (·.2)).Nodup) (hfree : ∀ p ∈ tabs, K.lookup p.2 = none) (hKl : ∀ b o, K.lookup b = some o → o.cls ≠ .type "list") (hg : s₁.gens = #[]) (mk : Addr × Addr → AObj) (hmk : ∀ p ∈ tabs, ∀ h : Heap, h.get? p.2 = some (tabObj #[]) → OR h p.2 (mk p))
    (hno : ∀ a, ¬ Hid a) (hr : ∀ cls, c.raises args cls = false) (hp : c.post args (.bool true) args = true)
    (x : ∀ o, Exs (lawFmC prog w K name sc L fa cdv hk) [("script", .raw (.ref a))] (cellOwn sc.names L (fun _ => none) ++ (tabs.map (fun p => (p.2, mk p)) ++ [(a, .fix o (ns.map .int))])) body fun fl loc own => fl = .ret (.bool true) ∧ (∀ p ∈ tabs, (p.2, AObj.tab) ∈ own) ∧ (a, .fix o (ns.map .int)) ∈ own) :
    wpAny (model prog w) (callerA.deeper (envOfC name sc L fa cdv)) (execs body (envOfC name sc L fa cdv)) (fun f s' => GoodWG c cl mean args s₁ (.ok (.ret (match f with | .ret v => v | _ => .none))) s') E { s₁ with heap := h₁, toks := tk } := by
  obtain ⟨oa, ha, hac, na, had⟩ := hl
  have small : ∀ b o, s₁.heap.get? b = some o → b ≠ L := fun b o e => Nat.ne_of_lt (Nat.lt_of_lt_of_le (Heap.lt_size e) F.above)
  have tabAt : ∀ p ∈ tabs, s₁.heap.get? p.2 = some (tabObj #[]) := fun p hp => (ht p hp).2
  have aTab : a ∉ tabs.map (·.2) := fun q => by
    obtain ⟨p, hp, e⟩ := List.mem_map.mp q
    have := tabAt p hp
    rw [e, ha] at this; cases this; cases hac
  have co := cells_own Y hcm
  let cO : Own := cellOwn sc.names L (fun _ => none)
  have cOm : ∀ p ∈ cO, ∃ o, (p.1, o) ∈ cells ∧ o.data = .cell none ∧ p.2 = .cell none := fun p hp => by
    obtain ⟨q, hq, rfl⟩ := List.mem_map.mp hp
    obtain ⟨o, m1, m2⟩ := co q hq
    exact ⟨o, m1, m2, rfl⟩
  have cOn : ∀ b, b ∈ cO.map (·.1) → s₁.heap.get? b = none ∧ b ≠ L := fun b hb => by
    obtain ⟨p, hp, rfl⟩ := List.mem_map.mp hb
    obtain ⟨o, m1, _⟩ := cOm p hp
    exact ⟨(N _ m1).2.2, (N _ m1).2.1⟩
  let own0 : Own := cO ++ (tabs.map (fun p => (p.2, mk p)) ++ [(a, .fix oa (ns.map .int))])
  have keys : own0.map (·.1) = cO.map (·.1) ++ (tabs.map (·.2) ++ [a]) := by simp [own0, List.map_map, Function.comp_def]
  have sep : ∀ b o, s₁.heap.get? b = some o → b ≠ a → b ∉ tabs.map (·.2) → (hideAll h₁ (L :: own0.map (·.1))).get? b = some o := fun b o e n1 n2 => hideAll_get _ (F.keep b o e) fun q => by
    rcases List.mem_cons.mp q with q | q
    · exact small b o e q
    · rw [keys] at q
      rcases List.mem_append.mp q with q | q
      · rw [(cOn b q).1] at e; cases e
      rcases List.mem_append.mp q with q | q
      · exact n2 q
      · exact n1 (List.mem_singleton.mp q)
  have notTab : ∀ b o, s₁.heap.get? b = some o → (∀ ps, o ≠ tabObj ps) → b ∉ tabs.map (·.2) := fun b o e n q => by
    obtain ⟨p, hp, z⟩ := List.mem_map.mp q
    have := tabAt p hp
    rw [z, e] at this; cases this; exact n _ rfl
  have nsSep : ∀ b mm, s₁.heap.Ns b mm → (hideAll h₁ (L :: own0.map (·.1))).Ns b mm := fun b mm ⟨o, es, n, e, d, r⟩ => ⟨o, es, n, sep b o e (fun z => by subst z; rw [ha] at e; cases e; rw [had] at d; cases d) (notTab b o e fun ps z => by subst z; cases d), d, r⟩
  have G : Gd K (hideAll h₁ (L :: own0.map (·.1))) := by
    refine ⟨fun b o e => sep b o (X b o e) (fun z => ?_) fun q => ?_, ⟨mb, nsSep _ _ hB, hbb⟩, ?_, ?_, fun a q => absurd q (hno a)⟩
    · subst z; have := X _ _ e; rw [ha] at this; cases this; exact hKl _ _ e hac
    · obtain ⟨p, hp, z⟩ := List.mem_map.mp q
      have := hfree p hp
      rw [z, e] at this; cases this
    · obtain ⟨mg, b, o, M⟩ := hM; exact ⟨mg, nsSep _ _ M.ns⟩
    · obtain ⟨mg, b, o, M⟩ := hM
      exact ⟨mg, b, o, nsSep _ _ M.ns, M.name, M.ne, sep b o M.obj (fun z => by subst z; have := M.obj; rw [ha] at this; cases this; have := M.cls; rw [hac] at this; simp at this) (notTab b o M.obj fun ps z => by have := M.cls; rw [z] at this; cases this), M.cls, M.dict, M.data⟩
  have vr : ∀ h, VRs h vs (ns.map .int) := fun h => ints_vrs hi
  have rel : Rel (hideAll h₁ (L :: own0.map (·.1))) L [("script", .raw (.ref a))] own0 h₁ := by
    refine ⟨⟨fun b o e => of_hideAll _ e, fun p hp => ?_, fun p hp => hideAll_none _ (.tail _ (List.mem_map_of_mem hp)), ?_⟩, ⟨⟨m, F.ns, fun y d hy => ?_⟩, hideAll_none _ (.head _), fun p hp => ?_, by simp⟩⟩
    · rcases List.mem_append.mp hp with hp | hp
      · obtain ⟨o, m1, m2, m3⟩ := cOm p hp
        rw [m3]
        exact ⟨o, (N _ m1).1, m2⟩
      rcases List.mem_append.mp hp with hp | hp
      · obtain ⟨q, hq, rfl⟩ := List.mem_map.mp hp
        exact hmk q hq _ (F.keep _ _ (tabAt q hq))
      · rcases List.mem_singleton.mp hp with rfl
        exact ⟨F.keep _ _ ha, hac, vs, na, had, vr _⟩
    · rw [keys, List.nodup_append]
      refine ⟨?_, ?_, fun b hb c hc z => ?_⟩
      · show (((cellsFrom (L + 1) sc.names []).map fun p => (p.2, AObj.cell none)).map (·.1)).Nodup
        rw [List.map_map]; exact hcd
      · rw [List.nodup_append]
        refine ⟨hnd, by simp, fun b hb c hc z => ?_⟩
        rcases List.mem_singleton.mp hc with rfl
        subst z; exact aTab hb
      · subst z
        have e := (cOn b hb).1
        rcases List.mem_append.mp hc with q | q
        · obtain ⟨p, hp, z⟩ := List.mem_map.mp q
          have := tabAt p hp
          rw [z, e] at this; cases this
        · rw [List.mem_singleton.mp q, ha] at e; cases e
    · rcases List.mem_singleton.mp hy with hy
      cases hy
      exact ⟨_, hm, .raw _⟩
    · rcases List.mem_append.mp hp with hp | hp
      · exact (cOn _ (List.mem_map_of_mem hp)).2
      rcases List.mem_append.mp hp with hp | hp
      · obtain ⟨q, hq, rfl⟩ := List.mem_map.mp hp
        exact small _ _ (tabAt q hq)
      · rcases List.mem_singleton.mp hp with rfl
        exact small _ _ ha
  refine wpAny_mono (x oa _ { s₁ with heap := h₁, toks := tk } G rel) (fun f s' ⟨fl, loc, own, st, r, fr, e, e1, e2⟩ => ?_) fun _ _ z => z.elim
  subst e
  cases fr with
  | ret v =>
    cases v
    have old : ∀ b o, s₁.heap.get? b = some o → b ∉ tabs.map (·.2) → s'.heap.get? b = some o := fun b o q n => by
      by_cases hb : b = a
      · subst hb
        rw [ha] at q; cases q
        exact (r.ow.at_ _ e2).1
      · exact r.ow.keep b o (sep b o q hb n)
    have tb : ∀ b, b ∈ tabs.map (·.2) → isCodeTable s₁.heap b ∧ ∃ ps, s'.heap.get? b = some (tabObj ps) := fun b hb => by
      obtain ⟨p, hp, rfl⟩ := List.mem_map.mp hb
      obtain ⟨ps, q, _⟩ := r.ow.at_ _ (e1 p hp)
      exact ⟨(ht p hp).isCodeTable, ps, q⟩
    refine ⟨.inl ⟨_, _, [], rfl, hr, ReadsW.bool true, hp, fun _ => ⟨List.nodup_nil, fun _ hm => (nomatch hm)⟩⟩, ⟨fun b o q => ?_, fun b o q => ?_⟩, st.os, st.bare (.of_eq hg)⟩
    · by_cases hb : b ∈ tabs.map (·.2)
      · obtain ⟨it, ps, z⟩ := tb b hb
        obtain ⟨p, hp', e⟩ := List.mem_map.mp hb
        have := tabAt p hp'
        rw [e, q] at this; cases this
        exact .inr (.inl ⟨it, rfl, #[], ps, rfl, by rw [Array.empty_append]; exact z⟩)
      · exact .inl (old b o q hb)
    · by_cases hb : b ∈ tabs.map (·.2)
      · obtain ⟨it, ps, z⟩ := tb b hb
        exact ⟨_, z⟩
      · exact ⟨o, old b o q hb⟩
end Mine

end
section
open PySem PySem.W PySem.Builtin PySem.Builtin.ObjectAttr
open PyProof.Rows hiding wpAt wpAt_bind
set_option linter.unusedSectionVars false
set_option maxRecDepth 100000
set_option maxHeartbeats 1000000
set_option linter.unusedVariables false
namespace Mine
variable [aI : Membership Nat Unit]
section
variable {Γ : Fm} {loc : Loc} {own own' : Own} {Q : QV} {QQ : QF}
noncomputable def EvB (Γ : Fm) (loc : Loc) (own : Own) (pos : Pos) (op : BoolOp) (es : List PySem.Expr) (Q : QV) : Prop :=
  ∀ h₀ s, Gd Γ.K h₀ → Rel h₀ Γ.env.locals loc own s.heap → wpAny (model Γ.prog Γ.w) Γ.A (boolOp pos op (evalEach es Γ.env)) (Out h₀ Γ.env.locals s Q) Γ.E s
theorem ev_boolop {op : BoolOp} {es : List PySem.Expr} {pos : Pos} (x : EvB Γ loc own pos op es Q) : Ev Γ loc own (.BoolOp op es pos) Q := fun h₀ s g rel => by
  rw [arm_eval_BoolOp]; exact x h₀ s g rel
theorem evb_last {op : BoolOp} {e : PySem.Expr} {pos : Pos} (x : Ev Γ loc own e Q) : EvB Γ loc own pos op [e] Q := fun h₀ s g rel => x h₀ s g rel
theorem evb_and {e e' : PySem.Expr} {es : List PySem.Expr} {pos : Pos} (x : Ev Γ loc own e fun d loc own => Truth Γ loc own d fun b loc own => if b then EvB Γ loc own pos .And (e' :: es) Q else Q d loc own) : EvB Γ loc own pos .And (e :: e' :: es) Q := fun h₀ s g rel => by
  show wpAny _ _ (eval e Γ.env >>= fun v => standAt pos >>= fun _ => holding [v] (truthy v) >>= fun t => match BoolOp.And, t with | .And, false | .Or, true => pure v | _, _ => boolOp pos .And (evalEach (e' :: es) Γ.env)) _ _ _
  refine wpAny_bind (x.use g rel fun d loc own s1 v p1 r1 v1 q1 => wpAny_bind (wpAny_standAt (wpAny_bind (wpAny_holding (wpAny_mono (q1 h₀ s1 v g r1 v1) (fun b s2 z => ?_) fun _ _ z => z)))))
  obtain ⟨loc2, own2, p2, r2, q2⟩ := z
  cases b
  · exact wpAny_pure ⟨_, _, _, p1.trans p2, r2, v1.mono p2.p, by simpa using q2⟩
  · simp only [if_true] at q2
    exact wpAny_mono (q2 h₀ s2 g r2) (fun _ _ z => z.pers (p1.trans p2)) fun _ _ z => z
theorem ev_mono {e : PySem.Expr} {Q' : QV} (x : Ev Γ loc own e Q) (m : ∀ d loc own, Q d loc own → Q' d loc own) : Ev Γ loc own e Q' := fun h₀ s g rel =>
  wpAny_mono (x h₀ s g rel) (fun _ _ z => by obtain ⟨d, l, o, a, b, c, e⟩ := z; exact ⟨d, l, o, a, b, c, m _ _ _ e⟩) fun _ _ z => z
theorem ev_and2 {e e' : PySem.Expr} {pos : Pos} (x : Ev Γ loc own e fun d loc own => ∃ b, d = .bool b ∧ if b then Ev Γ loc own e' Q else Q (.bool false) loc own) : Ev Γ loc own (.BoolOp .And [e, e'] pos) Q :=
  ev_boolop (evb_and (ev_mono x fun d loc own z => by
    obtain ⟨b, rfl, q⟩ := z
    refine truth_bool ?_
    cases b
    · simpa using q
    · simp only [if_true] at q ⊢; exact evb_last q))
end
theorem signs_nn' (ps : List (Str × Str)) : 0 ≤ signs ps := by rw [← txt_len]; omega
theorem signs_top' {ps : List (Str × Str)} (h : ∀ p ∈ ps, p.1.length ≤ 1000 ∧ p.2.length ≤ 1000) : signs ps ≤ ps.length * 2000 := by
  induction ps with
  | nil => decide
  | cons p r ih =>
    have h1 := h p (.head _)
    have h2 := ih fun x hx => h x (.tail _ hx)
    rw [show p :: r = [p] ++ r from rfl, signs_append, signs_one]
    simp only [List.length_append, List.length_singleton]
    omega
theorem pickL_map' {α β : Type} (f : α → β) (ds : List α) (lo hi st : Option Int) : pickL (ds.map f) lo hi st = (pickL ds lo hi st).map f := by
  unfold pickL
  rw [List.length_map, List.map_filterMap]
  congr 1
  funext i
  rw [List.getElem?_map]
theorem callee_b {K : Frag} {id : String} : Callee K (.builtin id) := .inr (.inl ⟨_, rfl⟩)
theorem callee_t {K : Frag} {T : String} : Callee K (.type T) := .inr (.inr ⟨_, rfl⟩)
theorem callee_k {K : Frag} {f : Value} (h : keepIn K f = true) : Callee K f := .inl h
theorem boot_str : bootBuiltins "str" = some (.type "str") := by kernel_rfl
noncomputable def Fits (ps : List (Str × Str)) : Prop := ∀ p ∈ ps, p.1.length ≤ 1000 ∧ p.2.length ≤ 1000
theorem txt_le' {ps : List (Str × Str)} (h : Fits ps) {k : Nat} (hk : ps.length ≤ k) : (txt ps).length ≤ k * 2000 := by
  have h1 := txt_len ps
  have h2 := signs_top' h
  have : (ps.length : Int) * 2000 ≤ k * 2000 := by omega
  omega
noncomputable def forBodies : List Stmt → List (List Stmt)
  | [] => []
  | .For _ _ b _ _ :: r => b :: forBodies r
  | _ :: r => forBodies r
end Mine

end
section
open PySem PySem.W PySem.Builtin PySem.Builtin.ObjectAttr
open PyProof.Rows hiding wpAt wpAt_bind
set_option linter.unusedSectionVars false
set_option maxRecDepth 100000
set_option maxHeartbeats 1000000
set_option linter.unusedVariables false
namespace Mine
variable [aI : Membership Nat Unit]
noncomputable def Pk (a b : Own) : Prop := ∃ is : List Nat, is.Nodup ∧ pickO is b = a
theorem pickO_succ (is : List Nat) (p : Addr × AObj) (b : Own) : pickO (is.map (· + 1)) (p :: b) = pickO is b := by
  unfold pickO
  rw [List.filterMap_map]
  rfl
theorem Pk.of_sub {a b : Own} (s : a.Sublist b) : Pk a b := by
  induction s with
  | slnil => exact ⟨[], .nil, rfl⟩
  | cons p _ ih =>
    obtain ⟨is, n, e⟩ := ih
    exact ⟨is.map (· + 1), (List.pairwise_map.mpr (n.imp fun h z => h (Nat.succ.inj z))), by rw [pickO_succ, e]⟩
  | cons_cons p _ ih =>
    obtain ⟨is, n, e⟩ := ih
    refine ⟨0 :: is.map (· + 1), List.nodup_cons.mpr ⟨by simp, List.pairwise_map.mpr (n.imp fun h z => h (Nat.succ.inj z))⟩, ?_⟩
    show (p :: b)[0]?.toList ++ _ = _
    rename_i l1 l2 _
    show p :: pickO (is.map (· + 1)) (p :: l2) = _
    rw [pickO_succ, e]
theorem Pk.refl {a : Own} : Pk a a := .of_sub (List.Sublist.refl _)
theorem Pk.mem {a b : Own} (k : Pk a b) : ∀ p ∈ a, p ∈ b := fun p hp => by obtain ⟨is, _, rfl⟩ := k; exact pickO_mem hp
theorem Pk.has {a b : Own} (k : Pk a b) {x : Addr} {o : AObj} (h : HasO x o a) : HasO x o b := .of_mem (k.mem _ h.mem)
section
variable {Γ : Fm} {loc loc1 : Loc} {own own1 : Own} {Q : QV} {QQ : QF}
theorem as_pk {tg : PySem.Expr} {d : Dv} {Q : Loc → Own → Prop} (a : loc1.Sublist loc) (b : Pk own1 own) (x : As Γ loc1 own1 tg d Q) : As Γ loc own tg d Q := fun h₀ s v g rel vr => by
  obtain ⟨is, n, rfl⟩ := b; exact x h₀ s v g (rel.pick n a) vr
theorem exs_pk {sts : List Stmt} (a : loc1.Sublist loc) (b : Pk own1 own) (x : Exs Γ loc1 own1 sts QQ) : Exs Γ loc own sts QQ := fun h₀ s g rel => by
  obtain ⟨is, n, rfl⟩ := b; exact x h₀ s g (rel.pick n a)
end
theorem cmpPair : Cmp dpair 1 := cmpP cmpStr cmpStr
end Mine

end
section
open PySem PySem.W PySem.Builtin PySem.Builtin.ObjectAttr
open PyProof.Rows hiding wpAt wpAt_bind
set_option linter.unusedSectionVars false
set_option maxRecDepth 100000
set_option maxHeartbeats 1000000
set_option linter.unusedVariables false
namespace Mine
variable [aI : Membership Nat Unit]
section
variable {Γ : Fm} {loc : Loc} {own own' : Own} {Q : QV} {QQ : QF}
theorem iter_ne {h : Heap} {i l a : Addr} {k : Nat} {vs : List Value} {n : Nat} (hi : h.IsListIter i l k) (q : h.get? a = some (tupObj vs n)) : a ≠ i := fun z => by
  subst z; obtain ⟨o, ho, hc, _⟩ := hi; rw [ho] at q; cases q; simp at hc
end
end Mine

end
section
open PySem PySem.W PySem.Builtin PySem.Builtin.ObjectAttr
open PyProof.Rows hiding wpAt wpAt_bind
set_option linter.unusedSectionVars false
set_option maxRecDepth 100000
set_option maxHeartbeats 1000000
set_option linter.unusedVariables false
namespace Mine
variable [aI : Membership Nat Unit]
section
variable {Γ : Fm} {loc : Loc} {own own' : Own} {Q : QV} {QQ : QF}
theorem src_acc (hh : Γ.A.handled = none) {tg : PySem.Expr} {it x C d : Addr} {ds : List Dv} (hl : x ≠ it) : Src Γ.prog Γ.w Γ.A tg (.ref it) [it] ds (fun own => HasO x (.acc C d ds) own) (fun k h => h.IsListIter it x k) (fun k _ h => h.IsListIter it x k) where
  mono := fun h => .there h
  keep := fun {k h h'} ⟨o, a, b⟩ q => ⟨o, (q it (.head _)).trans a, b⟩
  there := fun {k h} ⟨o, a, b⟩ c hc => by rcases List.mem_cons.mp hc with rfl | hc; exact ⟨o, a⟩; cases hc
  next := fun {k d h₀ L loc own s E R} hd hp rel ap ho _ kk => by
    obtain ⟨vs, n, hx, r⟩ := rel.ow.at_ _ ho.mem
    obtain ⟨v, hv, vr⟩ := r.get' hd
    refine seq_next hp hx rfl hv fun h' hi hs => ?_
    have pp : Pers s.heap h' := fun a vs n _ q => (hs.2 a fun z => iter_ne hp (z ▸ q) rfl).trans q
    exact kk v _ (vr.mono pp) hi (fun b o n e => (hs.2 b fun z => n (z ▸ .head _)).trans e) pp.st
  stop := fun {h₀ L loc own s E R} hp rel ap ho kk => by
    obtain ⟨vs, n, hx, r⟩ := rel.ow.at_ _ ho.mem
    refine seq_stop hh hp hx rfl (by rw [List.getElem?_eq_none_iff, r.length]; exact Nat.le_refl _) fun h' hs => ?_
    have pp : Pers s.heap h' := fun a vs n _ q => hs a _ (iter_ne hp q) q
    exact kk _ (fun b o n e => hs b o (fun z => n (z ▸ .head _)) e) pp.st
  go := fun {k d v s E R} vr hp kk => by
    obtain ⟨o, ho, hc, hd⟩ := id hp
    exact go_plain ho hc (by decide) (kk s hp (fun _ _ _ e => e) (Pers.st .refl))
theorem it_acc {tg e : PySem.Expr} {Q : List Dv → (Own → Prop) → Loc → Own → Prop} (x : Ev Γ loc own e fun d loc own => ∃ a C c ds, d = .raw (.ref a) ∧ AccK Γ.K C ∧ HasO a (.acc C c ds) own ∧ Q ds (fun own => HasO a (.acc C c ds) own) loc own) : It Γ loc own tg e Q := by
  intro h₀ s g rel
  refine x.use g rel fun d loc own s1 v p1 r1 v1 ⟨a, C, c, ds, hd, H, ha, q⟩ => ?_
  subst hd
  cases v1
  obtain ⟨vs, n, hx, r⟩ := r1.ow.at_ _ ha.mem
  refine acc_iter H (g.kin.keeps r1.ow.keep) hx ?_
  have ex : Ext s1.heap (s1.heap.push { cls := .type "list_iterator", data := .fields #[.ref a, .int 0 0] }) := Ext.push _
  have hne : a ≠ s1.heap.objs.size := Nat.ne_of_lt (Heap.lt_size hx)
  exact ⟨⟨inferInstance⟩, _, ds, _, _, _, loc, own, .refl, p1.trans (Ext.pers ex).st, r1.ext ex, apart_new r1, src_acc Γ.hh hne, ⟨_, Heap.get?_push_size _ rfl, rfl, rfl⟩, fun hp rr => wpAny_pyIter_listiter hp rr, ha, q⟩
end
end Mine

end
section
open PySem PySem.W PySem.Builtin PySem.Builtin.ObjectAttr
open PyProof.Rows hiding wpAt wpAt_bind
set_option linter.unusedSectionVars false
set_option maxRecDepth 100000
set_option maxHeartbeats 1000000
set_option linter.unusedVariables false
namespace Mine
variable [aI : Membership Nat Unit]
noncomputable def plainVal : PySem.Expr → Bool
  | .ListComp .. => false
  | .SetComp .. => false
  | .DictComp .. => false
  | _ => true
theorem swaps_plain {e : PySem.Expr} {t : Option PySem.Expr} {line : Nat} {env : Env} (h : plainVal e = true) : swapsWith e t line env = pure false := by
  cases e <;> first | rfl | cases h
noncomputable def ifElse : List Stmt → List Stmt
  | .If _ _ b _ :: _ => b
  | _ => []
theorem Pk.head {a b r : Own} (is : List Nat) (hi : is.Nodup) (hb : ∀ i ∈ is, i < b.length) (e : pickO is b = a) : Pk (a ++ r) (b ++ r) := by
  refine ⟨is ++ (List.range r.length).map (· + b.length), ?_, ?_⟩
  · rw [List.nodup_append]
    refine ⟨hi, ?_, ?_⟩
    · rw [List.nodup_iff_pairwise_ne]
      rw [List.pairwise_map]
      exact List.nodup_range.imp fun h z => h (Nat.add_right_cancel z)
    · intro x hx y hy z
      obtain ⟨q, _, rfl⟩ := List.mem_map.mp hy
      have := hb x hx
      omega
  · unfold pickO at e ⊢
    rw [List.filterMap_append]
    congr 1
    · rw [← e]
      refine fm_congr fun i hx => ?_
      rw [List.getElem?_append_left (hb i hx)]
    · rw [List.filterMap_map]
      have : ∀ r : Own, (List.range r.length).filterMap (fun i => r[i]?) = r := fun r => by
        induction r with
        | nil => rfl
        | cons a r ih =>
          rw [List.length_cons, List.range_succ_eq_map, List.filterMap_cons, List.filterMap_map]
          show a :: _ = _
          congr 1
      refine Eq.trans (fm_congr fun i hx => ?_) (this r)
      show (b ++ r)[i + b.length]? = r[i]?
      rw [List.getElem?_append_right (Nat.le_add_left _ _), Nat.add_sub_cancel]
end Mine

end
section
open PySem PySem.W PySem.Builtin PySem.Builtin.ObjectAttr
open PyProof.Rows hiding wpAt wpAt_bind
open PySem.SeqAt
set_option linter.unusedSectionVars false
set_option maxRecDepth 100000
set_option maxHeartbeats 1000000
set_option linter.unusedVariables false
namespace Mine
variable [aI : Membership Nat Unit]
section
variable {Γ : Fm} {loc : Loc} {own own' : Own} {Q : QV} {QQ : QF}
theorem op_in_strs {l : Addr} {ys : List Str} {k : Str} (hl : HasO l (.list (ys.map .str)) own) (q : Q (.bool (ys.any (· == k))) loc own) : Op2 Γ loc own (.str k) (.raw (.ref l)) (compareOp .In) Q := by
  intro h₀ s v u g rel x y
  cases x; cases y
  obtain ⟨vs, il, r, e⟩ := list_at hl rel
  exact in_list_strs il (vrs_strs r) (out_same rel rfl (.bool _) q)
end
end Mine

end
section
open PySem PySem.W PySem.Builtin PySem.Builtin.ObjectAttr
open PyProof.Rows hiding wpAt wpAt_bind
set_option linter.unusedSectionVars false
set_option maxRecDepth 100000
set_option maxHeartbeats 1000000
set_option linter.unusedVariables false
namespace Mine
variable [aI : Membership Nat Unit]
noncomputable def mk0 (t : Addr) (p : Addr × Addr) : AObj := if p.2 = t then .any (fun o => o = tabObj #[]) else .tab
theorem mk0_ok {t : Addr} {tabs : List (Addr × Addr)} : ∀ p ∈ tabs, ∀ h : Heap, h.get? p.2 = some (tabObj #[]) → OR h p.2 (mk0 t p) := fun p _ h e => by
  unfold mk0
  split
  · exact ⟨_, e, rfl, fun vs n q => by simp [tabObj, tupObj] at q⟩
  · exact ⟨#[], e, trivial⟩
section
variable {Γ : Fm} {loc : Loc} {own own' : Own} {Q : QV} {QQ : QF}
end
end Mine

end
section
open PySem PySem.W PySem.Builtin PySem.Builtin.ObjectAttr
open PyProof.Rows hiding wpAt wpAt_bind
set_option linter.unusedSectionVars false
set_option maxRecDepth 100000
set_option maxHeartbeats 1000000
set_option linter.unusedVariables false
namespace Mine
variable [aI : Membership Nat Unit]
noncomputable abbrev frs (l : List Env) : List Addr := l.filterMap (·.frame)
noncomputable def OuterOk : List Env → Heap → Prop
  | [], _ => True
  | env :: l, h => env.scope.kind ≠ .module ∧ (∃ L o es n, env.frame = some L ∧ h.get? L = some o ∧ o.data = .dict es n) ∧ OuterOk l h
theorem OuterOk.ext {h h' : Heap} (k : ∀ b o, h.get? b = some o → h'.get? b = some o) : ∀ {l : List Env}, OuterOk l h → OuterOk l h'
  | [], _ => trivial
  | _ :: _, ⟨a, ⟨L, o, es, n, b, c, d⟩, r⟩ => ⟨a, ⟨L, o, es, n, b, k _ _ c, d⟩, OuterOk.ext k r⟩
theorem OuterOk.frames {h h' B : Heap} (k : h.UpToSlots h') : ∀ {l : List Env}, OuterOk l h → (∀ b ∈ frs l, B.get? b = none) → h'.FunFrames B l
  | [], _, _ => trivial
  | env :: l, ⟨a, ⟨L, o, es, n, b, c, d⟩, r⟩, hb => by
    obtain ⟨sl, hs⟩ := k L o c fun vs z => by rw [d] at z; cases z
    refine ⟨a, ⟨L, _, b, hb L (by simp [b]), hs, fun vs z => ?_⟩, OuterOk.frames k r fun x hx => hb x ?_⟩
    · have : o.data = .fields vs := z
      rw [d] at this; cases this
    · show x ∈ List.filterMap _ (env :: l)
      rw [List.filterMap_cons, b]
      exact .tail _ hx
noncomputable def Flies (l : List Env) (hR : Heap) (a : Addr) (cls : String) (h : Heap) : Prop :=
  ∃ B a0, (∀ b o, hR.get? b = some o → b ∉ frs l → B.get? b = some o) ∧ Heap.FlyingW B l a (.type cls) a0 h ∧ hR.UpToSlots h
theorem hide1_upTo {h h' : Heap} {L : Addr} (k : h.UpToSlots h') : (hideAll h [L]).UpToSlots h' := fun b o e n => k b o (of_hideAll _ e) n
theorem leave_exc {M : Model} {A : Around} {E : Value → Shared → Prop} {s : Shared} {env : Env} {outer : List Env} {hR : Heap} {L a : Addr} {cls : String} {Q : Unit → Shared → Prop} (hfr : A.frames = some (env :: outer)) (hf : env.frame = some L) (O : OuterOk (env :: outer) hR)
    (x : Heap.NewExc hR s.heap a cls ∨ Flies (env :: outer) hR a cls s.heap) (q : ∀ h', Flies outer (hideAll hR [L]) a cls h' → Q () { s with heap := h' }) : wpAny M A (leaving env (.ref a)) Q E s := by
  have hfs : frs (env :: outer) = L :: frs outer := by show List.filterMap _ (env :: outer) = _; rw [List.filterMap_cons, hf]
  rcases x with x | ⟨B, a0, k1, k2, k3⟩
  · obtain ⟨ob, tp, he, hcls, hd⟩ := x.there
    have fr : s.heap.FunFrames (hideAll hR (frs (env :: outer))) (env :: outer) := OuterOk.frames (Heap.UpToSlots.of_keeps x.keeps) O fun b hb => hideAll_none _ hb
    have hen : (hideAll hR (frs (env :: outer))).get? a = none := by
      cases q : (hideAll hR (frs (env :: outer))).get? a with
      | none => rfl
      | some o => have := of_hideAll _ q; rw [x.new] at this; cases this
    refine wpAny_leaving_firstW (a0 := tp) hfr fr hf he (fun b o hb => x.keeps b o (of_hideAll _ hb)) hen hd rfl rfl fun h' hL => q h' ?_
    obtain ⟨j1, ⟨_, _, j2⟩, j3, j4⟩ := hL
    refine ⟨_, tp, fun b o e n => ?_, ⟨j1, hen, j2, by rw [← hcls]; exact j3⟩, hide1_upTo ((Heap.UpToSlots.of_keeps x.keeps).trans j4)⟩
    refine hideAll_get _ (of_hideAll _ e) ?_
    rw [hfs]
    intro z
    rcases List.mem_cons.mp z with rfl | z
    · rw [hideAll_none _ (.head _)] at e; cases e
    · exact n z
  · refine wpAny_leaves_onW hfr hf k2 fun h' x1 x2 => q h' ⟨B, a0, fun b o e n => k1 b o (of_hideAll _ e) ?_, x1, hide1_upTo (k3.trans x2)⟩
    rw [hfs]
    intro z
    rcases List.mem_cons.mp z with rfl | z
    · rw [hideAll_none _ (.head _)] at e; cases e
    · exact n z
noncomputable def CallX (prog : Program) (w : World) (K : Frag) (A : Around) (outer : List Env) (own : Own) (f : Value) (ds : List Dv) (X : String → Own → Prop) : Prop :=
  ∀ h₀ s vs, Gd K h₀ → OwnOk h₀ own s.heap → VRs s.heap vs ds → OuterOk outer h₀ → codeAny (model prog w) A (.call f ⟨vs, []⟩)
    (fun r s' => ∃ a hR cls own', r = .error (.ref a) ∧ Stays s { s' with heap := hR } ∧ OwnOk h₀ own' hR ∧ Flies outer hR a cls s'.heap ∧ X cls own') s
noncomputable def XOut (Γ : Fm) (outer : List Env) (nw : Bool) (h₀ : Heap) (s : Shared) (X : String → Loc → Own → Prop) (e : Value) (s' : Shared) : Prop :=
  ∃ a hR cls loc' own', e = .ref a ∧ Stays s { s' with heap := hR } ∧ Rel h₀ Γ.env.locals loc' own' hR ∧ ((nw = true ∧ Heap.NewExc hR s'.heap a cls) ∨ Flies (Γ.env :: outer) hR a cls s'.heap) ∧ X cls loc' own'
noncomputable def ExsX (Γ : Fm) (outer : List Env) (nw : Bool) (loc : Loc) (own : Own) (sts : List Stmt) (X : String → Loc → Own → Prop) : Prop :=
  ∀ h₀ s, Gd Γ.K h₀ → Rel h₀ Γ.env.locals loc own s.heap → OuterOk outer h₀ → wpAny (model Γ.prog Γ.w) Γ.A (execs sts Γ.env) (fun _ _ => False) (XOut Γ outer nw h₀ s X) s
theorem OwnOk.hide1 {h₀ h : Heap} {L : Addr} {own : Own} (x : OwnOk h₀ own h) (hL : h₀.get? L = none) (ho : ∀ p ∈ own, p.1 ≠ L) (k : Pers h (hideAll h [L])) : OwnOk h₀ own (hideAll h [L]) :=
  ⟨fun b o e => hideAll_get _ (x.keep b o e) (fun z => by rw [List.mem_singleton.mp z, hL] at e; cases e),
   fun p hp => (x.at_ p hp).mono k (by
    have hn : p.1 ∉ [L] := fun z => ho p hp (List.mem_singleton.mp z)
    obtain ⟨o, e, _⟩ := (x.at_ p hp).some
    rw [e]; exact hideAll_get _ e hn), x.off, x.nd⟩
theorem ns_notTup {h : Heap} {L : Addr} {m : Str → Option Value} (n : h.Ns L m) : ∀ vs k, h.get? L ≠ some (tupObj vs k) := fun vs k z => by
  obtain ⟨o, es, ep, e, d, _⟩ := n
  rw [z] at e; cases e; cases d
theorem Pers.hide1 {h : Heap} {L : Addr} (n : ∀ vs k, h.get? L ≠ some (tupObj vs k)) : Pers h (hideAll h [L]) := fun b vs k _ e => hideAll_get _ e fun z => by
  rw [List.mem_singleton.mp z] at e; exact n vs k e
theorem callX_def {prog : Program} {w : World} {K : Frag} {A : Around} {own : Own} {outer : List Env} {f : Addr} {ds : List Dv} {X : String → Own → Prop} {fd : FuncData} {body : List Stmt} {loc : Loc} {oc : Value} {od : Option Addr} {osl : Array (Option Value)} {D U : Nat}
    (hlim : ∀ h, K.In h → h.NoLimit) (hK : K.lookup f = some ⟨oc, od, .func fd, osl⟩) (hcd : codeIn K fd.code fd.qualname = true) (hbody : fd.body = .stmts body) (hroom : D < recursionLimit)
    (hcell : ∀ x ∈ fd.scope.names, x.2 ≠ .cell) (hp : Params K fd ds loc) (hnd : (loc.map (·.1)).Nodup)
    (hh : A.handled = none) (hD : A.depth ≤ D) (hU : A.units ≤ U) (hk : fd.scope.kind = .function) (hg : fd.globals = mainGlobals) (hb : fd.builtins = builtinsNs) (hco : fd.scope.isCoroutine = false) (hgen : fd.scope.isGenerator = false)
    (hfr : A.frames = some outer)
    {nw : Bool} (x : ∀ L, ExsX (fnFm prog w K A fd f L D U hh hD hU hk hg hb) outer nw loc own body fun cls _ own => X cls own) : CallX prog w K A outer own (.ref f) ds X := by
  intro h₀ s vs g ok vr oo
  have XK : K.In s.heap := g.kin.keeps ok.keep
  obtain ⟨binds, bt, bl, bv⟩ := hp s vs XK vr
  refine codeAny_call_def (Nat.lt_of_le_of_lt hD hroom) (XK _ _ hK) rfl (hlim _ XK) (codeRec_of XK hcd) hbody bt hcell bl (fun h₁ ns ex => ?_) hco hgen hk
  have fr : h₀.get? s.heap.objs.size = none := ok.keep.none (get_size_none _)
  have rel : Rel h₀ s.heap.objs.size loc own h₁ := by
    refine ⟨ok.ext ex, ⟨⟨_, ns, fun y d hy => ?_⟩, fr, fun p hp e => ?_, hnd⟩⟩
    · obtain ⟨v, e, r⟩ := bv y d hy; exact ⟨v, e, r.mono (Ext.pers ex)⟩
    · obtain ⟨ob, q, _⟩ := (ok.at_ p hp).some
      rw [e, get_size_none] at q; cases q
  refine wpAny_mono (x s.heap.objs.size h₀ { s with heap := h₁, toks := s.toks + binds.length } g rel oo) (fun fl s' z => z.elim) fun e s' ⟨a, hR, cls, loc', own', he, p, r, hx, q⟩ => ?_
  subst he
  have p' : Stays s { s' with heap := hR } := Stays.trans (b := { s with heap := h₁, toks := s.toks + binds.length }) (Ext.pers ex).st p
  obtain ⟨m, n, _⟩ := r.lc.ns
  have o2 : OuterOk (callEnv fd s.heap.objs.size f :: outer) hR := by
    obtain ⟨o, es, ep, e, d, _⟩ := n
    exact ⟨(by show fd.scope.kind ≠ _; rw [hk]; intro z; cases z), ⟨_, o, es, ep, rfl, e, d⟩, OuterOk.ext r.ow.keep oo⟩
  have hx : Heap.NewExc hR s'.heap a cls ∨ Flies (callEnv fd s.heap.objs.size f :: outer) hR a cls s'.heap := hx.elim (fun z => .inl z.2) .inr
  refine leave_exc (L := s.heap.objs.size) (by
    show (A.deeper (callEnv fd s.heap.objs.size f)).frames = _
    exact Around.frames_deeper hfr) rfl o2 hx fun h' fl => ?_
  have ph := Pers.hide1 (ns_notTup n)
  exact ⟨a, _, cls, own', rfl, p'.trans (Pers.st (s := { s' with heap := hR }) (s' := { s' with heap := hideAll hR [s.heap.objs.size] }) ph), r.ow.hide1 fr r.lc.off ph, fl, q⟩
end Mine

end
section
open PySem PySem.W PySem.Builtin PySem.Builtin.ObjectAttr
open PyProof.Rows hiding wpAt wpAt_bind
set_option linter.unusedSectionVars false
set_option maxRecDepth 100000
set_option maxHeartbeats 1000000
set_option linter.unusedVariables false
namespace Mine
variable [aI : Membership Nat Unit]
theorem XOut.pers {Γ : Fm} {outer : List Env} {nw : Bool} {h₀ : Heap} {s s1 : Shared} {X : String → Loc → Own → Prop} {e : Value} {s' : Shared} (p : Stays s s1) (x : XOut Γ outer nw h₀ s1 X e s') : XOut Γ outer nw h₀ s X e s' := by
  obtain ⟨a, hR, cls, loc', own', e, q, r⟩ := x
  exact ⟨a, hR, cls, loc', own', e, p.trans q, r⟩
noncomputable def ExX (Γ : Fm) (outer : List Env) (nw : Bool) (loc : Loc) (own : Own) (st : Stmt) (X : String → Loc → Own → Prop) : Prop :=
  ∀ h₀ s, Gd Γ.K h₀ → Rel h₀ Γ.env.locals loc own s.heap → OuterOk outer h₀ → wpAny (model Γ.prog Γ.w) Γ.A (exec st Γ.env) (fun _ _ => False) (XOut Γ outer nw h₀ s X) s
section
variable {Γ : Fm} {outer : List Env} {loc : Loc} {own : Own} {Q : QV} {QQ : QF} {X : String → Loc → Own → Prop} {nw : Bool}
theorem noE {α : Type} {M : Model} {A : Around} {m : Sem α} {R : α → Shared → Prop} {E E' : Value → Shared → Prop} {s : Shared} (hE : E = fun _ _ => False) (x : wpAny M A m R E s) : wpAny M A m R E' s :=
  wpAny_mono x (fun _ _ z => z) fun _ _ z => by rw [hE] at z; exact z.elim
theorem exsX_here {st : Stmt} {rest : List Stmt} (x : ExX Γ outer nw loc own st X) : ExsX Γ outer nw loc own (st :: rest) X := by
  intro h₀ s g rel oo
  exact wpAny_execs_cons (wpAny_mono (x h₀ s g rel oo) (fun _ _ z => z.elim) fun _ _ z => z)
theorem exsX_next {st : Stmt} {rest : List Stmt} (hE : Γ.E = fun _ _ => False) (x : Ex Γ loc own st fun fl loc own => fl = .next ∧ ExsX Γ outer nw loc own rest X) : ExsX Γ outer nw loc own (st :: rest) X := by
  intro h₀ s g rel oo
  refine wpAny_execs_cons (noE hE (wpAny_mono (x h₀ s g rel) (fun f s1 ⟨a, loc1, own1, p, r, fr, e, q⟩ => ?_) fun _ _ z => z))
  subst e
  cases fr
  exact wpAny_mono (q h₀ s1 g r oo) (fun _ _ z => z) fun e s' z => XOut.pers p z
theorem exX_if {t : PySem.Expr} {a b : List Stmt} {pos : Pos} (hE : Γ.E = fun _ _ => False) (x : Tst Γ loc own t fun c loc own => ExsX Γ outer nw loc own (if c then a else b) X) : ExX Γ outer nw loc own (.If t a b pos) X := by
  intro h₀ s g rel oo
  refine wpAny_If (noE hE (x.use g rel fun c loc own s1 p r q => ?_))
  have z := wpAny_mono (q h₀ s1 g r oo) (fun _ _ z => z) fun e s' z => XOut.pers p z
  cases c <;> exact z
theorem exX_meth {o : PySem.Expr} {name : Str} {apos pos p : Pos} {es : List PySem.Expr} {pl : Sem Bool} (hE : Γ.E = fun _ _ => False)
    (x : Ev Γ loc own o fun d loc own => ∃ (a C dd f : Addr) (ds : List Dv) (l : List (Str × Dv)), d = .raw (.ref a) ∧ AccK Γ.K C ∧ HasO a (.acc C dd ds) own ∧ HasO dd (.idict l) own ∧ l.lookup name = none ∧
      findIn Γ.K (.ref C) name = some (some (.ref f)) ∧ typeIn Γ.K (.ref f) = some (.type "function") ∧ keepIn Γ.K (.ref f) = true ∧
      EvL Γ loc own pos es fun args loc own => (∀ q ∈ own, q.1 ≠ Γ.env.locals) → CallX Γ.prog Γ.w Γ.K Γ.A (Γ.env :: outer) own (.ref f) (.raw (.ref a) :: args) fun cls own => X cls loc own)
    (hp : plainArgs es = true) (hne : es ≠ []) (hf : Γ.env.frame = some Γ.env.locals)
    (he : eval (.Call (.Attribute o name apos) es [] pos) Γ.env = (do
      let ov ← eval o Γ.env
      standAt apos.atName
      let (f, first) ← holding [ov] (getMethod ov name pl)
      callWith pos f first (backTo pos (starEach es Γ.env)) []) := by rfl)
    (hi : interactive Γ.env = false := by rfl) (hs : swapsWith (.Call (.Attribute o name apos) es [] pos) none p.line Γ.env = pure false := by rfl) : ExX Γ outer nw loc own (.Expr (.Call (.Attribute o name apos) es [] pos) p) X := by
  intro h₀ s g rel oo
  rw [exec_Expr Γ.env _ p hi hs]
  refine wpAny_bind (wpAny_standAt (wpAny_bind ?_))
  refine PyProof.Rows.MethodCall_ (noE hE (x.use g rel fun d loc own s1 v p1 r1 v1 ⟨a, C, dd, f, ds, l, e1, H, ha, hd, hn, hf1, ht, hk, q⟩ => ?_)) he
  subst e1
  cases v1
  obtain ⟨vs, n, ho, r⟩ := r1.ow.at_ _ ha.mem
  refine getMethod_inst (g.kin.keeps r1.ow.keep) ho rfl rfl (r1.ow.at_ _ hd.mem) hn H.ga canon_list_getattribute H.gt hf1 ht rfl ?_
  cases es with
  | nil => exact absurd rfl hne
  | cons e r =>
    refine callWith_K g.kin hk (first := [.ref a]) (noE hE (q.use g r1 fun ds2 loc own s2 vs2 p2 r2 v2 q2 => ⟨g.kin.keeps r2.ow.keep, ?_⟩)) (plain_head (env := Γ.env) hp) (plain_any (env := Γ.env) (pos := pos) (plain_tail hp))
    obtain ⟨ok, ex⟩ := r2.ow.hide
    obtain ⟨m, ⟨oL, les, ep, hL, rr⟩, nn⟩ := r2.lc.ns
    have nL : Γ.env.locals ∉ own.map (·.1) := fun z => by
      obtain ⟨p, hp, e⟩ := List.mem_map.mp z
      exact r2.lc.off p hp e
    have hLg := hideAll_get (own.map (·.1)) hL nL
    have oo2 : OuterOk (Γ.env :: outer) (hideAll s2.heap (own.map (·.1))) :=
      ⟨(by rw [Γ.hk]; intro z; cases z), ⟨_, oL, les, ep, hf, hLg, rr.1⟩, OuterOk.ext ex oo⟩
    refine wpAny_call (codeAny_mono (q2 r2.lc.off _ s2 (.ref a :: vs2) (g.ext ex) ok (.cons (.raw _) v2) oo2) fun res s' ⟨a3, hR, cls, own', er, p3, o3, fl, qx⟩ => ?_)
    subst er
    refine ⟨a3, hR, cls, loc, own', rfl, (p1.trans p2).trans p3, ⟨⟨fun b o e => o3.keep b o (ex b o e), o3.at_, fun p hp => ex.none (o3.off p hp), o3.nd⟩, ?_⟩, .inr fl, qx⟩
    refine ⟨⟨m, ⟨oL, les, ep, o3.keep _ _ hLg, rr⟩, fun x d hx => ?_⟩, r2.lc.fresh, fun p hp e => ?_, r2.lc.nd⟩
    · obtain ⟨v, e, vr⟩ := nn x d hx; exact ⟨v, e, vr.mono p3.p⟩
    · have := o3.off p hp; rw [e, hLg] at this; cases this
end
theorem callX_fn {prog : Program} {w : World} {K : Frag} {A : Around} {outer : List Env} {own : Own} {f : Addr} {ds ddefs : List Dv} {X : String → Own → Prop} {names : List Str} (H : DefK K f names) (loc : Loc) (defs : List Value)
    (hlim : ∀ h, K.In h → h.NoLimit) (hlen : names.length = ds.length + ddefs.length) (hloc : names.zip (ds ++ ddefs) = loc) (hdef : ∀ h, VRs h defs ddefs)
    (e : ∀ S vs, vs.length = ds.length → peek K S (bindArgs (fnOf K f) ⟨vs, []⟩) = some (names.zip (vs ++ defs)))
    (hh : A.handled = none) (hD : A.depth ≤ 900) (hU : A.units ≤ 9000) (hfr : A.frames = some outer) {nw : Bool}
    (x : ∀ L, ExsX (dfFm prog w K A f L names H hh hD hU) outer nw loc own (bodyOf (fnOf K f)) fun cls _ own => X cls own) : CallX prog w K A outer own (.ref f) ds X := by
  obtain ⟨c, d, sl, hK⟩ := H.obj
  subst hloc
  exact callX_def hlim hK H.code H.body (by decide) H.cell (params_of names defs ddefs hdef H.nd hlen e H.loc) (by
    rw [List.map_fst_zip (by rw [List.length_append]; omega)]; exact H.nd) hh hD hU H.kind H.glb H.blt H.co H.gen hfr x
end Mine

end
section
open PySem PySem.W PySem.Builtin PySem.Builtin.ObjectAttr
open PyProof.Rows hiding wpAt wpAt_bind
set_option linter.unusedSectionVars false
set_option maxRecDepth 100000
set_option maxHeartbeats 1000000
set_option linter.unusedVariables false
namespace Mine
variable [aI : Membership Nat Unit]
theorem Rel.slots {h₀ hR h' : Heap} {L : Addr} {loc : Loc} {own : Own} (r : Rel h₀ L loc own hR) (k : ∀ b o, hR.get? b = some o → b ≠ L → h'.get? b = some o) (u : hR.UpToSlots h') : Rel h₀ L loc own h' ∧ Pers hR h' := by
  obtain ⟨m, n, v⟩ := r.lc.ns
  have p : Pers hR h' := fun b vs j _ e => k b _ e fun z => by rw [z] at e; exact ns_notTup n vs j e
  refine ⟨⟨⟨fun b o e => k b o (r.ow.keep b o e) (fun z => by rw [z, r.lc.fresh] at e; cases e), fun q hq => (r.ow.at_ q hq).mono p ?_, r.ow.off, r.ow.nd⟩, ⟨⟨m, u.ns n, fun x d hx => ?_⟩, r.lc.fresh, r.lc.off, r.lc.nd⟩⟩, p⟩
  · obtain ⟨o, e, _⟩ := (r.ow.at_ q hq).some
    rw [e]
    exact k _ _ e (r.lc.off q hq)
  · obtain ⟨w, e, vr⟩ := v x d hx
    exact ⟨w, e, vr.mono p⟩
theorem store_any {M : Model} {A : Around} {E : Value → Shared → Prop} {env : Env} {x : Str} {d : Dv} {v : Value} {loc loc' : Loc} {own : Own} {h₀ : Heap} {s : Shared} {R : Unit → Shared → Prop} (hk : env.scope.kind = .function) (rel : Rel h₀ env.locals loc own s.heap) (hl : env.kindOf x = some .local) (u : SetL x d loc loc') (vr : VR s.heap v d)
    (k : ∀ s', Stays s s' → Rel h₀ env.locals loc' own s'.heap → R () s') : wpAny M A (storeName env x v) R E s := by
  obtain ⟨m, n, e⟩ := rel.lc.ns
  refine wpAny_storeName_local hl n (fun h' n' s' => k _ ?_ (rel.set u e n' s' vr)) (by rw [hk]; rfl)
  exact (Chg.mk (a := env.locals) (fun b hb => s'.2 b hb) (let ⟨o, es, n, a, b, _⟩ := n; ⟨o, a, fun vs n e => by rw [e] at b; cases b⟩)).pers.st
theorem hexc_KeyError : isSubtype (.type "KeyError") (.type "BaseException") = pure true := by rw [isSubtype_type]; kernel_rfl
theorem hexc_TypeError : isSubtype (.type "TypeError") (.type "BaseException") = pure true := by rw [isSubtype_type]; kernel_rfl
theorem hnt_KeyError : isSubtype (.type ((Manifest.find? "KeyError").elim "type" fun x => x.metatype)) (.type "tuple") = pure false := by rw [isSubtype_type]; kernel_rfl
theorem hnt_TypeError : isSubtype (.type ((Manifest.find? "TypeError").elim "type" fun x => x.metatype)) (.type "tuple") = pure false := by rw [isSubtype_type]; kernel_rfl
theorem hsub_KK : isSubtype (.type "KeyError") (.type "KeyError") = pure true := by rw [isSubtype_type]; kernel_rfl
theorem hsub_TK : isSubtype (.type "TypeError") (.type "KeyError") = pure false := by rw [isSubtype_type]; kernel_rfl
theorem hsub_TT : isSubtype (.type "TypeError") (.type "TypeError") = pure true := by rw [isSubtype_type]; kernel_rfl
theorem boot_KeyError : bootBuiltins "KeyError" = some (.type "KeyError") := by kernel_rfl
theorem boot_TypeError : bootBuiltins "TypeError" = some (.type "TypeError") := by kernel_rfl
section
variable {Γ : Fm} {loc : Loc} {own : Own} {Q : QV} {QQ : QF} {X : String → Loc → Own → Prop}
theorem name_any {A : Around} {E : Value → Shared → Prop} {h₀ : Heap} {s : Shared} {x : Str} {pos : Pos} {v : Value} {R : Value → Shared → Prop} (g : Gd Γ.K h₀) (rel : Rel h₀ Γ.env.locals loc own s.heap) (hl : Γ.env.kindOf x = some .globalImplicit) (hd : (x == ("__debug__" : Str)) = false)
    (e : nsIn Γ.K mainGlobals x = some none) (hn : x ≠ "__name__") (hv : bootBuiltins x = some v) (q : R v s) : wpAny (model Γ.prog Γ.w) A (eval (.Name x pos) Γ.env) R E s := by
  obtain ⟨mg, G⟩ := g.glb
  obtain ⟨mb, B, BB⟩ := g.blt
  exact Calls.Name_function_global Γ.hk hl (Calls.loadGlobal_builtin (Γ.hg ▸ G.keeps rel.ow.keep) (mg_none_of g.kin G e) (Γ.hb ▸ B.keeps rel.ow.keep) ((BB x hn).trans hv) q) hd
theorem ex_try2 {body : List Stmt} {x v1 v2 : Str} {k1 k2 : Nat} {pos n1 n2 c1 c2 a1 a2 t1 t2 e1 e2 : Pos} (hl : Γ.env.kindOf x = some .local) (hk1 : Γ.env.kindOf "KeyError" = some .globalImplicit) (hk2 : Γ.env.kindOf "TypeError" = some .globalImplicit)
    (hg1 : nsIn Γ.K mainGlobals "KeyError" = some none) (hg2 : nsIn Γ.K mainGlobals "TypeError" = some none) (hfr : Γ.A.frames = some [Γ.env]) (hf : Γ.env.frame = some Γ.env.locals)
    (hs1 : swapsWith (.Constant (.str v1) k1 c1) (some (.Name x t1)) a1.line Γ.env = pure false) (hs2 : swapsWith (.Constant (.str v2) k2 c2) (some (.Name x t2)) a2.line Γ.env = pure false)
    (b : ExsX Γ [] false loc own body X)
    (q : ∀ cls loc own, X cls loc own → (cls = "KeyError" ∧ ∃ loc', SetL x (.str v1) loc loc' ∧ QQ .next loc' own) ∨ (cls = "TypeError" ∧ ∃ loc', SetL x (.str v2) loc loc' ∧ QQ .next loc' own)) :
    Ex Γ loc own (.Try body [.ExceptHandler (some (.Name "KeyError" n1)) none [.Assign [.Name x t1] (.Constant (.str v1) k1 c1) a1] e1, .ExceptHandler (some (.Name "TypeError" n2)) none [.Assign [.Name x t2] (.Constant (.str v2) k2 c2) a2] e2] [] [] pos) QQ := by
  intro h₀ s g rel
  refine wpAny_Try_except (wpAny_mono (b h₀ s g rel trivial) (fun _ _ z => z.elim) fun e s1 ⟨a, hR, cls, loc1, own1, he, p1, r1, hx, q1⟩ => ?_)
  subst he
  rcases hx with ⟨z, _⟩ | ⟨B, a0, kB, fl, up⟩
  · cases z
  refine wpAny_looks_onW hfr hf fl fun h2 held up2 => wpAny_landsW held fun h3 fl3 up3 => ?_
  have hfs : frs [Γ.env] = [Γ.env.locals] := by show List.filterMap _ [Γ.env] = _; rw [List.filterMap_cons, hf]; rfl
  have rr : ∀ h, Heap.FlyingW B [Γ.env] a (.type cls) a0 h → hR.UpToSlots h → Rel h₀ Γ.env.locals loc1 own1 h ∧ Pers hR h := fun h f u => r1.slots (fun b o e n => f.1 b o (kB b o e (by rw [hfs]; exact fun z => n (List.mem_singleton.mp z)))) u
  have up3' := (up.trans up2).trans up3
  obtain ⟨r3, p3⟩ := rr h3 fl3 up3'
  obtain ⟨ob, hob, hobc⟩ := fl3.there
  have fin : ∀ (A' : Around) (E' : Value → Shared → Prop) (v : Str) (k : Nat) (c t a' : Pos) (sx : Shared) (b0 : Heap.FlyingW B [Γ.env] a (.type cls) a0 sx.heap) (b1 : hR.UpToSlots sx.heap) (b2 : sx.os = s1.os) (b3 : sx.gens = s1.gens) (hs : swapsWith (.Constant (.str v) k c) (some (.Name x t)) a'.line Γ.env = pure false)
      (qq : ∃ loc', SetL x (.str v) loc1 loc' ∧ QQ .next loc' own1),
      wpAny (model Γ.prog Γ.w) A' (execs [.Assign [.Name x t] (.Constant (.str v) k c) a'] Γ.env) (OutF h₀ Γ.env.locals s QQ) E' sx := fun A' E' v k c t a' sx b0 b1 b2 b3 hs ⟨loc', u, qq⟩ => by
    obtain ⟨rx, px⟩ := rr sx.heap b0 b1
    refine wpAny_execs_cons (wpAny_Assign_Name (Calls.Constant_str ?_) hs)
    refine store_any (s := { sx with toks := sx.toks + 1 }) Γ.hk rx hl u (.str _ _) fun s4 p4 r4 => ?_
    refine wpAny_execs_nil ⟨_, _, _, p1.trans (Stays.trans (b := sx) ⟨px, b2, fun z => b3 ▸ z⟩ (Stays.trans (b := { sx with toks := sx.toks + 1 }) ⟨Pers.refl, rfl, id⟩ p4)), r4, .next, qq⟩
  rcases q cls loc1 own1 q1 with ⟨rfl, qq⟩ | ⟨rfl, qq⟩
  · refine wpAny_handleBy_builtin (X := "KeyError") (T := "KeyError") (b := true) hexc_KeyError hnt_KeyError hsub_KK (name_any (s := { s1 with heap := h3 }) g r3 hk1 (by decide +kernel) hg1 (by decide +kernel) boot_KeyError ⟨rfl, ⟨ob, hob, hobc⟩, ?_⟩)
    exact lands_againW fl3 fun h4 fl4 up4 => fin _ _ _ _ _ _ _ _ fl4 (up3'.trans up4) rfl rfl hs1 qq
  · refine wpAny_handleBy_builtin (X := "TypeError") (T := "KeyError") (b := false) hexc_KeyError hnt_KeyError hsub_TK (name_any (s := { s1 with heap := h3 }) g r3 hk1 (by decide +kernel) hg1 (by decide +kernel) boot_KeyError ⟨rfl, ⟨ob, hob, hobc⟩, ?_⟩)
    rw [if_neg (by decide)]
    refine wpAny_handleBy_builtin (X := "TypeError") (T := "TypeError") (b := true) hexc_TypeError hnt_TypeError hsub_TT (name_any (s := { s1 with heap := h3 }) g r3 hk2 (by decide +kernel) hg2 (by decide +kernel) boot_TypeError ⟨rfl, ⟨ob, hob, hobc⟩, ?_⟩)
    exact lands_againW fl3 fun h4 fl4 up4 => fin _ _ _ _ _ _ _ _ fl4 (up3'.trans up4) rfl rfl hs2 qq
theorem ex_try_ok {body : List Stmt} {hs : ExceptHandler} {hss : List ExceptHandler} {pos : Pos} (hE : Γ.E = fun _ _ => False) (b : Exs Γ loc own body fun fl loc own => fl = .next ∧ QQ .next loc own) : Ex Γ loc own (.Try body (hs :: hss) [] [] pos) QQ := by
  intro h₀ s g rel
  refine wpAny_Try_except (noE hE (wpAny_mono (b h₀ s g rel) (fun f s1 ⟨a, loc1, own1, p, r, fr, e, q⟩ => ?_) fun _ _ z => z))
  subst e
  cases fr
  exact wpAny_execs_nil ⟨_, _, _, p, r, .next, q⟩
end
end Mine

end
section
open PySem PySem.W PySem.Builtin PySem.Builtin.ObjectAttr
open PyProof.Rows hiding wpAt wpAt_bind
set_option linter.unusedSectionVars false
set_option maxRecDepth 100000
set_option maxHeartbeats 1000000
set_option linter.unusedVariables false
namespace Mine
variable [aI : Membership Nat Unit]
section
variable {prog : Program} {w : World} {A : Around} {E : Value → Shared → Prop} {K : Frag} {C d a : Addr} {s : Shared}
theorem acc_setcol {sl b : Addr} {vs : List Value} {n : Nat} {R : Unit → Shared → Prop} (H : AccK K C) (X : K.In s.heap) (hx : s.heap.get? a = some (accObj C d vs n)) (hT : s.TypeIs (.ref b) "generator") (hab : a ≠ b)
    (hs : s.heap.get? sl = some { cls := .type "slice", data := .fields #[.none, .none, .none] }) (hi : ∀ (A' : Around) (Q : Value → Shared → Prop) (E' : Value → Shared → Prop), Q (.ref b) s → wpAny (model prog w) A' (pyIter (.ref b)) Q E' s)
    (hc : wpAny (model prog w) A.in1 (collect (.ref b)) (fun xs s1 => ∃ vs1 n1, s1.heap.get? a = some (accObj C d vs1 n1) ∧ vs1.length ≤ 1000000 ∧ xs.length ≤ 1000000 ∧
      R () { s1 with heap := s1.heap.update a (Obj.mapSeq fun ys => ys.extract 0 0 ++ xs.toArray ++ ys.extract vs1.length ys.size) }) E s) :
    wpAny (model prog w) A (setItem (.ref a) (.ref sl) (.ref b)) R E s := by
  have T : Looks (model prog w) s.heap (typeOf (.ref a)) (.ref C) := (Looks.ld hx).andThen .now
  have hsub : Looks (model prog w) s.heap (isInstance (.ref a) (.type "list")) true := T.andThen (looks_mroIn X H.sub)
  unfold setItem callSpecial?
  refine wpAny_holding (wpAny_bind (seqKey_acc H X hx ?_))
  refine wpAny_bind (wpAny_bind (wpAny_bind (T.here ((looks_findIn X H.si).here ?_))))
  refine wpAny_holding (wpAny_bind (wpAny_of_eq (si_slot.bind _) ?_))
  refine wpAny_bind (call_bi si_kind.symm si_split si_plain si_entry (si_args _ _ _) hsub ?_)
  show wpAny _ _ (Builtin.List.listSubscript? (.ref sl) >>= _) _ _ s
  refine wpAny_bind (slice_sub hs ?_)
  show wpAny _ _ (typeOf (.ref sl) >>= _) _ _ s
  refine wpAny_bind (wpAny_typeOf (T := "slice") ⟨_, hs, rfl⟩ ?_)
  rw [if_neg (by decide)]
  refine wpAny_bind (slice_parts (lo := none) (hi := none) (st := none) hs .none .none .none (by simp) ?_)
  have hsr : Builtin.List.listSameRef (.ref a) (.ref b) = false := by simp [Builtin.List.listSameRef, hab]
  simp only [hsr, Bool.false_eq_true, if_false]
  refine wpAny_bind (m := Builtin.List.listAllItems (.ref b) _) ?_
  unfold Builtin.List.listAllItems
  refine wpAny_bind (wpAny_typeOf hT ?_)
  rw [if_neg (by decide)]
  refine wpAny_bind (wpAny_tryCatch (hi _ _ _ ?_))
  refine wpAny_bind (wpAny_holding (wpAny_mono hc (fun xs s1 ⟨vs1, n1, hx1, hl1, hl2, q⟩ => ?_) fun _ _ z => z))
  refine wpAny_bind (wpAny_letGo (wpAny_pure ?_))
  refine wpAny_bind (wpAny_bind (wpAny_seqItems hx1 rfl (wpAny_pure ?_)))
  refine wpAny_bind (wpAny_of_eq (sliceIndices_raw none none none vs1.toArray.size (by simp)) ?_)
  have hb3 : (sliceBounds none none none vs1.toArray.size).2.2 = 1 := rfl
  have htl : Builtin.List.listTooLong (vs1.toArray.size + xs.toArray.size) = false := by
    unfold Builtin.List.listTooLong
    simp only [List.size_toArray]
    exact decide_eq_false (by unfold sizeLine; omega)
  simp only [hb3, beq_self_eq_true, if_true]
  refine wpAny_bind (wpAny_rule ?_)
  simp only [htl, Bool.false_eq_true, if_false]
  refine wpAny_bind (m := Builtin.List.listUpdate (.ref a) _) ?_
  unfold Builtin.List.listUpdate
  refine wpAny_updateSeq hx1 rfl ?_ (by rw [List.size_toArray]; exact Nat.le_trans hl1 (by decide)) (by simp; exact set_size (a := 0) hl1 hl2)
  refine wpAny_bind (wpAny_letGo (wpAny_pure ⟨_, rfl, wpAny_pure (wpAny_pure ?_)⟩))
  simp only [List.size_toArray]
  exact q
theorem int_no_iter : typeLookup (.type "int") "__iter__" = pure none := by rw [typeLookup_type, builtinLookup_eq_fast]; kernel_rfl
theorem int_no_getitem : typeLookup (.type "int") "__getitem__" = pure none := by rw [typeLookup_type, builtinLookup_eq_fast]; kernel_rfl
theorem acc_setint {sl : Addr} {vs : List Value} {n : Nat} {k : Int} {t : Tok} {R : Unit → Shared → Prop} (hh : A.handled = none) (H : AccK K C) (X : K.In s.heap) (hx : s.heap.get? a = some (accObj C d vs n))
    (hs : s.heap.get? sl = some { cls := .type "slice", data := .fields #[.none, .none, .none] })
    (hE : ∀ h h' tk e, (∀ b o, s.heap.get? b = some o → h.get? b = some o) → Heap.NewExc h h' e "TypeError" → E (.ref e) { s with heap := h', toks := tk }) :
    wpAny (model prog w) A (setItem (.ref a) (.ref sl) (.int k t)) R E s := by
  have T : Looks (model prog w) s.heap (typeOf (.ref a)) (.ref C) := (Looks.ld hx).andThen .now
  have hsub : Looks (model prog w) s.heap (isInstance (.ref a) (.type "list")) true := T.andThen (looks_mroIn X H.sub)
  unfold setItem callSpecial?
  refine wpAny_holding (wpAny_bind (seqKey_acc H X hx ?_))
  refine wpAny_bind (wpAny_bind (wpAny_bind (T.here ((looks_findIn X H.si).here ?_))))
  refine wpAny_holding (wpAny_bind (wpAny_of_eq (si_slot.bind _) ?_))
  refine wpAny_bind (call_bi si_kind.symm si_split si_plain si_entry (si_args _ _ _) hsub ?_)
  show wpAny _ _ (Builtin.List.listSubscript? (.ref sl) >>= _) _ _ s
  refine wpAny_bind (slice_sub hs ?_)
  show wpAny _ _ (typeOf (.ref sl) >>= _) _ _ s
  refine wpAny_bind (wpAny_typeOf (T := "slice") ⟨_, hs, rfl⟩ ?_)
  rw [if_neg (by decide)]
  refine wpAny_bind (slice_parts (lo := none) (hi := none) (st := none) hs .none .none .none (by simp) ?_)
  have hsr : Builtin.List.listSameRef (.ref a) (.int k t) = false := rfl
  simp only [hsr, Bool.false_eq_true, if_false]
  refine wpAny_bind (m := Builtin.List.listAllItems (.int k t) _) ?_
  unfold Builtin.List.listAllItems
  refine wpAny_bind (wpAny_typeOf (T := "int") rfl ?_)
  rw [if_neg (by decide)]
  refine wpAny_bind (wpAny_tryCatch ?_)
  unfold pyIter
  refine wpAny_bind (wpAny_specialOf (T := "int") rfl int_no_iter ?_)
  refine wpAny_bind (wpAny_specialOf (T := "int") rfl int_no_getitem ?_)
  show wpAny _ _ (rule "iter.not-iterable" >>= fun _ => (typeNameOf (.int k t) >>= fun n => raiseError "TypeError" s!"'{n}' object is not iterable")) _ _ _
  refine wpAny_bind (wpAny_rule (wpAny_bind (wpAny_typeNameOf' (T := "int") rfl (by decide) ?_)))
  refine wpAny_raiseTypeError (by exact hh) (fun h1 tk1 e1 x1 => ?_) (by rw [show shownName "int" = "int" by kernel_rfl]; decide +kernel)
  obtain ⟨ob, tp, he, hcls, _⟩ := x1.there
  refine wpAny_bind (wpAny_isInstance (T := "TypeError") (b := true) ⟨_, he, hcls⟩ hsub_TT ?_)
  rw [if_pos rfl]
  refine wpAny_bind (wpAny_rule ?_)
  exact wpAny_raiseTypeError (by exact hh) (fun h2 tk2 e2 x2 => hE h1 h2 tk2 e2 x1.keeps x2) (by decide +kernel)
theorem str_no_index : typeLookup (.type "str") "__index__" = pure none := by rw [typeLookup_type, builtinLookup_eq_fast]; kernel_rfl
theorem acc_getbad {sl : Addr} {vs : List Value} {n : Nat} {x : Str} {t : Tok} {R : Value → Shared → Prop} (hh : A.handled = none) (H : AccK K C) (X : K.In s.heap) (hx : s.heap.get? a = some (accObj C d vs n))
    (hs : s.heap.get? sl = some { cls := .type "slice", data := .fields #[.str x t, .none, .none] })
    (hE : ∀ h' tk e, Heap.NewExc s.heap h' e "TypeError" → E (.ref e) { s with heap := h', toks := tk }) :
    wpAny (model prog w) A (getItem (.ref a) (.ref sl)) R E s := by
  have T : Looks (model prog w) s.heap (typeOf (.ref a)) (.ref C) := (Looks.ld hx).andThen .now
  have hsub : Looks (model prog w) s.heap (isInstance (.ref a) (.type "list")) true := T.andThen (looks_mroIn X H.sub)
  unfold getItem callSpecial?
  refine wpAny_holding (wpAny_bind (seqKey_acc H X hx ?_))
  refine wpAny_bind (wpAny_bind (wpAny_bind (T.here ((looks_findIn X H.gi).here ?_))))
  refine wpAny_holding (wpAny_bind (wpAny_of_eq (slot_list_getitem.bind _) ?_))
  refine wpAny_bind (call_bi gi_kind.symm gi_split slot_list_getitem.plain entry_list_getitem (args_list_getitem _ _) hsub ?_)
  show wpAny _ _ (Builtin.List.listSubscript? (.ref sl) >>= _) _ _ s
  refine wpAny_bind (slice_sub hs ?_)
  show wpAny _ _ (typeOf (.ref sl) >>= _) _ _ s
  refine wpAny_bind (wpAny_typeOf (T := "slice") ⟨_, hs, rfl⟩ ?_)
  rw [if_neg (by decide)]
  refine wpAny_bind (m := Builtin.List.listSliceParts (.ref sl)) ?_
  rw [listSliceParts_eq]
  refine wpAny_bind (wpAny_field hs rfl (x := .none) rfl (wpAny_bind (wpAny_listPart .none ?_)))
  rw [if_neg (by decide)]
  refine wpAny_bind (wpAny_field hs rfl (x := .str x t) rfl (wpAny_bind ?_))
  show wpAny _ _ (listPart (.str x t)) _ _ _
  unfold listPart
  rw [if_neg (show ¬((Value.str x t == Value.none) = true) from Bool.false_ne_true)]
  refine wpAny_bind (wpAny_specialOf (T := "str") rfl str_no_index ?_)
  rw [if_pos (by rfl)]
  refine wpAny_bind (wpAny_rule ?_)
  refine wpAny_bind (wpAny_raiseTypeError (msg := "slice indices must be integers or None or have an __index__ method") (by exact hh) (fun h2 tk2 e2 x2 => hE h2 tk2 e2 x2) (by decide +kernel))
end
end Mine

end
section
open PySem PySem.W PySem.Builtin PySem.Builtin.ObjectAttr
open PyProof.Rows hiding wpAt wpAt_bind
set_option linter.unusedSectionVars false
set_option maxRecDepth 100000
set_option maxHeartbeats 1000000
set_option linter.unusedVariables false
namespace Mine
variable [aI : Membership Nat Unit]
section
variable {Γ : Fm} {outer : List Env} {loc : Loc} {own : Own} {Q : QV} {QQ : QF} {X : String → Loc → Own → Prop}
theorem exX_slice_int {o e : PySem.Expr} {p sp pos : Pos} (hE : Γ.E = fun _ _ => False) (he : exec (.Assign [.Subscript o (.Slice none none none p) sp] e pos) Γ.env = (do standAt pos; let v ← eval e Γ.env; assignAll v [assign (.Subscript o (.Slice none none none p) sp) Γ.env]; pure .next))
    (x : Ev Γ loc own e fun d loc own => ∃ k, d = .int k ∧ Ev Γ loc own o fun v loc own => ∃ (a C dd : Addr) (ds : List Dv), v = .raw (.ref a) ∧ AccK Γ.K C ∧ HasO a (.acc C dd ds) own ∧ ∀ sl, X "TypeError" loc ((sl, .slc .none .none .none) :: own)) :
    ExX Γ outer true loc own (.Assign [.Subscript o (.Slice none none none p) sp] e pos) X := by
  intro h₀ s g rel oo
  rw [he]
  refine wpAny_bind (wpAny_standAt (wpAny_bind (noE hE (x.use g rel fun d loc1 own1 s1 v p1 r1 v1 ⟨k, e1, q1⟩ => ?_))))
  subst e1
  cases v1
  refine wpAny_bind ?_
  unfold assignAll
  rw [arm_assign_Subscript]
  refine wpAny_bind (wpAny_holding (noE hE (q1.use g r1 fun d loc2 own2 s2 v2 p2 r2 vr2 ⟨a, C, dd, ds, e2, H, ha, qx⟩ => wpAny_bind (wpAny_holding (noE hE ?_)))))
  subst e2
  cases vr2
  refine (ev_slice (Q := fun d l o => l = loc2 ∧ ∃ sl, d = .raw (.ref sl) ∧ o = (sl, .slc .none .none .none) :: own2) (evo_none (evo_none (evo_none fun sl => ⟨rfl, sl, rfl, rfl⟩)))).use g r2 fun d loc3 own3 s3 v3 p3 r3 vr3 ⟨el, sl, e3, eo⟩ => ?_
  subst e3 el eo
  cases vr3
  refine wpAny_bind (wpAny_standAt (wpAny_bind (wpAny_holding ?_)))
  obtain ⟨vs, n, ho, r⟩ := r3.ow.at_ _ (HasO.there ha).mem
  obtain ⟨vl, vu, vt, os, k1, k2, k3⟩ := r3.ow.at_ _ (List.Mem.head _)
  cases k1; cases k2; cases k3
  refine wpAny_mono (acc_setint (E := fun e s' => XOut Γ outer true h₀ s X e s') Γ.hh H (g.kin.keeps r3.ow.keep) ho os fun h h' tk ex kp ne => ?_) (fun _ _ z => z) fun _ _ z => z
  exact ⟨ex, h, "TypeError", _, _, rfl, ((p1.trans p2).trans p3).trans (Pers.st (Ext.pers kp)), r3.ext kp, .inl ⟨rfl, ne⟩, qx sl⟩
theorem exX_get_bad {x : Str} {o e : PySem.Expr} {p sp xp pos : Pos} (hE : Γ.E = fun _ _ => False) (hs : swapsWith (.Subscript o (.Slice (some e) none none p) sp) (some (.Name x xp)) pos.line Γ.env = pure false)
    (y : Ev Γ loc own o fun v loc own => ∃ (a C dd : Addr) (ds : List Dv), v = .raw (.ref a) ∧ AccK Γ.K C ∧ Ev Γ loc own e fun d loc own => ∃ t : Str, d = .str t ∧ HasO a (.acc C dd ds) own ∧ ∀ sl, X "TypeError" loc ((sl, .slc (.str t) .none .none) :: own)) :
    ExX Γ outer true loc own (.Assign [.Name x xp] (.Subscript o (.Slice (some e) none none p) sp) pos) X := by
  intro h₀ s g rel oo
  refine wpAny_Assign_Name ?_ hs
  refine Subscript_ (noE hE (y.use g rel fun d loc1 own1 s1 v p1 r1 v1 ⟨a, C, dd, ds, e1, H, q1⟩ => ?_))
  subst e1
  cases v1
  refine noE hE ((ev_slice (Q := fun d l o => ∃ (sl : Addr) (t : Str) (own2 : Own), d = .raw (.ref sl) ∧ o = (sl, .slc (.str t) .none .none) :: own2 ∧ HasO a (.acc C dd ds) own2 ∧ ∀ sl, X "TypeError" l ((sl, .slc (.str t) .none .none) :: own2)) (evo_some (ev_mono q1 fun d l o ⟨t, e2, ha, qx⟩ => evo_none (evo_none fun sl => ⟨sl, t, o, rfl, by rw [e2], ha, qx⟩)))).use g r1 fun d loc3 own3 s3 v3 p3 r3 vr3 ⟨sl, t, own2, e3, eo, ha, qx⟩ => ?_)
  subst e3 eo
  cases vr3
  obtain ⟨vs, n, ho, r⟩ := r3.ow.at_ _ (HasO.there ha).mem
  obtain ⟨vl, vu, vt, os, k1, k2, k3⟩ := r3.ow.at_ _ (List.Mem.head _)
  cases k1; cases k2; cases k3
  obtain ⟨ops, hops⟩ := subscripted_any (.Slice (some e) none none p) (.ref a) (.ref sl)
  have XK := g.kin.keeps r3.ow.keep
  have T : Looks (model Γ.prog Γ.w) s3.heap (typeOf (.ref a)) (.ref C) := (Looks.ld ho).andThen .now
  unfold subscriptTail getitemInPython
  refine wpAny_bind (wpAny_bind (wpAny_bind (T.here ((looks_findIn XK H.gi).here (wpAny_pure ?_)))))
  rw [hops]
  refine wpAny_bind (wpAny_operating (wpAny_mono (acc_getbad (E := fun e s' => XOut Γ outer true h₀ s X e s') Γ.hh H XK ho os fun h' tk ex ne => ?_) (fun _ _ z => z) fun _ _ z => z))
  exact ⟨ex, s3.heap, "TypeError", _, _, rfl, (p1.trans p3).trans (Pers.st Pers.refl), r3, .inl ⟨rfl, ne⟩, qx sl⟩
end
end Mine

end
section
open PySem PySem.W PySem.Builtin PySem.Builtin.ObjectAttr
open PyProof.Rows hiding wpAt wpAt_bind
set_option linter.unusedSectionVars false
set_option maxRecDepth 100000
set_option maxHeartbeats 1000000
set_option linter.unusedVariables false
namespace Mine
variable [aI : Membership Nat Unit]
structure GenOkC (Γ : Fm) (scope : Scope) (iter : PySem.Expr) (xa xb : Str) (cl : List (Str × Addr)) (c T : Addr) : Prop where
  co : scope.isCoroutine = false
  clos : closureFor scope Γ.env = pure cl
  cell : ∀ y ∈ scope.names, y.2 ≠ .cell
  h0 : scope.names.lookup (".0" : Str) = some NameKind.local
  ha : scope.names.lookup xa = some .local
  hb : scope.names.lookup xb = some .local
  ab : xa ≠ xb
  kind : scope.kind = .function
  code : Γ.env.code = .ref c
  tab : codeTab Γ.K c T = true
  fold : ∀ x, genFold iter Γ.env x = pure x
  lim : ∀ h, Γ.K.In h → h.NoLimit
structure GenTx where
  elt : PySem.Expr
  iter : PySem.Expr
  ifs : List PySem.Expr
  xa : Str
  xb : Str
  pa : Pos
  pb : Pos
  pt : Pos
  kt : Nat
  scope : Scope
  pos : Pos
noncomputable abbrev GenTx.e (G : GenTx) : PySem.Expr := .GeneratorExp G.elt [⟨.Tuple [.Name G.xa G.pa, .Name G.xb G.pb] G.kt G.pt, G.iter, G.ifs, 0⟩] G.scope G.pos
structure GenMade (G : GenTx) (env : Env) (cl : List (Str × Addr)) (x : Addr) (ob : Obj) (vs : List Value) (Ts : Nat → Addr) (vals : Nat → Array Value) (a CL I gn : Nat) (cenv : Env) (s : Shared) : Prop where
  envE : ∃ code bi, cenv = genEnv G.scope cl CL code bi env ∧ bi = builtinsNs
  gen : s.heap.IsGen a gn
  gst : s.gens[gn]? = some (.fresh (.compStart G.e 0 (.ref I) .none cenv))
  ns : s.heap.Ns CL (fun y => if y = ".0" then some (.ref I) else none)
  it : s.heap.get? I = some { cls := .type "list_iterator", data := .fields #[.ref x, .int 0 0] }
  at_ : s.heap.get? x = some ob
  tup : ∀ j, j < vs.length → s.heap.IsTuple (Ts j) (vals j)
  lt : x < CL ∧ I < CL ∧ CL < a ∧ (∀ j, j < vs.length → Ts j < CL) ∧ a < s.heap.objs.size ∧ cStatics < CL
  ne : x ≠ I ∧ (∀ j, j < vs.length → Ts j ≠ I) ∧ cStatics ≠ I
theorem GenMade.keeps {G : GenTx} {env : Env} {cl : List (Str × Addr)} {x : Addr} {ob : Obj} {vs : List Value} {Ts : Nat → Addr} {vals : Nat → Array Value} {a CL I gn : Nat} {cenv : Env} {s s' : Shared} (M : GenMade G env cl x ob vs Ts vals a CL I gn cenv s) (hk : ∀ b o, s.heap.get? b = some o → s'.heap.get? b = some o) (hg : s'.gens = s.gens) : GenMade G env cl x ob vs Ts vals a CL I gn cenv s' := by
  refine ⟨M.envE, M.gen.keeps hk, by rw [hg]; exact M.gst, M.ns.keeps hk, hk _ _ M.it, hk _ _ M.at_, fun j hj => ?_, ?_, M.ne⟩
  · obtain ⟨o, e, q⟩ := M.tup j hj
    exact ⟨o, hk _ _ e, q⟩
  · obtain ⟨l1, l2, l3, l4, _, l6⟩ := M.lt
    obtain ⟨o, nm, qn, e, _⟩ := M.gen
    exact ⟨l1, l2, l3, l4, Heap.lt_size (hk _ _ e), l6⟩
noncomputable abbrev anyO : AObj := .any fun _ => True
section
variable {Γ : Fm} {loc : Loc} {own own' : Own} {Q : QV} {QQ : QF}
theorem gen_raw {G : GenTx} {cl : List (Str × Addr)} {c T x C d : Addr} {ps : List (Dv × Dv)} {R : Value → Shared → Prop} {h₀ : Heap} {s : Shared} {E : Value → Shared → Prop} (hE : Γ.E = fun _ _ => False)
    (O : GenOkC Γ G.scope G.iter G.xa G.xb cl c T) (H : AccK Γ.K C) (hroom : Γ.A.depth < recursionLimit) (g : Gd Γ.K h₀) (rel : Rel h₀ Γ.env.locals loc own s.heap)
    (hi : Ev Γ loc own G.iter fun e loc' own' => e = .raw (.ref x) ∧ loc' = loc ∧ own' = own) (ha : HasO x (.acc C d (ps.map fun p => .tup [p.1, p.2])) own) (ht : HasO T .tab own)
    (k : ∀ (a CL I gn n : Nat) (cenv : Env) (vs : List Value) (Ts : Nat → Addr) (vals : Nat → Array Value) (s5 : Shared), Stays s s5 → Rel h₀ Γ.env.locals loc ((CL, anyO) :: (I, anyO) :: own) s5.heap → vs.length = ps.length →
      (∀ j, j < vs.length → vs[j]? = some (.ref (Ts j))) → (∀ j, ∃ va vb, vals j = #[va, vb]) → (∀ j p, ps[j]? = some p → ∃ va vb, vals j = #[va, vb] ∧ VR s5.heap va p.1 ∧ VR s5.heap vb p.2) →
      GenMade G Γ.env cl x (accObj C d vs n) vs Ts vals a CL I gn cenv s5 → (∀ b o, h₀.get? b = some o → b < CL) → (∀ p ∈ own, p.1 < CL) → R (.ref a) s5) :
    wpAny (model Γ.prog Γ.w) Γ.A (eval G.e Γ.env) R E s := by
  refine wpAny_GeneratorExp_make O.co O.clos O.cell O.h0 O.kind hroom (noE hE (hi.use g rel fun e loc1 own1 s1 v p1 r1 v1 ⟨e1, e2, e3⟩ => ?_)) O.fold
  subst e1 e2 e3
  cases v1
  obtain ⟨vs, n, ho, hv⟩ := r1.ow.at_ _ ha.mem
  refine acc_iter H (g.kin.keeps r1.ow.keep) ho ?_
  obtain ⟨h1, gs1, dr1, tk1, os1⟩ := s1
  dsimp only at p1 r1 ho hv ⊢
  obtain ⟨Ts, vals, a1, a2, a3, a4, nh⟩ := pairs_at hv
  have ex2 : Ext h1 (h1.push { cls := .type "list_iterator", data := .fields #[.ref x, .int 0 0] }) := Ext.push _
  have hI : (h1.push { cls := .type "list_iterator", data := .fields #[.ref x, .int 0 0] }).get? h1.objs.size = some { cls := .type "list_iterator", data := .fields #[.ref x, .int 0 0] } := Heap.get?_push_size _ rfl
  have hIn : h1.get? h1.objs.size = none := get_size_none _
  have r2 : Rel h₀ Γ.env.locals loc1 ((h1.objs.size, anyO) :: own1) (h1.push { cls := .type "list_iterator", data := .fields #[.ref x, .int 0 0] }) := r1.more (o := anyO) ex2 hIn ⟨_, hI, trivial, fun vs n z => by simp at z⟩
  generalize h1.push { cls := .type "list_iterator", data := .fields #[.ref x, .int 0 0] } = h2 at ex2 hI r2
  have X2 : Γ.K.In h2 := g.kin.keeps r2.ow.keep
  refine ⟨O.lim _ X2, ?_⟩
  have ht2 : HasO T .tab ((h1.objs.size, anyO) :: own1) := .there ht
  obtain ⟨psT, hTg, hTr⟩ := r2.ow.at_ _ ht2.mem
  refine gen_code O.code X2 O.tab (r2.ow.at_ _ ht2.mem) fun code h3 tk3 hx3 orT => ?_
  obtain ⟨r3, p3⟩ := r2.extTab ht2 hx3 orT
  have X3 : Γ.K.In h3 := g.kin.keeps r3.ow.keep
  have g3 : Gd Γ.K h3 := g.ext r3.ow.keep
  obtain ⟨mg, bm, ob, M⟩ := g3.bmd
  refine wpAny_builtinsFor (globals := Γ.env.globals) (Γ.hg ▸ M.ns) M.name M.ne M.obj M.cls M.dict M.data ?_
  have IneT : h1.objs.size ≠ T := fun z => by
    obtain ⟨ob', q, _⟩ := (r1.ow.at_ _ ht.mem).some
    rw [show ((T, AObj.tab) : Addr × AObj).1 = T from rfl, ← z, hIn] at q; cases q
  have xneT : x ≠ T := fun z => by
    have q := ex2 _ _ ho
    rw [z, hTg] at q; simp at q
  have TneT : ∀ j, j < vs.length → Ts j ≠ T := fun j hj z => by
    obtain ⟨o', q, q2, n', q3⟩ := a2 j hj
    rw [z] at q
    rw [ex2 _ _ q] at hTg; cases hTg; cases q3
  have hI3 := hx3 _ _ IneT hI
  have ho3 := hx3 _ _ xneT (ex2 _ _ ho)
  have tup3 : ∀ j, j < vs.length → h3.IsTuple (Ts j) (vals j) := fun j hj => by
    obtain ⟨o', q, q2⟩ := a2 j hj
    exact ⟨o', hx3 _ _ (TneT j hj) (ex2 _ _ q), q2⟩
  intro h' hn' hs'
  have hC3 : h3.get? h3.objs.size = none := get_size_none _
  have ex3 : Ext h3 h' := fun b o e => hs'.extBut b o (Nat.ne_of_lt (Heap.lt_size e)) (Heap.get?_push_of_some _ e)
  have sz' : h'.objs.size = h3.objs.size + 1 := by rw [hs'.1, Heap.size_push]
  have r4 : Rel h₀ Γ.env.locals loc1 ((h3.objs.size, anyO) :: (h1.objs.size, anyO) :: own1) h' := by
    refine r3.more (o := anyO) ex3 hC3 ?_
    obtain ⟨o, es, ep, e, dd, _⟩ := hn'
    exact ⟨o, e, trivial, fun ws j z => by rw [z] at dd; cases dd⟩
  have exG : Ext h' (h'.push { cls := .type "generator", data := .fields #[.int gs1.size 0, .str "<genexpr>" (tk3 + 1), .str (Γ.env.qual ++ "<genexpr>") (tk3 + 1 + 1)] }) := Ext.push _
  have exA : ∀ b o, h3.get? b = some o → (h'.push { cls := .type "generator", data := .fields #[.int gs1.size 0, .str "<genexpr>" (tk3 + 1), .str (Γ.env.qual ++ "<genexpr>") (tk3 + 1 + 1)] }).get? b = some o := fun b o e => exG _ _ (ex3 _ _ e)
  have pA : Pers h1 (h'.push { cls := .type "generator", data := .fields #[.int gs1.size 0, .str "<genexpr>" (tk3 + 1), .str (Γ.env.qual ++ "<genexpr>") (tk3 + 1 + 1)] }) := (Ext.pers ex2).trans (p3.trans ((Ext.pers ex3).trans (Ext.pers exG)))
  refine k _ h3.objs.size h1.objs.size gs1.size n (genEnv G.scope cl h3.objs.size code builtinsNs Γ.env) vs Ts vals _ ⟨p1.p.trans pA, p1.os, fun h0 => (p1.bare h0).push rfl⟩ (r4.ext exG) (by rw [hv.length, List.length_map]) a1 a3 (fun j p hp => ?_) ⟨⟨code, builtinsNs, rfl, rfl⟩, ⟨_, _, _, Heap.get?_push_size _ rfl, rfl, rfl, rfl⟩, Array.getElem?_push_size .., hn'.push _, exA _ _ hI3, exA _ _ ho3, fun j hj => ?_, ⟨Heap.lt_size ho3, Heap.lt_size hI3, by rw [sz']; exact Nat.lt_succ_self _, fun j hj => ?_, by rw [Heap.size_push]; exact Nat.lt_succ_self _, ?_⟩, ⟨Nat.ne_of_lt (Heap.lt_size ho), fun j hj => ?_, ?_⟩⟩ (fun b o e => Heap.lt_size (r3.ow.keep b o e)) (fun p hp => let ⟨_, q, _⟩ := (r3.ow.at_ p (List.mem_cons_of_mem _ hp)).some; Heap.lt_size q)
  · obtain ⟨va, vb, e, v1, v2⟩ := a4 j p hp
    exact ⟨va, vb, e, v1.mono pA, v2.mono pA⟩
  · obtain ⟨o', q, q2⟩ := tup3 j hj
    exact ⟨o', exA _ _ q, q2⟩
  · obtain ⟨o', q, q2⟩ := tup3 j hj
    exact Heap.lt_size q
  · obtain ⟨m, hn, _⟩ := O.lim _ X3
    exact hn.lt
  · obtain ⟨o', q, _⟩ := a2 j hj
    exact Nat.ne_of_lt (Heap.lt_size q)
  · obtain ⟨m, hn, _⟩ := O.lim _ (g.kin.keeps r1.ow.keep)
    exact Nat.ne_of_lt hn.lt
end
end Mine

end
section
open PySem PySem.W PySem.Builtin PySem.Builtin.ObjectAttr
open PyProof.Rows hiding wpAt wpAt_bind
set_option linter.unusedSectionVars false
set_option maxRecDepth 100000
set_option maxHeartbeats 1000000
set_option linter.unusedVariables false
namespace Mine
variable [aI : Membership Nat Unit]
section
variable {prog : Program} {w : World} {A : Around} {E : Value → Shared → Prop} {s : Shared}
theorem next_gen {a : Addr} {g n : Nat} {gs : GenState} {R : GenEnd} {Y : Protocol} {cls : String} {Q : Option Value → Shared → Prop} (hns : isSubtype (.type cls) (.type "StopIteration") = pure false)
    (hl : s.heap.NoLimit) (hroom : A.depth < recursionLimit) (hg : s.heap.IsGen a g) (hgs : s.gens[g]? = some gs) (hgo : gs.Goes (model prog w) A.in1 R Y n (.send .none) (s.setGen g .running))
    (hY : ∀ v s₁ gs', gs'.bare = true → Y (n - 1) (s.setGen g .running) v s₁ (fun r' s'' => match n with
        | 0 => False
        | m + 1 => gs'.Goes (model prog w) A.in1 R Y m r' s'') → Q (some v) (s₁.setGen g gs'))
    (hR : ∀ x s₁, R n (s.setGen g .running) x s₁ → ∃ e, x = .error (.ref e) ∧ s₁.heap.IsGen a g ∧ (∃ ob, s₁.heap.get? e = some ob ∧ ob.cls = .type cls) ∧ E (.ref e) (s₁.setGen g .finished)) :
    wpAny (model prog w) A (pyNext (.ref a)) Q E s := by
  unfold pyNext
  refine wpAny_bind (wpAny_attempt (wpAny_callSpecial?_slot (name := Str.ofString "__next__") hg.typeIs slot_gen_next
    (wpAny_call_entry slot_gen_next hg.typeIs entry_gen_next ?_ (args_gen_next _))))
  show wpAny _ A.in1 (Builtin.Generator.genWake (.ref a) (.send .none)) _ _ s
  unfold Builtin.Generator.genWake
  refine wpAny_bind (wpAny_holding (wpAny_genNumber hg (wpAny_bind (wpAny_genState hgs ?_))))
  cases gs with
  | running => exact hgo.elim
  | finished => exact hgo.elim
  | _ =>
    refine wpAny_bind (wpAny_roomToWake hl hroom ?_)
    show wpAny _ A.in1 (.resume g (.send .none) [] _) _ _ s
    refine wpAny_resumeQ hgs hgo (fun x s₁ hx => ?_) (fun v s₁ gs' hb hv => ?_)
    · obtain ⟨e, rfl, ⟨og, nm, qn, hog, hogc, hogd, hogs⟩, ⟨ob, he, hcls⟩, q⟩ := hR x s₁ hx
      show wpAny _ A.in1 (Builtin.Generator.genLeft (.ref a) (.ref e)) _ _ _
      unfold Builtin.Generator.genLeft Builtin.Generator.madeByALambda
      refine wpAny_bind (wpAny_bind (wpAny_load (s := s₁.setGen g .finished) hog (wpAny_pure ?_)))
      refine wpAny_bind (wpAny_isInstance (T := cls) (b := false) ⟨ob, he, hcls⟩ hns ?_)
      rw [Bool.and_false, if_neg (by decide)]
      unfold Builtin.Generator.genEscaped
      refine wpAny_bind (wpAny_isInstance (T := cls) (b := false) ⟨ob, he, hcls⟩ hns ?_)
      refine wpAny_throw ?_
      refine wpAny_bind (wpAny_isInstance (T := cls) (b := false) ⟨ob, he, hcls⟩ hns ?_)
      rw [if_neg (by decide)]
      exact wpAny_throw q
    · exact wpAny_pure ⟨v, rfl, wpAny_pure (hY v s₁ gs' hb hv)⟩
end
theorem OuterOk.at' {h h' : Heap} : ∀ {l : List Env}, (∀ b ∈ frs l, ∀ o, h.get? b = some o → h'.get? b = some o) → OuterOk l h → OuterOk l h'
  | [], _, _ => trivial
  | env :: l, k, ⟨a, ⟨L, o, es, n, b, c, d⟩, r⟩ => by
    have hfs : frs (env :: l) = L :: frs l := by show List.filterMap _ (env :: l) = _; rw [List.filterMap_cons, b]
    exact ⟨a, ⟨L, o, es, n, b, k _ (by rw [hfs]; exact .head _) _ c, d⟩, OuterOk.at' (fun x hx => k x (by rw [hfs]; exact .tail _ hx)) r⟩
noncomputable def FailR (outer : List Env) (cls : String) (C : Addr) (wr : List Addr) : GenEnd := fun n s₀ r s₁ =>
  n = 0 ∧ ∃ e h1 hR tk, s₁ = { s₀ with heap := h1, toks := tk } ∧ r = .error (.ref e) ∧ (∀ b o, b ≠ C → b ∉ wr → s₀.heap.get? b = some o → hR.get? b = some o) ∧ Flies outer (hideAll hR [C]) e cls h1
noncomputable def protoX (outer : List Env) (C : Addr) (fp wr : List Addr) (j : Nat) (F : Nat → Value → Prop) : Protocol := fun m s₀ v s kap =>
  (∃ i, i + m + 1 = j ∧ F i v) ∧ GenSince C wr s₀ s ∧ ∀ s'' : Shared, (∀ b ∈ C :: fp, ∀ o, s.heap.get? b = some o → s''.heap.get? b = some o) → OuterOk outer s''.heap → kap (.send .none) s''
section
variable {prog : Program} {w : World} {A : Around} {outer : List Env} {cls : String} {elt iter : PySem.Expr} {xa xb : Str} {pa pb pt : Pos} {kt : Nat} {scope : Scope} {pos : Pos} {I : Addr} {fp wr : List Addr} {n₀ j : Nat} {Pt : Nat → Array Value → Prop} {St₀ : Nat → Heap → Prop} {Mid : Nat → Addr → Heap → Prop} {cenv : Env}
theorem seg_failLoop (hh : A.handled = none) (hfr : A.frames = some outer) (W₀ : ∀ A' : Around, A'.handled = none → WalksU prog w A' I fp wr n₀ Pt St₀ Mid) (hsz : ∀ i vals, Pt i vals → ∃ va vb, vals = #[va, vb]) (hab : xa ≠ xb) (F : Nat → Value → Prop) (href : Heap)
    (hxa : cenv.kindOf xa = some .local) (hxb : cenv.kindOf xb = some .local) (hp : (cenv.scope.kind == .class || (cenv.scope.kind == .module && cenv.locals != cenv.globals)) = false)
    (hco : cenv.scope.isCoroutine = false) (hCf : cenv.locals ∉ fp) (hfc : cenv.frame = some cenv.locals) (hkc : cenv.scope.kind ≠ .module) (hout : ∀ b ∈ frs outer, b ≠ cenv.locals ∧ b ∉ wr) (hj : j < n₀)
    (good : ∀ (A' : Around) (E' : Value → Shared → Prop) (i : Nat) (va vb : Value) (s₂ : Shared) (m₂ : Str → Option Value), A'.handled = none → A'.depth ≤ A.depth + 1 → A'.units ≤ A.units + 3 → i < j → Pt i #[va, vb] → s₂.heap.Ns cenv.locals m₂ → m₂ xa = some va → m₂ xb = some vb → (∀ b ∈ fp, b ∉ wr → ∀ o, href.get? b = some o → s₂.heap.get? b = some o) →
      wpAny (model prog w) A' (eval elt cenv) (fun y s₃ => F i y ∧ Keeps s₂ s₃) E' s₂)
    (bad : ∀ (A' : Around) (Q' E' : Value → Shared → Prop) (va vb : Value) (s₂ : Shared) (m₂ : Str → Option Value), A'.handled = none → A'.depth ≤ A.depth + 1 → A'.units ≤ A.units + 3 → Pt j #[va, vb] → s₂.heap.Ns cenv.locals m₂ → m₂ xa = some va → m₂ xb = some vb → (∀ b ∈ fp, b ∉ wr → ∀ o, href.get? b = some o → s₂.heap.get? b = some o) →
      (∀ h' tk e, Heap.NewExc s₂.heap h' e cls → E' (.ref e) { s₂ with heap := h', toks := tk }) → wpAny (model prog w) A' (eval elt cenv) Q' E' s₂) :
    ∀ (k i : Nat) (s₀ s : Shared) (m : Str → Option Value), j - i = k → i ≤ j → St₀ i s.heap → s.heap.Ns cenv.locals m → GenSince cenv.locals wr s₀ s →
      (∀ b ∈ fp, b ∉ wr → ∀ o, href.get? b = some o → s.heap.get? b = some o) → OuterOk outer s.heap →
      Seg (model prog w) A (FailR outer cls cenv.locals wr) (protoX outer cenv.locals fp wr j F) (j - i) s₀
        (.compLoop (.GeneratorExp elt [⟨.Tuple [.Name xa pa, .Name xb pb] kt pt, iter, [], 0⟩] scope pos) 0 (.ref I) .none cenv)
        ((model prog w).den (.compLoop (.GeneratorExp elt [⟨.Tuple [.Name xa pa, .Name xb pb] kt pt, iter, [], 0⟩] scope pos) 0 (.ref I) .none cenv)) [] s := by
  have hh' : (A.over (.compLoop (.GeneratorExp elt [⟨.Tuple [.Name xa pa, .Name xb pb] kt pt, iter, [], 0⟩] scope pos) 0 (.ref I) .none cenv) []).handled = none := hh
  have hdep' : (A.over (.compLoop (.GeneratorExp elt [⟨.Tuple [.Name xa pa, .Name xb pb] kt pt, iter, [], 0⟩] scope pos) 0 (.ref I) .none cenv) []).depth ≤ A.depth + 1 := Nat.le_of_eq rfl
  have huni' : (A.over (.compLoop (.GeneratorExp elt [⟨.Tuple [.Name xa pa, .Name xb pb] kt pt, iter, [], 0⟩] scope pos) 0 (.ref I) .none cenv) []).units ≤ A.units + 3 := Nat.le_of_eq rfl
  have hfr' : (A.over (.compLoop (.GeneratorExp elt [⟨.Tuple [.Name xa pa, .Name xb pb] kt pt, iter, [], 0⟩] scope pos) 0 (.ref I) .none cenv) []).frames = some (cenv :: outer) := by
    show pushEnvs [cenv] (pushEnvs (envsOf []) A.frames) = _
    rw [hfr]; rfl
  have hCw : cenv.locals ∉ wr := fun h => hCf ((W₀ A hh).sub _ h)
  intro k
  induction k using Nat.strongRecOn with
  | _ k ih =>
    intro i s₀ s m hk hi hst hn hsince hkp hoo
    have hlt : i < n₀ := Nat.lt_of_le_of_lt hi hj
    show Seg _ A _ _ _ s₀ _ ((compTurn (.GeneratorExp elt [⟨.Tuple [.Name xa pa, .Name xb pb] kt pt, iter, [], 0⟩] scope pos) 0 (.ref I) .none cenv).onRaise (leaving cenv)) [] s
    rw [compTurn_gen, Sem.onRaise_eq_wrap]
    refine seg_bind_wrap (wpAny_standAt ?_)
    refine seg_bind_wrap ((W₀ _ hh').item i s _ _ hlt hst fun T vals h₁ tk₁ hPv hT₁ hmid hk₁ => ?_)
    obtain ⟨va, vb, rfl⟩ := hsz i vals hPv
    refine seg_bind_wrap ((W₀ _ hh').go _ _ _ i T _ _ _ hmid fun h₁' hst₁ hk₁' => ?_)
    have hT₁' : h₁'.IsTuple T #[va, vb] := let ⟨o, e, r⟩ := hT₁; ⟨o, hk₁' _ o ((W₀ _ hh').apart i T _ hmid) e, r⟩
    refine seg_bind_wrap (wpAny_assign_Tuple hh' hT₁' rfl rfl fun h₁'' hx₁ => ?_)
    replace hx₁ : Heap.ExtBut h₁'.objs.size h₁' h₁'' := hx₁
    have old₁ : ∀ b o, h₁'.get? b = some o → h₁''.get? b = some o := fun b o e => hx₁ b o (Nat.ne_of_lt (Heap.lt_size e)) e
    show wpAny _ _ (do holding [vb] (assign (.Name xa pa) cenv va); do holding [] (assign (.Name xb pb) cenv vb); pure ()) _ _ _
    refine wpAny_bind (wpAny_holding (wpAny_assign_Name (wpAny_storeName_local hxa (hn.at' fun o e => old₁ _ o (hk₁' _ o hCw (hk₁ _ o hCw e))) (fun h₂a hn₂a hs₂a => ?_) hp)))
    replace hs₂a : Heap.SameBut cenv.locals h₁'' h₂a := hs₂a
    refine wpAny_bind (wpAny_holding (wpAny_assign_Name (wpAny_storeName_local hxb hn₂a (fun h₂ hn₂ hs₂ => wpAny_pure ?_) hp)))
    replace hs₂ : Heap.SameBut cenv.locals h₂a h₂ := hs₂
    have up₂ : ∀ b o, b ≠ cenv.locals → b ∉ wr → s.heap.get? b = some o → h₂.get? b = some o := fun b o hbC hbw e => hs₂.extBut b o hbC (hs₂a.extBut b o hbC (old₁ b o (hk₁' b o hbw (hk₁ b o hbw e))))
    have hst₂ : St₀ (i + 1) h₂ := (W₀ A hh).frame _ _ _ hst₁ fun b hb o e => hs₂.extBut b o (fun h => hCf (h ▸ hb)) (hs₂a.extBut b o (fun h => hCf (h ▸ hb)) (old₁ b o e))
    have hkp₂ : ∀ b ∈ fp, b ∉ wr → ∀ o, href.get? b = some o → h₂.get? b = some o := fun b hb hbw o e => up₂ b o (fun h => hCf (h ▸ hb)) hbw (hkp b hb hbw o e)
    have hoo₂ : OuterOk outer h₂ := hoo.at' fun b hb o e => up₂ b o (hout b hb).1 (hout b hb).2 e
    refine seg_bind_wrap (wpAny_pure ?_)
    rw [if_pos rfl]
    have hsince₂ : GenSince cenv.locals wr s₀ { s with heap := h₂, toks := tk₁ } := hsince.step fun b o hbC hbw e => up₂ b o hbC hbw e
    have hy : ∀ v, yieldOut cenv v = yieldValue v := fun v => by simp only [yieldOut, hco, Bool.false_eq_true, if_false]
    simp only [hy]
    rw [Sem.bind_eq_wrap', Sem.bind_eq_wrap', Sem.wrap_wrap, Sem.wrap_wrap]
    by_cases hij : i < j
    · obtain ⟨r, hr⟩ : ∃ r, j - i = r + 1 := ⟨j - i - 1, by omega⟩
      rw [hr]
      refine seg_wrap (wpAny_mono (good _ _ i va vb _ _ hh' hdep' huni' hij hPv hn₂ (by simp [hab]) (by simp) hkp₂) (fun y s₄ h₄ => ?_) fun _ _ e => e)
      obtain ⟨hFy, h₄, tk₄, rfl, hk₄⟩ := h₄
      refine seg_at (seg_yield rfl rfl rfl ⟨⟨i, by omega, hFy⟩, hsince₂.step fun b o _ _ e => hk₄ b o e, fun s'' hal hoo'' => ?_⟩)
      have := ih (j - (i + 1)) (by omega) (i + 1) s'' s'' _ rfl hij ((W₀ A hh).frame _ _ _ hst₂ fun b hb o e => hal b (List.mem_cons_of_mem _ hb) o (hk₄ b o e))
        ((hn₂.keeps hk₄).at' fun o e => hal _ (List.mem_cons_self ..) o e) (GenSince.refl _ _ _) (fun b hb hbw o e => hal b (List.mem_cons_of_mem _ hb) o (hk₄ b o (hkp₂ b hb hbw o e))) hoo''
      rw [show j - (i + 1) = r by omega] at this
      exact seg_again rfl this
    · have hij' : i = j := by omega
      subst hij'
      rw [Nat.sub_self]
      refine seg_wrap (bad _ _ _ va vb _ _ hh' hdep' huni' hPv hn₂ (by simp [hab]) (by simp) hkp₂ fun h' tk e ne => ?_)
      show Seg _ A _ _ 0 s₀ _ (leaving cenv (.ref e) >>= fun _ => .raise (.ref e)) [] _
      have oo2 : OuterOk (cenv :: outer) h₂ := by
        obtain ⟨o, es, ep, eo, dd, _⟩ := hn₂
        exact ⟨hkc, ⟨_, o, es, ep, hfc, eo, dd⟩, hoo₂⟩
      refine seg_bind (leave_exc (hR := h₂) hfr' hfc oo2 (.inl ne) fun h'' fl => ?_)
      obtain ⟨hs0, tks, es0, k0⟩ := hsince₂
      refine seg_end (.error (.ref e)) ⟨rfl, e, h'', h₂, tk, ?_, rfl, ?_, fl⟩
      · have : ({ s with heap := h₂, toks := tk₁ } : Shared) = { s₀ with heap := hs0, toks := tks } := es0
        injection this with q1 q2 q3 q4 q5
        subst q1
        rw [q2, q3, q5]
      · have : ({ s with heap := h₂, toks := tk₁ } : Shared) = { s₀ with heap := hs0, toks := tks } := es0
        injection this with q1 q2 q3 q4 q5
        subst q1
        exact k0
end
end Mine

end
section
open PySem PySem.W PySem.Builtin PySem.Builtin.ObjectAttr
open PyProof.Rows hiding wpAt wpAt_bind
set_option linter.unusedSectionVars false
set_option maxRecDepth 100000
set_option maxHeartbeats 1000000
set_option linter.unusedVariables false
namespace Mine
variable [aI : Membership Nat Unit]
structure Mv (wr : List Addr) (g : Nat) (s s' : Shared) : Prop where
  heap : ∀ b o, b ∉ wr → s.heap.get? b = some o → s'.heap.get? b = some o
  gens : GenOnlyQ g s.gens s'.gens
  os : s'.os = s.os
theorem Mv.trans {wr : List Addr} {g : Nat} {a b c : Shared} (x : Mv wr g a b) (y : Mv wr g b c) : Mv wr g a c := ⟨fun p o h e => y.heap p o h (x.heap p o h e), x.gens.trans y.gens, y.os.trans x.os⟩
theorem Mv.mono {wr wr' : List Addr} {g : Nat} {a b : Shared} (x : Mv wr g a b) (h : ∀ p ∈ wr, p ∈ wr') : Mv wr' g a b := ⟨fun p o n e => x.heap p o (fun q => n (h p q)) e, x.gens, x.os⟩
noncomputable def GenAtX (prog : Program) (w : World) (A : Around) (a g C : Nat) (fp wr : List Addr) (outer : List Env) (j : Nat) (F : Nat → Value → Prop) (cls : String) (i : Nat) (s : Shared) : Prop :=
  s.heap.IsGen a g ∧ s.heap.NoLimit ∧ ∃ gs, s.gens[g]? = some gs ∧ ∀ s'' : Shared, (∀ b ∈ C :: fp, ∀ o, s.heap.get? b = some o → s''.heap.get? b = some o) → OuterOk outer s''.heap →
    gs.Goes (model prog w) A.in1 (FailR outer cls C wr) (protoX outer C fp wr j F) (j - i) (.send .none) s''
section
variable {prog : Program} {w : World} {A : Around} {E : Value → Shared → Prop} {s : Shared} {a g C : Nat} {fp wr : List Addr} {outer : List Env} {j i : Nat} {F : Nat → Value → Prop} {cls : String}
theorem GenAtX.frame {h' : Heap} {tk : Nat} (st : GenAtX prog w A a g C fp wr outer j F cls i s) (hcs : cStatics ∈ fp) (hk : ∀ b ∈ a :: C :: fp, ∀ o, s.heap.get? b = some o → h'.get? b = some o) : GenAtX prog w A a g C fp wr outer j F cls i { s with heap := h', toks := tk } :=
  ⟨let ⟨o, nm, qn, ho, r⟩ := st.1; ⟨o, nm, qn, hk a (List.mem_cons_self ..) o ho, r⟩,
   (let ⟨mc, hns, hnn⟩ := st.2.1; ⟨mc, hns.at' fun o e => hk cStatics (List.mem_cons_of_mem _ (List.mem_cons_of_mem _ hcs)) o e, hnn⟩),
   let ⟨gs, hgs, hgo⟩ := st.2.2; ⟨gs, hgs, fun s'' hal oo => hgo s'' (fun b hb o e => hal b hb o (hk b (List.mem_cons_of_mem _ hb) o e)) oo⟩⟩
theorem nextX_item {Q : Option Value → Shared → Prop} (hns : isSubtype (.type cls) (.type "StopIteration") = pure false) (hroom : A.depth < recursionLimit) (st : GenAtX prog w A a g C fp wr outer j F cls i s) (oo : OuterOk outer s.heap) (hi : i < j) (haC : a ≠ C) (haw : a ∉ wr) (hcC : cStatics ≠ C) (hcw : cStatics ∉ wr)
    (hQ : ∀ v s', F i v → GenAtX prog w A a g C fp wr outer j F cls (i + 1) s' → Mv (C :: wr) g s s' → Q (some v) s') : wpAny (model prog w) A (pyNext (.ref a)) Q E s := by
  obtain ⟨hg, hl, gs, hgs, hgo⟩ := st
  obtain ⟨m, hm⟩ : ∃ m, j - i = m + 1 := ⟨j - i - 1, by omega⟩
  rw [hm] at hgo
  refine next_gen hns hl hroom hg hgs (hgo _ (fun _ _ _ e => e) oo) (fun v s₁ gs' hb hv => ?_) (fun x s₁ hx => ?_)
  · obtain ⟨⟨i', hi', hF⟩, ⟨h₁, tk₁, rfl, hk₁⟩, hkap⟩ := hv
    have : i' = i := by omega
    subst this
    refine hQ v _ hF ⟨let ⟨o, nm, qn, ho, r⟩ := hg; ⟨o, nm, qn, hk₁ a o haC haw ho, r⟩, (let ⟨mc, hns, hnn⟩ := hl; ⟨mc, hns.at' fun o e => hk₁ cStatics o hcC hcw e, hnn⟩), gs', setGen_self (gs := .running) (setGen_self hgs), fun s'' hal oo'' => ?_⟩
      ⟨fun b o hb e => hk₁ b o (fun h => hb (h ▸ List.mem_cons_self ..)) (fun h => hb (List.mem_cons_of_mem _ h)) e, GenOnlyQ.of ((GenOnly.setGen s g .running).trans (GenOnly.setGen _ g gs')) (setGen_self (gs := .running) (setGen_self hgs)) hb, rfl⟩
    have e : j - (i' + 1) = m := by omega
    rw [e]
    exact hkap s'' hal oo''
  · exact absurd hx.1 (Nat.succ_ne_zero m)
theorem nextX_fail {Q : Option Value → Shared → Prop} (hns : isSubtype (.type cls) (.type "StopIteration") = pure false) (hroom : A.depth < recursionLimit) (st : GenAtX prog w A a g C fp wr outer j F cls j s) (oo : OuterOk outer s.heap) (haC : a ≠ C) (haw : a ∉ wr) (haf : a ∉ frs outer) (hout : ∀ b ∈ frs outer, b ≠ C ∧ b ∉ wr)
    (hE : ∀ e hR s', Mv (C :: wr) g s { s' with heap := hR } → Flies outer (hideAll hR [C]) e cls s'.heap → E (.ref e) s') : wpAny (model prog w) A (pyNext (.ref a)) Q E s := by
  obtain ⟨hg, hl, gs, hgs, hgo⟩ := st
  rw [Nat.sub_self] at hgo
  refine next_gen hns hl hroom hg hgs (hgo _ (fun _ _ _ e => e) oo) (fun v s₁ gs' hb hv => ?_) (fun x s₁ hx => ?_)
  · obtain ⟨⟨i', hi', hF⟩, ⟨h₁, tk₁, rfl, hk₁⟩, hkap⟩ := hv
    exact (hkap _ (fun _ _ _ e => e) (oo.at' fun b hb o e => hk₁ b o (hout b hb).1 (hout b hb).2 e)).elim
  · obtain ⟨_, e, h1, hR, tk, rfl, rfl, hk, fl⟩ := hx
    obtain ⟨B, a0, kB, fly, up⟩ := id fl
    refine ⟨e, rfl, ?_, fly.there, hE e hR _ ⟨fun b o hb e => hk b o (fun h => hb (h ▸ List.mem_cons_self ..)) (fun h => hb (List.mem_cons_of_mem _ h)) e, GenOnlyQ.of ((GenOnly.setGen s g .running).trans (GenOnly.setGen _ g .finished)) (setGen_self (gs := .running) (setGen_self hgs)) rfl, rfl⟩ fl⟩
    obtain ⟨o, nm, qn, ho, r⟩ := hg
    refine ⟨o, nm, qn, fly.1 _ _ (kB a o (hideAll_get _ (hk a o haC haw ho) fun z => haC (List.mem_singleton.mp z)) haf), r⟩
theorem extend_fail (hns : isSubtype (.type cls) (.type "StopIteration") = pure false) (hroom : A.depth < recursionLimit) (hcs : cStatics ∈ fp) (haC : a ≠ C) (haw : a ∉ wr) (haf : a ∉ frs outer) (hcC : cStatics ≠ C) (hcw : cStatics ∉ wr) (hout : ∀ b ∈ frs outer, b ≠ C ∧ b ∉ wr) (hj : j ≤ 100000) (S : Addr) (hSf : S ∉ a :: C :: fp) (hSw : S ∉ wr) (hSo : S ∉ frs outer) (res : Value) {R : Result → Shared → Prop} :
    ∀ (k i : Nat) (s : Shared) (acc : Array Value) (c : Nat), j - i = k → i ≤ j → GenAtX prog w A.in1 a g C fp wr outer j F cls i s → OuterOk outer s.heap → s.heap.get? S = some { cls := .type "list", dict := none, data := .seq acc c, slots := #[] } → acc.size = i →
    (∀ e hR s', Mv (S :: C :: wr) g s { s' with heap := hR } → Flies outer (hideAll hR [C]) e cls s'.heap → R (.error (.ref e)) s') →
    codeAny (model prog w) A (.builtin "list.extend.loop" ⟨[.ref S, .ref a, res], []⟩) R s := by
  have hSC : S ≠ C := fun h => hSf (by rw [h]; simp)
  intro k
  induction k with
  | zero =>
    intro i s acc c hk hi hst oo hS hacc hR
    have hin : i = j := by omega
    subst hin
    refine codeAny_builtin PySem.F.entry_extend_loop ?_
    rw [Around.under_plainId PySem.F.plain_extend_loop _]
    show wpAny _ A.in1 (pyNext (.ref a) >>= _) _ _ s
    refine wpAny_bind (nextX_fail hns hroom hst oo haC haw haf hout fun e hR' s' m fl => ?_)
    exact hR e hR' s' (m.mono fun p hp => List.mem_cons_of_mem _ hp) fl
  | succ k ih =>
    intro i s acc c hk hi hst oo hS hacc hR
    have hlt : i < j := by omega
    refine codeAny_builtin PySem.F.entry_extend_loop ?_
    rw [Around.under_plainId PySem.F.plain_extend_loop _]
    show wpAny _ A.in1 (pyNext (.ref a) >>= _) _ _ s
    refine wpAny_bind (nextX_item hns hroom hst oo hlt haC haw hcC hcw fun v s' hP hst' hm => ?_)
    have hS' := hm.heap S _ (by simp only [List.mem_cons, not_or]; exact ⟨hSC, hSw⟩) hS
    show wpAny _ A.in1 (updateSeq S (·.push v) >>= _) _ _ _
    refine wpAny_bind ?_
    have oth : ∀ b o, b ≠ S → s'.heap.get? b = some o → (s'.heap.update S (Obj.mapSeq (·.push v))).get? b = some o := fun b o hb e => (Heap.get?_update_other _ _ (Ne.symm hb)).trans e
    refine wpAny_updateSeq hS' rfl (wpAny_pure ⟨plainId_quiet PySem.F.plain_extend_loop _, ih (i + 1) _ (acc.push v) _ (by omega) hlt (hst'.frame (tk := s'.toks) hcs fun b hb o e => oth b o (fun h => hSf (h ▸ hb)) e) ((oo.at' fun b hb o e => hm.heap b o (by simp only [List.mem_cons, not_or]; exact hout b hb) e).at' fun b hb o e => oth b o (fun h => hSo (h ▸ hb)) e) (Heap.get?_update_self _ hS' rfl) (by rw [Array.size_push, hacc]) fun e hR' s'' hm'' fl => ?_⟩)
      (by rw [hacc]; unfold sizeLine; omega) (by show (acc.push v).size ≤ sizeLine + 1; rw [Array.size_push, hacc]; unfold sizeLine; omega)
    refine hR e hR' s'' (Mv.trans (b := { s' with heap := s'.heap.update S (Obj.mapSeq (·.push v)) }) ⟨fun b o hb e => oth b o (fun h => hb (h ▸ List.mem_cons_self ..)) (hm.heap b o (fun h => hb (List.mem_cons_of_mem _ h)) e), hm.gens, hm.os⟩ hm'') fl
theorem collect_fail {Q : List Value → Shared → Prop} (hns : isSubtype (.type cls) (.type "StopIteration") = pure false) (hroom : A.depth < recursionLimit) (hcs : cStatics ∈ fp) (haC : a ≠ C) (haw : a ∉ wr) (haf : a ∉ frs outer) (hcC : cStatics ≠ C) (hcw : cStatics ∉ wr) (hout : ∀ b ∈ frs outer, b ≠ C ∧ b ∉ wr) (hj : j ≤ 100000)
    (hfp : ∀ b ∈ a :: C :: fp, b < s.heap.objs.size) (hwp : ∀ b ∈ wr, b ∈ fp) (st : GenAtX prog w A.in1 a g C fp wr outer j F cls 0 s) (oo : OuterOk outer s.heap)
    (hE : ∀ e hR s', Mv (C :: wr) g s { s' with heap := hR } → Flies outer (hideAll hR [C]) e cls s'.heap → E (.ref e) s') : wpAny (model prog w) A (collect (.ref a)) Q E s := by
  have hSf : s.heap.objs.size ∉ a :: C :: fp := fun hm => Nat.lt_irrefl _ (hfp _ hm)
  have hSI : s.heap.objs.size ≠ a := fun e => hSf (e ▸ List.mem_cons_self ..)
  have hSw : s.heap.objs.size ∉ wr := fun hm => hSf (List.mem_cons_of_mem _ (List.mem_cons_of_mem _ (hwp _ hm)))
  have hSo : s.heap.objs.size ∉ frs outer := fun hm => by
    have : ∀ {l : List Env} {h : Heap}, OuterOk l h → ∀ b ∈ frs l, ∃ o, h.get? b = some o := by
      intro l
      induction l with
      | nil => intro h _ b hb; cases hb
      | cons env l ih =>
        intro h ⟨_, ⟨L, o, es, n, q1, q2, q3⟩, r⟩ b hb
        have hfs : frs (env :: l) = L :: frs l := by show List.filterMap _ (env :: l) = _; rw [List.filterMap_cons, q1]
        rw [hfs] at hb
        rcases List.mem_cons.mp hb with rfl | hb
        · exact ⟨o, q2⟩
        · exact ih r b hb
    obtain ⟨o, e⟩ := this oo _ hm
    exact Nat.lt_irrefl _ (Heap.lt_size e)
  unfold collect
  refine wpAny_bind (wpAny_runValue (codeAny_builtin PySem.F.entry_proto_collect ?_))
  rw [Around.under_plainId PySem.F.plain_proto_collect _]
  show wpAny _ A.in1 (newList [] >>= fun l => again (.builtin "list.__iadd__" ⟨[l, .ref a], []⟩)) _ _ s
  refine wpAny_bind (wpAny_newObj_type ?_)
  refine wpAny_pure ⟨plainId_quiet PySem.F.plain_list_iadd _, codeAny_builtin PySem.F.entry_list_iadd ?_⟩
  rw [Around.under_plainId PySem.F.plain_list_iadd _]
  have hst₁ := st.frame (h' := s.heap.push { cls := .type "list", data := .seq ([] : List Value).toArray }) (tk := s.toks) hcs fun b _ o e => Heap.get?_push_of_some _ e
  have hT := hst₁.1.typeIs
  show wpAny _ A.in1 (Builtin.List.listExtendWith (.ref s.heap.objs.size) (.ref a) (.ref s.heap.objs.size)) _ _ _
  unfold Builtin.List.listExtendWith
  refine wpAny_bind (wpAny_typeOf hT ?_)
  have h1 : Builtin.List.listSameRef (.ref s.heap.objs.size) (.ref a) = false := by simp [Builtin.List.listSameRef, hSI]
  have h2 : (Value.type "generator" == Value.type "list") = false := by decide
  have h3 : (Value.type "generator" == Value.type "tuple") = false := by decide
  simp only [h1, h2, h3, Bool.or_false, Bool.false_eq_true, if_false]
  refine wpAny_bind (wpAny_pyIter_gen hst₁.1 ?_)
  refine wpAny_bind (wpAny_holding ?_)
  unfold Builtin.List.listLengthHint
  refine wpAny_bind (wpAny_specialOf hT PySem.F.gen_no_len ?_)
  show wpAny _ A.in1 (specialOf (Value.ref a) (Str.ofString "__length_hint__") >>= _) _ _ _
  refine wpAny_bind (wpAny_specialOf hT PySem.F.gen_no_hint ?_)
  refine wpAny_pure ?_
  show wpAny _ A.in1 (rule "list.extend.makes-room" >>= fun _ => Builtin.List.listTouch (.ref s.heap.objs.size) >>= fun _ =>
    again (.builtin "list.extend.loop" ⟨[.ref s.heap.objs.size, .ref a, .ref s.heap.objs.size], []⟩)) _ _ _
  refine wpAny_bind (wpAny_rule ?_)
  have hS₁ : (s.heap.push { cls := .type "list", data := .seq ([] : List Value).toArray }).get? s.heap.objs.size = some { cls := .type "list", data := .seq ([] : List Value).toArray } := Heap.get?_push_size _ rfl
  refine wpAny_bind ?_
  show wpAny _ A.in1 (updateSeq s.heap.objs.size (·.push .none) >>= fun _ => updateSeq s.heap.objs.size (·.pop)) _ _ _
  refine wpAny_bind (wpAny_updateSeq hS₁ rfl ?_)
  have hS₂ := Heap.get?_update_self (Obj.mapSeq (·.push Value.none)) hS₁ rfl
  refine wpAny_updateSeq hS₂ rfl ?_
  have hS₃ := Heap.get?_update_self (Obj.mapSeq (·.pop)) hS₂ rfl
  have oth : ∀ b o, b ≠ s.heap.objs.size → (s.heap.push { cls := .type "list", data := .seq ([] : List Value).toArray }).get? b = some o →
      (((s.heap.push { cls := .type "list", data := .seq ([] : List Value).toArray }).update s.heap.objs.size (Obj.mapSeq (·.push Value.none))).update s.heap.objs.size (Obj.mapSeq (·.pop))).get? b = some o :=
    fun b o hb e => (Heap.get?_update_other _ _ (Ne.symm hb)).trans ((Heap.get?_update_other _ _ (Ne.symm hb)).trans e)
  have all : ∀ b o, s.heap.get? b = some o → (((s.heap.push { cls := .type "list", data := .seq ([] : List Value).toArray }).update s.heap.objs.size (Obj.mapSeq (·.push Value.none))).update s.heap.objs.size (Obj.mapSeq (·.pop))).get? b = some o :=
    fun b o e => oth b o (Nat.ne_of_lt (Heap.lt_size e)) (Heap.get?_push_of_some _ e)
  refine wpAny_pure ⟨plainId_quiet PySem.F.plain_extend_loop _, extend_fail hns hroom hcs haC haw haf hcC hcw hout hj _ hSf hSw hSo _ j 0 _ _ _ rfl (Nat.zero_le _)
    (st.frame (tk := s.toks) hcs fun b _ o e => all b o e) (oo.ext all) hS₃ rfl fun e hR s' m fl => ?_⟩
  refine hE e hR s' ⟨fun b o hb q => ?_, m.gens, m.os⟩ fl
  refine m.heap b o (fun z => ?_) (all b o q)
  rcases List.mem_cons.mp z with rfl | z
  · exact Nat.lt_irrefl _ (Heap.lt_size q)
  · exact hb z
end
end Mine

end
section
open PySem PySem.W PySem.Builtin PySem.Builtin.ObjectAttr
open PyProof.Rows hiding wpAt wpAt_bind
set_option linter.unusedSectionVars false
set_option maxRecDepth 100000
set_option maxHeartbeats 1000000
set_option linter.unusedVariables false
namespace Mine
variable [aI : Membership Nat Unit]
section
variable {prog : Program} {w : World} {A : Around} {E : Value → Shared → Prop} {s : Shared} {G : GenTx} {env : Env} {cl : List (Str × Addr)} {x : Addr} {C d n : Nat} {vs : List Value} {Ts : Nat → Addr} {vals : Nat → Array Value} {a CL I gn : Nat} {cenv : Env} {outer : List Env} {cls : String}
theorem made_fail {Q : List Value → Shared → Prop} (M : GenMade G env cl x (accObj C d vs n) vs Ts vals a CL I gn cenv s) (hits : ∀ j, j < vs.length → vs[j]? = some (.ref (Ts j))) (h2 : ∀ j, ∃ va vb, vals j = #[va, vb]) (hh : A.handled = none) (hroom : A.depth < recursionLimit) (hlim : s.heap.NoLimit)
    (hco : G.scope.isCoroutine = false) (hxa : G.scope.names.lookup G.xa = some .local) (hxb : G.scope.names.lookup G.xb = some .local) (hab : G.xa ≠ G.xb) (hkind : G.scope.kind = .function) (hl : vs.length ≤ 100000) (hifs : G.ifs = [])
    (hns : isSubtype (.type cls) (.type "StopIteration") = pure false) (hfr : A.frames = some outer) (oo : OuterOk outer s.heap) (hout : ∀ b ∈ frs outer, b ≠ CL ∧ b ≠ I ∧ b ≠ a) (j : Nat) (hj : j < vs.length) (F : Nat → Value → Prop)
    (good : ∀ (A' : Around) (E' : Value → Shared → Prop) (i : Nat) (va vb : Value) (s₂ : Shared) (m₂ : Str → Option Value), A'.handled = none → A'.depth ≤ A.depth + 1 → A'.units ≤ A.units + 8 → i < j → vals i = #[va, vb] → s₂.heap.Ns CL m₂ → m₂ G.xa = some va → m₂ G.xb = some vb → (∀ b o, b < CL → b ≠ I → s.heap.get? b = some o → s₂.heap.get? b = some o) →
      wpAny (model prog w) A' (eval G.elt cenv) (fun y s₃ => F i y ∧ Keeps s₂ s₃) E' s₂)
    (bad : ∀ (A' : Around) (Q' E' : Value → Shared → Prop) (va vb : Value) (s₂ : Shared) (m₂ : Str → Option Value), A'.handled = none → A'.depth ≤ A.depth + 1 → A'.units ≤ A.units + 8 → vals j = #[va, vb] → s₂.heap.Ns CL m₂ → m₂ G.xa = some va → m₂ G.xb = some vb → (∀ b o, b < CL → b ≠ I → s.heap.get? b = some o → s₂.heap.get? b = some o) →
      (∀ h' tk e, Heap.NewExc s₂.heap h' e cls → E' (.ref e) { s₂ with heap := h', toks := tk }) → wpAny (model prog w) A' (eval G.elt cenv) Q' E' s₂)
    (hE : ∀ e hR s', Mv [CL, I] gn s { s' with heap := hR } → Flies outer (hideAll hR [CL]) e cls s'.heap → E (.ref e) s') : wpAny (model prog w) A (collect (.ref a)) Q E s := by
  obtain ⟨⟨code, bi, hce, hbi⟩, hg, hgst, hns', hit, hob, htup, ⟨l1, l2, l3, l4, l5, l6⟩, n1, n2, n3⟩ := M
  subst hce
  obtain ⟨elt, iter, ifs, xa, xb, pa, pb, pt, kt, scope, pos⟩ := G
  dsimp only at *
  subst hifs
  have W₀ : ∀ A' : Around, A'.handled = none → WalksU prog w A' I (List.range CL) [I] vs.length (fun j v => j < vs.length ∧ v = vals j) _ _ := fun A' hA => (walks_pairs hA I x n1 (accObj C d vs n) n vs rfl Ts vals hits n2).mono_fp fun b hb => by
    refine List.mem_range.mpr ?_
    rcases List.mem_cons.mp hb with rfl | hb
    · exact l2
    · rcases List.mem_cons.mp hb with rfl | hb
      · exact l1
      · obtain ⟨j, hj, rfl⟩ := List.mem_map.mp hb
        exact l4 j (List.mem_range.mp hj)
  have at0 : GenAtX prog w A.in1 a gn CL (List.range CL) [I] outer j F cls 0 s := by
    refine ⟨hg, hlim, _, hgst, fun s'' hal oo'' => ⟨rfl, ?_⟩⟩
    have hst : _ := (W₀ A hh).frame 0 s.heap s''.heap ⟨⟨_, hit, rfl, rfl⟩, hob, htup⟩ fun b hb o e => hal b (List.mem_cons_of_mem _ hb) o e
    have loop := seg_failLoop (prog := prog) (w := w) (A := A.in1.in1) (outer := outer) (cls := cls) (elt := elt) (iter := iter) (xa := xa) (xb := xb) (pa := pa) (pb := pb) (pt := pt) (kt := kt) (scope := scope) (pos := pos) (cenv := genEnv scope cl CL code bi env) (j := j) hh hfr W₀ (fun i v z => by
        obtain ⟨va, vb, e⟩ := h2 i
        exact ⟨va, vb, z.2.trans e⟩) hab F s.heap hxa hxb (by simp [genEnv, hkind]) hco (fun h => Nat.lt_irrefl _ (List.mem_range.mp h)) rfl (by show scope.kind ≠ _; rw [hkind]; intro z; cases z)
        (fun b hb => ⟨(hout b hb).1, fun z => (hout b hb).2.1 (List.mem_singleton.mp z)⟩) hj
        (fun A' E' i va vb s₂ m₂ hA hD hU hij hP hn hma hmb hkp => good A' E' i va vb s₂ m₂ hA hD (Nat.le_trans hU (by show A.units + 1 + 1 + 3 ≤ A.units + 8; omega)) hij hP.2.symm hn hma hmb fun b o hb hbI e => hkp b (List.mem_range.mpr hb) (fun z => hbI (List.mem_singleton.mp z)) o e)
        (fun A' Q' E' va vb s₂ m₂ hA hD hU hP hn hma hmb hkp hne => bad A' Q' E' va vb s₂ m₂ hA hD (Nat.le_trans hU (by show A.units + 1 + 1 + 3 ≤ A.units + 8; omega)) hP.2.symm hn hma hmb (fun b o hb hbI e => hkp b (List.mem_range.mpr hb) (fun z => hbI (List.mem_singleton.mp z)) o e) hne)
        j 0 s'' s'' _ rfl (Nat.zero_le _) hst (hns'.at' fun o e => hal _ (List.mem_cons_self ..) o e) (GenSince.refl _ _ _) (fun b hb _ o e => hal b (List.mem_cons_of_mem _ hb) o e) oo''
    have hh' : (A.in1.in1.over (.compStart (.GeneratorExp elt [⟨.Tuple [.Name xa pa, .Name xb pb] kt pt, iter, [], 0⟩] scope pos) 0 (.ref I) .none (genEnv scope cl CL code bi env)) []).handled = none := hh
    show Seg _ _ _ _ _ s'' _ ((compStart (.GeneratorExp elt [⟨.Tuple [.Name xa pa, .Name xb pb] kt pt, iter, [], 0⟩] scope pos) 0 (.ref I) .none (genEnv scope cl CL code bi env)).onRaise (leaving (genEnv scope cl CL code bi env))) [] s''
    unfold compStart
    rw [Sem.onRaise_eq_wrap]
    show Seg _ _ _ _ _ s'' _ ((ask >>= _).wrap _ _ _ _) [] s''
    refine seg_bind_wrap (wpAny_askSetting ?_)
    split
    · exact seg_again rfl loop
    · first
        | exact seg_bind_wrap (wpAny_rule (seg_bind_wrap (wpAny_standAt (seg_bind_wrap ((W₀ _ hh').self 0 s'' _ _ hst (seg_again rfl loop))))))
        | (refine seg_bind_wrap (wpAny_rule ?_); show Seg _ _ _ _ _ s'' _ ((standAt iter.pos >>= _).wrap _ _ _ _) [] s''; exact seg_bind_wrap (wpAny_standAt (seg_bind_wrap ((W₀ _ hh').self 0 s'' _ _ hst (seg_again rfl loop)))))
  refine collect_fail hns hroom (List.mem_range.mpr l6) (Nat.ne_of_gt l3) (fun h => Nat.ne_of_gt (Nat.lt_trans l2 l3) (List.mem_singleton.mp h)) (fun h => (hout _ h).2.2 rfl) (Nat.ne_of_lt l6) (fun h => n3 (List.mem_singleton.mp h)) (fun b hb => ⟨(hout b hb).1, fun z => (hout b hb).2.1 (List.mem_singleton.mp z)⟩) (Nat.le_trans (Nat.le_of_lt hj) hl) (fun b hb => ?_) (fun b hb => by rw [List.mem_singleton.mp hb]; exact List.mem_range.mpr l2) at0 oo hE
  rcases List.mem_cons.mp hb with rfl | hb
  · exact l5
  · rcases List.mem_cons.mp hb with rfl | hb
    · exact Nat.lt_trans l3 l5
    · exact Nat.lt_trans (List.mem_range.mp hb) (Nat.lt_trans l3 l5)
end
end Mine

end
section
open PySem PySem.W PySem.Builtin PySem.Builtin.ObjectAttr
open PyProof.Rows hiding wpAt wpAt_bind
set_option linter.unusedSectionVars false
set_option maxRecDepth 100000
set_option maxHeartbeats 1000000
set_option linter.unusedVariables false
namespace Mine
variable [aI : Membership Nat Unit]
noncomputable def protoD (C : Addr) (fp wr : List Addr) (pz : Nat → Bool) (n₀ : Nat) (F : Nat → Value → Heap → Prop) : Protocol := fun m s₀ v s kap =>
  (∃ i, (passing pz n₀ 0)[(passing pz n₀ 0).length - 1 - m]? = some i ∧ F i v s.heap) ∧ (∀ b ∈ C :: wr, ∀ vs n, s.heap.get? b ≠ some (tupObj vs n)) ∧ GenSince C wr s₀ s ∧
    ∀ s'' : Shared, (∀ b ∈ C :: fp, ∀ o, s.heap.get? b = some o → s''.heap.get? b = some o) → kap (.send .none) s''
section
variable {prog : Program} {w : World} {A : Around} {elt iter : PySem.Expr} {xa xb : Str} {pa pb pt : Pos} {kt : Nat} {ifs : List PySem.Expr} {scope : Scope} {pos : Pos} {I : Addr} {fp wr : List Addr} {n₀ : Nat} {Pt : Nat → Array Value → Prop} {St₀ : Nat → Heap → Prop} {Mid : Nat → Addr → Heap → Prop} {cenv : Env}
theorem seg_doneLoop (hh : A.handled = none) (W₀ : ∀ A' : Around, A'.handled = none → WalksU prog w A' I fp wr n₀ Pt St₀ Mid) (hsz : ∀ i vals, Pt i vals → ∃ va vb, vals = #[va, vb]) (hab : xa ≠ xb) (pz : Nat → Bool) (F : Nat → Value → Heap → Prop) (href : Heap)
    (hxa : cenv.kindOf xa = some .local) (hxb : cenv.kindOf xb = some .local) (hp : (cenv.scope.kind == .class || (cenv.scope.kind == .module && cenv.locals != cenv.globals)) = false)
    (hco : cenv.scope.isCoroutine = false) (hCf : cenv.locals ∉ fp) (hnt : ∀ i h, St₀ i h → ∀ b ∈ wr, ∀ vs n, h.get? b ≠ some (tupObj vs n))
    (tests : ∀ (A' : Around) (E' : Value → Shared → Prop) (i : Nat) (va vb : Value) (s₂ : Shared) (m₂ : Str → Option Value), A'.handled = none → A'.depth ≤ A.depth + 1 → A'.units ≤ A.units + 3 → Pt i #[va, vb] → s₂.heap.Ns cenv.locals m₂ → m₂ xa = some va → m₂ xb = some vb → (∀ b ∈ fp, b ∉ wr → ∀ o, href.get? b = some o → s₂.heap.get? b = some o) →
      wpAny (model prog w) A' (forIn ifs true fun c r => if r = true then do let ok ← isTrue c cenv (eval c cenv); pure (ForInStep.yield ok) else pure (ForInStep.yield r)) (fun ok s₃ => ok = pz i ∧ Keeps s₂ s₃) E' s₂)
    (good : ∀ (A' : Around) (E' : Value → Shared → Prop) (i : Nat) (va vb : Value) (s₂ : Shared) (m₂ : Str → Option Value), A'.handled = none → A'.depth ≤ A.depth + 1 → A'.units ≤ A.units + 3 → Pt i #[va, vb] → pz i = true → s₂.heap.Ns cenv.locals m₂ → m₂ xa = some va → m₂ xb = some vb → (∀ b ∈ fp, b ∉ wr → ∀ o, href.get? b = some o → s₂.heap.get? b = some o) →
      wpAny (model prog w) A' (eval elt cenv) (fun y s₃ => F i y s₃.heap ∧ Keeps s₂ s₃) E' s₂) :
    ∀ (k i : Nat) (s₀ s : Shared) (m : Str → Option Value), n₀ - i = k → i ≤ n₀ → St₀ i s.heap → s.heap.Ns cenv.locals m → GenSince cenv.locals wr s₀ s →
      (∀ b ∈ fp, b ∉ wr → ∀ o, href.get? b = some o → s.heap.get? b = some o) →
      Seg (model prog w) A (fun n s₀ r s₁ => r = .ok .next ∧ (n = 0 ∧ GenSince cenv.locals wr s₀ s₁)) (protoD cenv.locals fp wr pz n₀ F) (passing pz n₀ i).length s₀
        (.compLoop (.GeneratorExp elt [⟨.Tuple [.Name xa pa, .Name xb pb] kt pt, iter, ifs, 0⟩] scope pos) 0 (.ref I) .none cenv)
        ((model prog w).den (.compLoop (.GeneratorExp elt [⟨.Tuple [.Name xa pa, .Name xb pb] kt pt, iter, ifs, 0⟩] scope pos) 0 (.ref I) .none cenv)) [] s := by
  have hh' : (A.over (.compLoop (.GeneratorExp elt [⟨.Tuple [.Name xa pa, .Name xb pb] kt pt, iter, ifs, 0⟩] scope pos) 0 (.ref I) .none cenv) []).handled = none := hh
  have hdep' : (A.over (.compLoop (.GeneratorExp elt [⟨.Tuple [.Name xa pa, .Name xb pb] kt pt, iter, ifs, 0⟩] scope pos) 0 (.ref I) .none cenv) []).depth ≤ A.depth + 1 := Nat.le_of_eq rfl
  have huni' : (A.over (.compLoop (.GeneratorExp elt [⟨.Tuple [.Name xa pa, .Name xb pb] kt pt, iter, ifs, 0⟩] scope pos) 0 (.ref I) .none cenv) []).units ≤ A.units + 3 := Nat.le_of_eq rfl
  have hCw : cenv.locals ∉ wr := fun h => hCf ((W₀ A hh).sub _ h)
  intro k
  induction k with
  | zero =>
    intro i s₀ s m hk hi hst hn hsince hkp
    have hin : i = n₀ := by omega
    subst hin
    show Seg _ A _ _ _ s₀ _ ((compTurn (.GeneratorExp elt [⟨.Tuple [.Name xa pa, .Name xb pb] kt pt, iter, ifs, 0⟩] scope pos) 0 (.ref I) .none cenv).onRaise (leaving cenv)) [] s
    rw [compTurn_gen, Sem.onRaise_eq_wrap]
    refine seg_bind_wrap (wpAny_standAt ?_)
    refine seg_bind_wrap ((W₀ _ hh').done s _ _ hst fun h' tk hk' => ?_)
    exact seg_end (.ok .next) ⟨rfl, by rw [passing_end]; rfl, hsince.step fun b o _ hw e => hk' b o hw e⟩
  | succ k ih =>
    intro i s₀ s m hk hi hst hn hsince hkp
    have hlt : i < n₀ := by omega
    show Seg _ A _ _ _ s₀ _ ((compTurn (.GeneratorExp elt [⟨.Tuple [.Name xa pa, .Name xb pb] kt pt, iter, ifs, 0⟩] scope pos) 0 (.ref I) .none cenv).onRaise (leaving cenv)) [] s
    rw [compTurn_gen, Sem.onRaise_eq_wrap]
    refine seg_bind_wrap (wpAny_standAt ?_)
    refine seg_bind_wrap ((W₀ _ hh').item i s _ _ hlt hst fun T vals h₁ tk₁ hPv hT₁ hmid hk₁ => ?_)
    obtain ⟨va, vb, rfl⟩ := hsz i vals hPv
    refine seg_bind_wrap ((W₀ _ hh').go _ _ _ i T _ _ _ hmid fun h₁' hst₁ hk₁' => ?_)
    have hT₁' : h₁'.IsTuple T #[va, vb] := let ⟨o, e, r⟩ := hT₁; ⟨o, hk₁' _ o ((W₀ _ hh').apart i T _ hmid) e, r⟩
    refine seg_bind_wrap (wpAny_assign_Tuple hh' hT₁' rfl rfl fun h₁'' hx₁ => ?_)
    replace hx₁ : Heap.ExtBut h₁'.objs.size h₁' h₁'' := hx₁
    have old₁ : ∀ b o, h₁'.get? b = some o → h₁''.get? b = some o := fun b o e => hx₁ b o (Nat.ne_of_lt (Heap.lt_size e)) e
    show wpAny _ _ (do holding [vb] (assign (.Name xa pa) cenv va); do holding [] (assign (.Name xb pb) cenv vb); pure ()) _ _ _
    refine wpAny_bind (wpAny_holding (wpAny_assign_Name (wpAny_storeName_local hxa (hn.at' fun o e => old₁ _ o (hk₁' _ o hCw (hk₁ _ o hCw e))) (fun h₂a hn₂a hs₂a => ?_) hp)))
    replace hs₂a : Heap.SameBut cenv.locals h₁'' h₂a := hs₂a
    refine wpAny_bind (wpAny_holding (wpAny_assign_Name (wpAny_storeName_local hxb hn₂a (fun h₂ hn₂ hs₂ => wpAny_pure ?_) hp)))
    replace hs₂ : Heap.SameBut cenv.locals h₂a h₂ := hs₂
    have up₂ : ∀ b o, b ≠ cenv.locals → b ∉ wr → s.heap.get? b = some o → h₂.get? b = some o := fun b o hbC hbw e => hs₂.extBut b o hbC (hs₂a.extBut b o hbC (old₁ b o (hk₁' b o hbw (hk₁ b o hbw e))))
    have hst₂ : St₀ (i + 1) h₂ := (W₀ A hh).frame _ _ _ hst₁ fun b hb o e => hs₂.extBut b o (fun h => hCf (h ▸ hb)) (hs₂a.extBut b o (fun h => hCf (h ▸ hb)) (old₁ b o e))
    have hkp₂ : ∀ b ∈ fp, b ∉ wr → ∀ o, href.get? b = some o → h₂.get? b = some o := fun b hb hbw o e => up₂ b o (fun h => hCf (h ▸ hb)) hbw (hkp b hb hbw o e)
    refine seg_bind_wrap (wpAny_mono (tests _ _ i va vb _ _ hh' hdep' huni' hPv hn₂ (by simp [hab]) (by simp) hkp₂) (fun ok s₃ h₃ => ?_) fun _ _ e => e)
    obtain ⟨rfl, h₃, tk₃, rfl, hk₃⟩ := h₃
    have hst₃ : St₀ (i + 1) h₃ := (W₀ A hh).frame _ _ _ hst₂ fun b _ o e => hk₃ b o e
    have hn₃ := hn₂.keeps hk₃
    have hsince₃ : GenSince cenv.locals wr s₀ { s with heap := h₃, toks := tk₃ } := hsince.step fun b o hbC hbw e => hk₃ b o (up₂ b o hbC hbw e)
    cases hpz : pz i with
    | false =>
      rw [passing_false hlt hpz]
      simp only [Bool.false_eq_true, if_false]
      exact seg_again rfl (ih (i + 1) s₀ _ _ (by omega) hlt hst₃ hn₃ hsince₃ fun b hb hbw o e => hk₃ b o (hkp₂ b hb hbw o e))
    | true =>
      rw [passing_true hlt hpz, List.length_cons]
      simp only [if_true]
      have hy : ∀ v, yieldOut cenv v = yieldValue v := fun v => by simp only [yieldOut, hco, Bool.false_eq_true, if_false]
      simp only [hy]
      rw [Sem.bind_eq_wrap', Sem.bind_eq_wrap', Sem.wrap_wrap, Sem.wrap_wrap]
      refine seg_wrap (wpAny_mono (good _ _ i va vb _ _ hh' hdep' huni' hPv hpz hn₃ (by simp [hab]) (by simp) fun b hb hbw o e => hk₃ b o (hkp₂ b hb hbw o e)) (fun y s₄ h₄ => ?_) fun _ _ e => e)
      obtain ⟨hFy, h₄, tk₄, rfl, hk₄⟩ := h₄
      have hst₄ : St₀ (i + 1) h₄ := (W₀ A hh).frame _ _ _ hst₃ fun b _ o e => hk₄ b o e
      have hn₄ := hn₃.keeps hk₄
      refine seg_at (seg_yield rfl rfl rfl ⟨⟨i, passing_here hlt hpz, hFy⟩, fun b hb vs n z => ?_, hsince₃.step fun b o _ _ e => hk₄ b o e, fun s'' hal => ?_⟩)
      · rcases List.mem_cons.mp hb with rfl | hb
        · exact ns_notTup hn₄ vs n z
        · exact hnt _ _ hst₄ b hb vs n z
      refine seg_again rfl (ih (i + 1) s'' s'' _ (by omega) hlt ((W₀ A hh).frame _ _ _ hst₃ fun b hb o e => hal b (List.mem_cons_of_mem _ hb) o (hk₄ b o e))
        ((hn₃.keeps hk₄).at' fun o e => hal _ (List.mem_cons_self ..) o e) (GenSince.refl _ _ _) fun b hb hbw o e => hal b (List.mem_cons_of_mem _ hb) o (hk₄ b o (hk₃ b o (hkp₂ b hb hbw o e))))
end
noncomputable def GenAtD (prog : Program) (w : World) (A : Around) (a g C : Nat) (fp wr : List Addr) (pz : Nat → Bool) (n₀ : Nat) (F : Nat → Value → Heap → Prop) (j : Nat) (s : Shared) : Prop :=
  s.heap.IsGen a g ∧ s.heap.NoLimit ∧ (∀ b ∈ C :: wr, ∀ vs n, s.heap.get? b ≠ some (tupObj vs n)) ∧ ∃ gs, s.gens[g]? = some gs ∧ ∀ s'' : Shared, (∀ b ∈ C :: fp, ∀ o, s.heap.get? b = some o → s''.heap.get? b = some o) →
    gs.Goes (model prog w) A.in1 (fun n s₀ r s₁ => r = .ok .next ∧ (n = 0 ∧ GenSince C wr s₀ s₁)) (protoD C fp wr pz n₀ F) ((passing pz n₀ 0).length - j) (.send .none) s''
end Mine

end
section
open PySem PySem.W PySem.Builtin PySem.Builtin.ObjectAttr
open PyProof.Rows hiding wpAt wpAt_bind
set_option linter.unusedSectionVars false
set_option maxRecDepth 100000
set_option maxHeartbeats 1000000
set_option linter.unusedVariables false
namespace Mine
variable [aI : Membership Nat Unit]
section
variable {prog : Program} {w : World} {A : Around} {E : Value → Shared → Prop} {s : Shared} {a g C : Nat} {fp wr : List Addr} {pz : Nat → Bool} {n₀ j : Nat} {F : Nat → Value → Heap → Prop}
theorem GenAtD.frame {h' : Heap} {tk : Nat} (st : GenAtD prog w A a g C fp wr pz n₀ F j s) (hcs : cStatics ∈ fp) (hnt : ∀ b ∈ C :: wr, ∀ vs n, h'.get? b ≠ some (tupObj vs n)) (hk : ∀ b ∈ a :: C :: fp, ∀ o, s.heap.get? b = some o → h'.get? b = some o) : GenAtD prog w A a g C fp wr pz n₀ F j { s with heap := h', toks := tk } :=
  ⟨let ⟨o, nm, qn, ho, r⟩ := st.1; ⟨o, nm, qn, hk a (List.mem_cons_self ..) o ho, r⟩,
   (let ⟨mc, hns, hnn⟩ := st.2.1; ⟨mc, hns.at' fun o e => hk cStatics (List.mem_cons_of_mem _ (List.mem_cons_of_mem _ hcs)) o e, hnn⟩), hnt,
   let ⟨gs, hgs, hgo⟩ := st.2.2.2; ⟨gs, hgs, fun s'' hal => hgo s'' (fun b hb o e => hal b hb o (hk b (List.mem_cons_of_mem _ hb) o e))⟩⟩
theorem Mv.pers {s' : Shared} (m : Mv (C :: wr) g s s') (hnt : ∀ b ∈ C :: wr, ∀ vs n, s.heap.get? b ≠ some (tupObj vs n)) : Pers s.heap s'.heap := fun b vs n _ e => m.heap b _ (fun hb => hnt b hb vs n e) e
theorem nextD_item {Q : Option Value → Shared → Prop} (hh : A.handled = none) (hroom : A.depth < recursionLimit) (st : GenAtD prog w A a g C fp wr pz n₀ F j s) (hj : j < (passing pz n₀ 0).length) (haC : a ≠ C) (haw : a ∉ wr) (hcC : cStatics ≠ C) (hcw : cStatics ∉ wr)
    (hQ : ∀ v s', (∃ i, (passing pz n₀ 0)[j]? = some i ∧ F i v s'.heap) → GenAtD prog w A a g C fp wr pz n₀ F (j + 1) s' → Mv (C :: wr) g s s' → Q (some v) s') : wpAny (model prog w) A (pyNext (.ref a)) Q E s := by
  obtain ⟨hg, hl, hnt, gs, hgs, hgo⟩ := st
  obtain ⟨m, hm⟩ : ∃ m, (passing pz n₀ 0).length - j = m + 1 := ⟨(passing pz n₀ 0).length - j - 1, by omega⟩
  rw [hm] at hgo
  refine wpAny_pyNext_genexpQ (P := fun n s₀ s₁ => n = 0 ∧ GenSince C wr s₀ s₁) hh hl hroom hg hgs (hgo _ fun _ _ _ e => e) (fun v s₁ gs' hb hv => ?_) (fun s₁ hp h' hk => ?_)
  · obtain ⟨⟨i, hi, hF⟩, hnt1, ⟨h₁, tk₁, rfl, hk₁⟩, hkap⟩ := hv
    have hidx : (passing pz n₀ 0).length - 1 - (m + 1 - 1) = j := by omega
    rw [hidx] at hi
    refine hQ v _ ⟨i, hi, hF⟩ ⟨let ⟨o, nm, qn, ho, r⟩ := hg; ⟨o, nm, qn, hk₁ a o haC haw ho, r⟩, (let ⟨mc, hns, hnn⟩ := hl; ⟨mc, hns.at' fun o e => hk₁ cStatics o hcC hcw e, hnn⟩), hnt1, gs', setGen_self (gs := .running) (setGen_self hgs), fun s'' hal => ?_⟩
      ⟨fun b o hb e => hk₁ b o (fun h => hb (h ▸ List.mem_cons_self ..)) (fun h => hb (List.mem_cons_of_mem _ h)) e, GenOnlyQ.of ((GenOnly.setGen s g .running).trans (GenOnly.setGen _ g gs')) (setGen_self (gs := .running) (setGen_self hgs)) hb, rfl⟩
    have e : (passing pz n₀ 0).length - (j + 1) = m := by omega
    rw [e]
    exact hkap s'' hal
  · exact absurd hp.1 (Nat.succ_ne_zero m)
theorem nextD_done {Q : Option Value → Shared → Prop} (hh : A.handled = none) (hroom : A.depth < recursionLimit) (st : GenAtD prog w A a g C fp wr pz n₀ F (passing pz n₀ 0).length s)
    (hQ : ∀ s', Mv (C :: wr) g s s' → Q none s') : wpAny (model prog w) A (pyNext (.ref a)) Q E s := by
  obtain ⟨hg, hl, hnt, gs, hgs, hgo⟩ := st
  rw [Nat.sub_self] at hgo
  refine wpAny_pyNext_genexpQ (P := fun n s₀ s₁ => n = 0 ∧ GenSince C wr s₀ s₁) hh hl hroom hg hgs (hgo _ fun _ _ _ e => e) (fun v s₁ gs' hb hv => ?_) (fun s₁ hp h' hk => ?_)
  · obtain ⟨_, _, _, hkap⟩ := hv
    exact False.elim (hkap s₁ fun _ _ _ e => e)
  · obtain ⟨_, h₁, tk₁, rfl, hk₁⟩ := hp
    exact hQ _ ⟨fun b o hb e => hk b o (hk₁ b o (fun h => hb (h ▸ List.mem_cons_self ..)) (fun h => hb (List.mem_cons_of_mem _ h)) e), GenOnlyQ.of ((GenOnly.setGen s g .running).trans (GenOnly.setGen _ g .finished)) (setGen_self (gs := .running) (setGen_self hgs)) rfl, rfl⟩
end
section
variable {prog : Program} {w : World} {A : Around} {E : Value → Shared → Prop} {s : Shared} {a g C : Nat} {fp wr : List Addr} {pz : Nat → Bool} {n₀ j : Nat} {dv : Nat → Dv}
theorem extend_done (hh : A.handled = none) (hroom : A.depth < recursionLimit) (hcs : cStatics ∈ fp) (haC : a ≠ C) (haw : a ∉ wr) (hcC : cStatics ≠ C) (hcw : cStatics ∉ wr) (hN : (passing pz n₀ 0).length ≤ 100000) (S : Addr) (hSf : S ∉ a :: C :: fp) (hSw : S ∉ wr) (res : Value) {R : Result → Shared → Prop} :
    ∀ (k j : Nat) (s : Shared) (acc : Array Value) (c : Nat), (passing pz n₀ 0).length - j = k → j ≤ (passing pz n₀ 0).length → GenAtD prog w A.in1 a g C fp wr pz n₀ (fun i v h => VR h v (dv i)) j s → s.heap.get? S = some { cls := .type "list", dict := none, data := .seq acc c, slots := #[] } → VRs s.heap acc.toList (((passing pz n₀ 0).take j).map dv) →
    (∀ s' acc' c', Mv (S :: C :: wr) g s s' → Pers s.heap s'.heap → s'.heap.get? S = some { cls := .type "list", dict := none, data := .seq acc' c', slots := #[] } → VRs s'.heap acc'.toList ((passing pz n₀ 0).map dv) → R (.ok (.ret res)) s') →
    codeAny (model prog w) A (.builtin "list.extend.loop" ⟨[.ref S, .ref a, res], []⟩) R s := by
  have hSC : S ≠ C := fun h => hSf (by rw [h]; simp)
  have hSm : S ∉ C :: wr := by simp only [List.mem_cons, not_or]; exact ⟨hSC, hSw⟩
  intro k
  induction k with
  | zero =>
    intro j s acc c hk hj hst hS hacc hR
    have hjn : j = (passing pz n₀ 0).length := by omega
    subst hjn
    refine codeAny_builtin PySem.F.entry_extend_loop ?_
    rw [Around.under_plainId PySem.F.plain_extend_loop _]
    show wpAny _ A.in1 (pyNext (.ref a) >>= _) _ _ s
    have hnt := hst.2.2.1
    refine wpAny_bind (nextD_done hh hroom hst fun s' m => ?_)
    have pp := m.pers hnt
    rw [List.take_of_length_le (Nat.le_refl _)] at hacc
    exact wpAny_pure (hR s' acc c (m.mono fun p hp => List.mem_cons_of_mem _ hp) pp (m.heap S _ hSm hS) (hacc.mono pp))
  | succ k ih =>
    intro j s acc c hk hj hst hS hacc hR
    have hlt : j < (passing pz n₀ 0).length := by omega
    refine codeAny_builtin PySem.F.entry_extend_loop ?_
    rw [Around.under_plainId PySem.F.plain_extend_loop _]
    show wpAny _ A.in1 (pyNext (.ref a) >>= _) _ _ s
    have hnt := hst.2.2.1
    refine wpAny_bind (nextD_item hh hroom hst hlt haC haw hcC hcw fun v s' ⟨i, hi, hv⟩ hst' hm => ?_)
    have pp := hm.pers hnt
    have hnt' := hst'.2.2.1
    have hS' := hm.heap S _ hSm hS
    show wpAny _ A.in1 (updateSeq S (·.push v) >>= _) _ _ _
    refine wpAny_bind ?_
    have oth : ∀ b o, b ≠ S → s'.heap.get? b = some o → (s'.heap.update S (Obj.mapSeq (·.push v))).get? b = some o := fun b o hb e => (Heap.get?_update_other _ _ (Ne.symm hb)).trans e
    have p2 : Pers s'.heap (s'.heap.update S (Obj.mapSeq (·.push v))) := fun b vs n _ e => oth b _ (fun z => by rw [z, hS'] at e; simp at e) e
    have hsz : acc.size = j := by
      have h1 := hacc.length
      rw [List.length_map, List.length_take, Nat.min_eq_left (Nat.le_of_lt hlt)] at h1
      simpa using h1
    refine wpAny_updateSeq hS' rfl (wpAny_pure ⟨plainId_quiet PySem.F.plain_extend_loop _, ih (j + 1) _ (acc.push v) _ (by omega) hlt (hst'.frame (tk := s'.toks) hcs (fun b hb vs n z => hnt' b hb vs n ?_) fun b hb o e => oth b o (fun h => hSf (h ▸ hb)) e) (Heap.get?_update_self _ hS' rfl) ?_ fun s'' acc' c' hm'' p3 hS'' hv'' => ?_⟩)
      (by rw [hsz]; unfold sizeLine; omega) (by show (acc.push v).size ≤ sizeLine + 1; rw [Array.size_push, hsz]; unfold sizeLine; omega)
    · rw [← z]
      exact (Heap.get?_update_other _ _ (fun q : S = b => hSm (by rw [q]; exact hb))).symm
    · rw [Array.toList_push, List.take_add_one, hi, List.map_append]
      exact ((hacc.mono pp).mono p2).append (.cons (hv.mono p2) .nil)
    · exact hR s'' acc' c' (Mv.trans (b := { s' with heap := s'.heap.update S (Obj.mapSeq (·.push v)) }) ⟨fun b o hb e => oth b o (fun h => hb (h ▸ List.mem_cons_self ..)) (hm.heap b o (fun h => hb (List.mem_cons_of_mem _ h)) e), hm.gens, hm.os⟩ hm'') (pp.trans (p2.trans p3)) hS'' hv''
theorem collect_done {Q : List Value → Shared → Prop} (hh : A.handled = none) (hroom : A.depth < recursionLimit) (hcs : cStatics ∈ fp) (haC : a ≠ C) (haw : a ∉ wr) (hcC : cStatics ≠ C) (hcw : cStatics ∉ wr) (hN : (passing pz n₀ 0).length ≤ 100000)
    (hfp : ∀ b ∈ a :: C :: fp, b < s.heap.objs.size) (hwp : ∀ b ∈ wr, b ∈ fp) (st : GenAtD prog w A.in1 a g C fp wr pz n₀ (fun i v h => VR h v (dv i)) 0 s)
    (hQ : ∀ s' xs, Mv (C :: wr) g s s' → Pers s.heap s'.heap → VRs s'.heap xs ((passing pz n₀ 0).map dv) → Q xs s') : wpAny (model prog w) A (collect (.ref a)) Q E s := by
  have hSf : s.heap.objs.size ∉ a :: C :: fp := fun hm => Nat.lt_irrefl _ (hfp _ hm)
  have hSI : s.heap.objs.size ≠ a := fun e => hSf (e ▸ List.mem_cons_self ..)
  have hSw : s.heap.objs.size ∉ wr := fun hm => hSf (List.mem_cons_of_mem _ (List.mem_cons_of_mem _ (hwp _ hm)))
  have hSm : s.heap.objs.size ∉ C :: wr := fun hm => by
    rcases List.mem_cons.mp hm with z | hm
    · exact hSf (by rw [z]; simp)
    · exact hSw hm
  have hnt := st.2.2.1
  unfold collect
  refine wpAny_bind (wpAny_runValue (codeAny_builtin PySem.F.entry_proto_collect ?_))
  rw [Around.under_plainId PySem.F.plain_proto_collect _]
  show wpAny _ A.in1 (newList [] >>= fun l => again (.builtin "list.__iadd__" ⟨[l, .ref a], []⟩)) _ _ s
  refine wpAny_bind (wpAny_newObj_type ?_)
  refine wpAny_pure ⟨plainId_quiet PySem.F.plain_list_iadd _, codeAny_builtin PySem.F.entry_list_iadd ?_⟩
  rw [Around.under_plainId PySem.F.plain_list_iadd _]
  have hT : ({ s with heap := s.heap.push { cls := .type "list", data := .seq ([] : List Value).toArray } } : Shared).TypeIs (.ref a) "generator" := by
    obtain ⟨o, nm, qn, ho, hc, _⟩ := st.1
    exact ⟨o, Heap.get?_push_of_some _ ho, hc⟩
  have hG : (s.heap.push { cls := .type "list", data := .seq ([] : List Value).toArray }).IsGen a g := st.1.push _
  show wpAny _ A.in1 (Builtin.List.listExtendWith (.ref s.heap.objs.size) (.ref a) (.ref s.heap.objs.size)) _ _ _
  unfold Builtin.List.listExtendWith
  refine wpAny_bind (wpAny_typeOf hT ?_)
  have h1 : Builtin.List.listSameRef (.ref s.heap.objs.size) (.ref a) = false := by simp [Builtin.List.listSameRef, hSI]
  have h2 : (Value.type "generator" == Value.type "list") = false := by decide
  have h3 : (Value.type "generator" == Value.type "tuple") = false := by decide
  simp only [h1, h2, h3, Bool.or_false, Bool.false_eq_true, if_false]
  refine wpAny_bind (wpAny_pyIter_gen hG ?_)
  refine wpAny_bind (wpAny_holding ?_)
  unfold Builtin.List.listLengthHint
  refine wpAny_bind (wpAny_specialOf hT PySem.F.gen_no_len ?_)
  show wpAny _ A.in1 (specialOf (Value.ref a) (Str.ofString "__length_hint__") >>= _) _ _ _
  refine wpAny_bind (wpAny_specialOf hT PySem.F.gen_no_hint ?_)
  refine wpAny_pure ?_
  show wpAny _ A.in1 (rule "list.extend.makes-room" >>= fun _ => Builtin.List.listTouch (.ref s.heap.objs.size) >>= fun _ =>
    again (.builtin "list.extend.loop" ⟨[.ref s.heap.objs.size, .ref a, .ref s.heap.objs.size], []⟩)) _ _ _
  refine wpAny_bind (wpAny_rule ?_)
  have hS₁ : (s.heap.push { cls := .type "list", data := .seq ([] : List Value).toArray }).get? s.heap.objs.size = some { cls := .type "list", data := .seq ([] : List Value).toArray } := Heap.get?_push_size _ rfl
  refine wpAny_bind ?_
  show wpAny _ A.in1 (updateSeq s.heap.objs.size (·.push .none) >>= fun _ => updateSeq s.heap.objs.size (·.pop)) _ _ _
  refine wpAny_bind (wpAny_updateSeq hS₁ rfl ?_)
  have hS₂ := Heap.get?_update_self (Obj.mapSeq (·.push Value.none)) hS₁ rfl
  refine wpAny_updateSeq hS₂ rfl ?_
  have hS₃ := Heap.get?_update_self (Obj.mapSeq (·.pop)) hS₂ rfl
  have same : ∀ b, b ≠ s.heap.objs.size → (((s.heap.push { cls := .type "list", data := .seq ([] : List Value).toArray }).update s.heap.objs.size (Obj.mapSeq (·.push Value.none))).update s.heap.objs.size (Obj.mapSeq (·.pop))).get? b = (s.heap.push { cls := .type "list", data := .seq ([] : List Value).toArray }).get? b :=
    fun b hb => (Heap.get?_update_other _ _ (Ne.symm hb)).trans (Heap.get?_update_other _ _ (Ne.symm hb))
  have all : ∀ b o, s.heap.get? b = some o → (((s.heap.push { cls := .type "list", data := .seq ([] : List Value).toArray }).update s.heap.objs.size (Obj.mapSeq (·.push Value.none))).update s.heap.objs.size (Obj.mapSeq (·.pop))).get? b = some o :=
    fun b o e => (same b (Nat.ne_of_lt (Heap.lt_size e))).trans (Heap.get?_push_of_some _ e)
  refine wpAny_pure ⟨plainId_quiet PySem.F.plain_extend_loop _, extend_done hh hroom hcs haC haw hcC hcw hN _ hSf hSw _ (passing pz n₀ 0).length 0 _ #[] _ rfl (Nat.zero_le _)
    (st.frame (tk := s.toks) hcs (fun b hb vs n z => hnt b hb vs n ?_) fun b _ o e => all b o e) hS₃ (by rw [List.take_zero]; exact .nil) fun s' acc' c' m pp hS' hv => ?_⟩
  · have hbS : b ≠ s.heap.objs.size := fun q => hSm (q ▸ hb)
    rw [same b hbS] at z
    rcases Heap.get?_push_cases z with ⟨q, _⟩ | q
    · exact absurd q hbS
    · exact q
  · show wpAny _ A (load s.heap.objs.size >>= _) _ _ s'
    refine wpAny_bind (wpAny_load hS' ?_)
    refine wpAny_pure (hQ s' acc'.toList ⟨fun b o hb q => ?_, m.gens, m.os⟩ ((Ext.pers all).trans pp) hv)
    refine m.heap b o (fun z => ?_) (all b o q)
    rcases List.mem_cons.mp z with rfl | z
    · exact Nat.lt_irrefl _ (Heap.lt_size q)
    · exact hb z
end
end Mine

end
section
open PySem PySem.W PySem.Builtin PySem.Builtin.ObjectAttr
open PyProof.Rows hiding wpAt wpAt_bind
set_option linter.unusedSectionVars false
set_option maxRecDepth 100000
set_option maxHeartbeats 1000000
set_option linter.unusedVariables false
namespace Mine
variable [aI : Membership Nat Unit]
section
variable {prog : Program} {w : World} {A : Around} {E : Value → Shared → Prop} {s : Shared} {G : GenTx} {env : Env} {cl : List (Str × Addr)} {x : Addr} {C d n : Nat} {vs : List Value} {Ts : Nat → Addr} {vals : Nat → Array Value} {a CL I gn : Nat} {cenv : Env}
theorem made_done {Q : List Value → Shared → Prop} (M : GenMade G env cl x (accObj C d vs n) vs Ts vals a CL I gn cenv s) (hits : ∀ j, j < vs.length → vs[j]? = some (.ref (Ts j))) (h2 : ∀ j, ∃ va vb, vals j = #[va, vb]) (hh : A.handled = none) (hroom : A.depth < recursionLimit) (hlim : s.heap.NoLimit)
    (hco : G.scope.isCoroutine = false) (hxa : G.scope.names.lookup G.xa = some .local) (hxb : G.scope.names.lookup G.xb = some .local) (hab : G.xa ≠ G.xb) (hkind : G.scope.kind = .function) (hl : vs.length ≤ 100000)
    (pz : Nat → Bool) (dv : Nat → Dv)
    (tests : ∀ (A' : Around) (E' : Value → Shared → Prop) (i : Nat) (va vb : Value) (s₂ : Shared) (m₂ : Str → Option Value), A'.handled = none → A'.depth ≤ A.depth + 1 → A'.units ≤ A.units + 8 → i < vs.length → vals i = #[va, vb] → s₂.heap.Ns CL m₂ → m₂ G.xa = some va → m₂ G.xb = some vb → (∀ b o, b < CL → b ≠ I → s.heap.get? b = some o → s₂.heap.get? b = some o) →
      wpAny (model prog w) A' (forIn G.ifs true fun c r => if r = true then do let ok ← isTrue c cenv (eval c cenv); pure (ForInStep.yield ok) else pure (ForInStep.yield r)) (fun ok s₃ => ok = pz i ∧ Keeps s₂ s₃) E' s₂)
    (elt : ∀ (A' : Around) (E' : Value → Shared → Prop) (i : Nat) (va vb : Value) (s₂ : Shared) (m₂ : Str → Option Value), A'.handled = none → A'.depth ≤ A.depth + 1 → A'.units ≤ A.units + 8 → i < vs.length → vals i = #[va, vb] → pz i = true → s₂.heap.Ns CL m₂ → m₂ G.xa = some va → m₂ G.xb = some vb → (∀ b o, b < CL → b ≠ I → s.heap.get? b = some o → s₂.heap.get? b = some o) →
      wpAny (model prog w) A' (eval G.elt cenv) (fun y s₃ => VR s₃.heap y (dv i) ∧ Keeps s₂ s₃) E' s₂)
    (k : ∀ s' xs, Mv [CL, I] gn s s' → Pers s.heap s'.heap → VRs s'.heap xs ((passing pz vs.length 0).map dv) → Q xs s') :
    wpAny (model prog w) A (collect (.ref a)) Q E s := by
  obtain ⟨⟨code, bi, hce, hbi⟩, hg, hgst, hns, hit, hob, htup, ⟨l1, l2, l3, l4, l5, l6⟩, n1, n2, n3⟩ := M
  subst hce
  obtain ⟨eltx, iter, ifs, xa, xb, pa, pb, pt, kt, scope, pos⟩ := G
  dsimp only at *
  have hpl : (passing pz vs.length 0).length ≤ vs.length := by
    unfold passing
    rw [List.drop_zero]
    exact Nat.le_trans (List.length_filter_le _ _) (by rw [List.length_range]; exact Nat.le_refl _)
  have W₀ : ∀ A' : Around, A'.handled = none → WalksU prog w A' I (List.range CL) [I] vs.length (fun j v => j < vs.length ∧ v = vals j) (fun j h => h.IsListIter I x j ∧ h.get? x = some (accObj C d vs n) ∧ ∀ k, k < vs.length → h.IsTuple (Ts k) (vals k)) _ := fun A' hA => (walks_pairs hA I x n1 (accObj C d vs n) n vs rfl Ts vals hits n2).mono_fp fun b hb => by
    refine List.mem_range.mpr ?_
    rcases List.mem_cons.mp hb with rfl | hb
    · exact l2
    · rcases List.mem_cons.mp hb with rfl | hb
      · exact l1
      · obtain ⟨j, hj, rfl⟩ := List.mem_map.mp hb
        exact l4 j (List.mem_range.mp hj)
  have hntI : ∀ (i : Nat) (h : Heap), (h.IsListIter I x i ∧ h.get? x = some (accObj C d vs n) ∧ ∀ k, k < vs.length → h.IsTuple (Ts k) (vals k)) → ∀ b ∈ [I], ∀ ws k, h.get? b ≠ some (tupObj ws k) := fun i h st b hb ws k z => by
    rw [List.mem_singleton.mp hb] at z
    obtain ⟨o, e, q, _⟩ := st.1
    rw [e] at z
    injection z with z
    rw [z] at q
    simp at q
  have at0 : GenAtD prog w A.in1 a gn CL (List.range CL) [I] pz vs.length (fun i v h => VR h v (dv i)) 0 s := by
    refine ⟨hg, hlim, fun b hb ws kk z => ?_, _, hgst, fun s'' hal => ⟨rfl, ?_⟩⟩
    · rcases List.mem_cons.mp hb with rfl | hb
      · exact ns_notTup hns ws kk z
      · exact hntI 0 s.heap ⟨⟨_, hit, rfl, rfl⟩, hob, htup⟩ b hb ws kk z
    have hst : _ := (W₀ A hh).frame 0 s.heap s''.heap ⟨⟨_, hit, rfl, rfl⟩, hob, htup⟩ fun b hb o e => hal b (List.mem_cons_of_mem _ hb) o e
    have loop := seg_doneLoop (prog := prog) (w := w) (A := A.in1.in1) (elt := eltx) (iter := iter) (xa := xa) (xb := xb) (pa := pa) (pb := pb) (pt := pt) (kt := kt) (ifs := ifs) (scope := scope) (pos := pos) (cenv := genEnv scope cl CL code bi env) hh W₀ (fun i v z => by
        obtain ⟨va, vb, e⟩ := h2 i
        exact ⟨va, vb, z.2.trans e⟩) hab pz (fun i v h => VR h v (dv i)) s.heap hxa hxb (by simp [genEnv, hkind]) hco (fun h => Nat.lt_irrefl _ (List.mem_range.mp h)) hntI
        (fun A' E' i va vb s₂ m₂ hA hD hU hP hn hma hmb hkp => tests A' E' i va vb s₂ m₂ hA hD (Nat.le_trans hU (by show A.units + 1 + 1 + 3 ≤ A.units + 8; omega)) hP.1 hP.2.symm hn hma hmb fun b o hb hbI e => hkp b (List.mem_range.mpr hb) (fun z => hbI (List.mem_singleton.mp z)) o e)
        (fun A' E' i va vb s₂ m₂ hA hD hU hP hpz hn hma hmb hkp => elt A' E' i va vb s₂ m₂ hA hD (Nat.le_trans hU (by show A.units + 1 + 1 + 3 ≤ A.units + 8; omega)) hP.1 hP.2.symm hpz hn hma hmb fun b o hb hbI e => hkp b (List.mem_range.mpr hb) (fun z => hbI (List.mem_singleton.mp z)) o e)
        vs.length 0 s'' s'' _ rfl (Nat.zero_le _) hst (hns.at' fun o e => hal _ (List.mem_cons_self ..) o e) (GenSince.refl _ _ _) (fun b hb _ o e => hal b (List.mem_cons_of_mem _ hb) o e)
    have hh' : (A.in1.in1.over (.compStart (.GeneratorExp eltx [⟨.Tuple [.Name xa pa, .Name xb pb] kt pt, iter, ifs, 0⟩] scope pos) 0 (.ref I) .none (genEnv scope cl CL code bi env)) []).handled = none := hh
    show Seg _ _ _ _ _ s'' _ ((compStart (.GeneratorExp eltx [⟨.Tuple [.Name xa pa, .Name xb pb] kt pt, iter, ifs, 0⟩] scope pos) 0 (.ref I) .none (genEnv scope cl CL code bi env)).onRaise (leaving (genEnv scope cl CL code bi env))) [] s''
    unfold compStart
    rw [Sem.onRaise_eq_wrap]
    show Seg _ _ _ _ _ s'' _ ((ask >>= _).wrap _ _ _ _) [] s''
    refine seg_bind_wrap (wpAny_askSetting ?_)
    split
    · exact seg_again rfl loop
    · first
        | exact seg_bind_wrap (wpAny_rule (seg_bind_wrap (wpAny_standAt (seg_bind_wrap ((W₀ _ hh').self 0 s'' _ _ hst (seg_again rfl loop))))))
        | (refine seg_bind_wrap (wpAny_rule ?_); show Seg _ _ _ _ _ s'' _ ((standAt iter.pos >>= _).wrap _ _ _ _) [] s''; exact seg_bind_wrap (wpAny_standAt (seg_bind_wrap ((W₀ _ hh').self 0 s'' _ _ hst (seg_again rfl loop)))))
  refine collect_done hh hroom (List.mem_range.mpr l6) (Nat.ne_of_gt l3) (fun h => Nat.ne_of_gt (Nat.lt_trans l2 l3) (List.mem_singleton.mp h)) (Nat.ne_of_lt l6) (fun h => n3 (List.mem_singleton.mp h)) (Nat.le_trans hpl hl) (fun b hb => ?_) (fun b hb => by rw [List.mem_singleton.mp hb]; exact List.mem_range.mpr l2) at0 k
  rcases List.mem_cons.mp hb with rfl | hb
  · exact l5
  · rcases List.mem_cons.mp hb with rfl | hb
    · exact Nat.lt_trans l3 l5
    · exact Nat.lt_trans (List.mem_range.mp hb) (Nat.lt_trans l3 l5)
end
end Mine

end
section
open PySem PySem.W PySem.Builtin PySem.Builtin.ObjectAttr
open PyProof.Rows hiding wpAt wpAt_bind
set_option linter.unusedSectionVars false
set_option maxRecDepth 100000
set_option maxHeartbeats 1000000
set_option linter.unusedVariables false
namespace Mine
variable [aI : Membership Nat Unit]
noncomputable def FolP (prog : Program) (w : World) (o : Obj) : Prop := ∃ t1 t2 t3, o.IsDictOf (strKind prog w) [(("a" : Str), Value.str "b" t1), ("b", .str "c" t2), ("c", .str "d" t3)]
noncomputable abbrev FolO (prog : Program) (w : World) : AObj := .any (FolP prog w)
noncomputable def folD : Str → Option Str := fun x => if x = "a" then some "b" else if x = "b" then some "c" else if x = "c" then some "d" else none
theorem FolP.look {prog : Program} {w : World} {o : Obj} (h : FolP prog w o) : ∃ kvs, o.IsDictOf (strKind prog w) kvs ∧ ∀ x, match folD x with | some y => ∃ t, valueAt kvs x = some (.str y t) | none => valueAt kvs x = none := by
  obtain ⟨t1, t2, t3, q⟩ := h
  refine ⟨_, q, fun x => ?_⟩
  unfold folD valueAt
  by_cases ha : x = "a"
  · subst ha; exact ⟨t1, rfl⟩
  · by_cases hb : x = "b"
    · subst hb; exact ⟨t2, rfl⟩
    · by_cases hc : x = "c"
      · subst hc; exact ⟨t3, rfl⟩
      · simp only [ha, hb, hc, if_false]
        simp [Ne.symm ha, Ne.symm hb, Ne.symm hc]
section
variable {Γ : Fm} {loc : Loc} {own own' : Own} {Q : QV} {QQ : QF}
theorem ev_dict3 {k1 k2 k3 k4 k5 k6 : Nat} {p1 p2 p3 p4 p5 p6 pos : Pos} (hlim : ∀ h, Γ.K.In h → h.NoLimit) (q : ∀ a, (a == sysModules) = false → Q (.raw (.ref a)) loc ((a, FolO Γ.prog Γ.w) :: own)) :
    Ev Γ loc own (.Dict [some (.Constant (.str "a") k1 p1), some (.Constant (.str "b") k2 p2), some (.Constant (.str "c") k3 p3)] [.Constant (.str "b") k4 p4, .Constant (.str "c") k5 p5, .Constant (.str "d") k6 p6] pos) Q := by
  intro h₀ s g rel
  have ex : Ext s.heap (s.heap.push { cls := .type "dict", data := .dict #[] }) := Ext.push _
  refine wpAny_Dict_walk (knd := strKind Γ.prog Γ.w) (by rfl) rfl (by simp) (by simp) ?_
  refine pairTrees_cons_walk (Calls.Constant_str (Calls.Constant_str ?_))
  refine pairTrees_cons_walk (Calls.Constant_str (Calls.Constant_str ?_))
  refine pairTrees_cons_walk (Calls.Constant_str (Calls.Constant_str ?_))
  refine pairTrees_nil_walk ?_
  have hd0 : (s.heap.push { cls := .type "dict", data := .dict #[] }).DictOf (strKind Γ.prog Γ.w) s.heap.objs.size [] := ⟨_, #[], 0, Heap.get?_push_size _ rfl, ⟨rfl, rfl, rfl⟩, rfl, fun e he => by simp at he, .nil, by simp⟩
  refine display_done_str rfl (by show ([("a" : Str), "b", "c"]).Nodup; decide +kernel) hd0 fun h' hm hs => ?_
  have ext : Ext s.heap h' := fun b o e => hs.extBut b o (Nat.ne_of_lt (Heap.lt_size e)) (ex _ _ e)
  obtain ⟨o, ho, hD⟩ := Heap.dictOf_iff.mp hm
  have XK : Γ.K.In s.heap := g.kin.keeps rel.ow.keep
  obtain ⟨mc, hns, _⟩ := hlim _ XK
  have hlt : (2 : Nat) < s.heap.objs.size := hns.lt
  refine ⟨_, _, _, Pers.st (Ext.pers ext), rel.more (o := FolO Γ.prog Γ.w) ext (get_size_none _) ⟨o, ho, ⟨_, _, _, hD⟩, fun vs n z => ?_⟩, .raw _, q _ ?_⟩
  · obtain ⟨es, ep, ed, _⟩ := hD
    rw [z] at ed
    exact absurd ed.1 (by simp)
  · exact beq_false_of_ne (Nat.ne_of_gt (Nat.lt_trans (by decide) hlt))
end
section
variable {prog : Program} {w : World} {A : Around} {E : Value → Shared → Prop} {s : Shared} {cenv : Env} {m : Str → Option Value}
theorem name_loc {x : Str} {pos : Pos} {v : Value} {R : Value → Shared → Prop} (hk : cenv.scope.kind = .function) (hx : cenv.kindOf x = some .local) (hd : (x == ("__debug__" : Str)) = false) (ns : s.heap.Ns cenv.locals m) (hm : m x = some v) (q : R v s) : wpAny (model prog w) A (eval (.Name x pos) cenv) R E s :=
  wpAny_Name (wpAny_loadName_local hk hx ns hm q) hd
theorem elt_plain {xa xb : Str} {p1 p2 p3 : Pos} {kt : Nat} {va vb : Value} {d1 d2 : Dv} (hk : cenv.scope.kind = .function) (hxa : cenv.kindOf xa = some .local) (hxb : cenv.kindOf xb = some .local) (hda : (xa == ("__debug__" : Str)) = false) (hdb : (xb == ("__debug__" : Str)) = false)
    (ns : s.heap.Ns cenv.locals m) (ma : m xa = some va) (mb : m xb = some vb) (fresh : ¬ Hid s.heap.objs.size) (v1 : VR s.heap va d1) (v2 : VR s.heap vb d2) :
    wpAny (model prog w) A (eval (.Tuple [.Name xa p1, .Name xb p2] kt p3) cenv) (fun y s₃ => VR s₃.heap y (.tup [d1, d2]) ∧ Keeps s s₃) E s := by
  refine wpAny_Tuple ?_
  refine wpAny_items_cons (name_loc hk hxa hda ns ma ?_) rfl
  refine wpAny_items_cons (name_loc hk hxb hdb ns mb ?_) rfl
  refine wpAny_items_nil ⟨by show 2 ≤ sizeLine; decide, ?_⟩
  have e : Ext s.heap (s.heap.push (tupObj [va, vb] 0)) := Ext.push _
  exact ⟨.tup fresh (Heap.get?_push_size _ rfl) (.cons (v1.mono (Ext.pers e)) (.cons (v2.mono (Ext.pers e)) .nil)), Keeps.push Keeps.refl⟩
theorem fol_sub {value slice : PySem.Expr} {fd : Addr} {b : Str} {u : Tok} {R : Value → Shared → Prop} (hns : notSlice slice = true) (hsm : (fd == sysModules) = false) (hh : A.handled = none) (hf : ∃ o, s.heap.get? fd = some o ∧ FolP prog w o)
    (ok : ∀ y t, folD b = some y → R (.str y t) { s with toks := s.toks + 1 }) (no : folD b = none → ∀ h' e, Heap.NewExc s.heap h' e "KeyError" → E (.ref e) { s with heap := h', toks := s.toks + 1 }) :
    wpAny (model prog w) A (subscriptTail value slice (.ref fd) (.str b u)) R E s := by
  obtain ⟨o, ho, hF⟩ := hf
  obtain ⟨kvs, hD, hv⟩ := hF.look
  have hdo : s.heap.DictOf (strKind prog w) fd kvs := Heap.dictOf_iff.mpr ⟨o, ho, hD⟩
  have hv := hv b
  refine tail_any hdo.typeIs slot_dict_getitem.lookup ?_ (subscripted_plain hns)
  cases hf : folD b with
  | some y =>
    rw [hf] at hv
    obtain ⟨t, hv⟩ := hv
    exact wpAny_getItem_of (strKind_is _ _ _ _) hdo.mapOf hv (ok y t hf)
  | none =>
    rw [hf] at hv
    exact wpAny_getItem_missing_of (strKind_is _ _ _ _) hsm hh hdo.mapOf hv (no hf)
theorem elt_follow {xa xb f : Str} {p1 p2 p3 p4 p5 p6 p7 : Pos} {k1 kt : Nat} {a b : Str} {t u : Tok} {c fd : Addr} {R : Value → Shared → Prop} (hk : cenv.scope.kind = .function) (hxa : cenv.kindOf xa = some .local) (hxb : cenv.kindOf xb = some .local) (hxf : cenv.kindOf f = some .free)
    (hda : (xa == ("__debug__" : Str)) = false) (hdb : (xb == ("__debug__" : Str)) = false) (hdf : (f == ("__debug__" : Str)) = false) (hcd : (f == ("__classdict__" : Str)) = false) (hh : A.handled = none) (hla : a.length ≤ 100000) (hcl : cenv.cells.lookup f = some c)
    (ns : s.heap.Ns cenv.locals m) (ma : m xa = some (.str a t)) (mb : m xb = some (.str b u)) (fresh : ¬ Hid s.heap.objs.size) (hc : s.heap.IsCell c (some (.ref fd))) (hsm : (fd == sysModules) = false) (hf : ∃ o, s.heap.get? fd = some o ∧ FolP prog w o)
    (ok : ∀ y v s₃, folD b = some y → VR s₃.heap v (.tup [.str (a ++ " "), .str y]) → Keeps s s₃ → R v s₃) (no : folD b = none → ∀ h' tk e, Heap.NewExc s.heap h' e "KeyError" → E (.ref e) { s with heap := h', toks := tk }) :
    wpAny (model prog w) A (eval (.Tuple [.BinOp (.Name xa p1) .Add (.Constant (.str " ") k1 p2) p3, .Subscript (.Name f p4) (.Name xb p5) p6] kt p7) cenv) R E s := by
  refine wpAny_Tuple ?_
  refine wpAny_items_cons (wpAny_BinOp (name_loc hk hxa hda ns ma (Calls.Constant_str (PyProof.Rows.add_str (fun t' tk => ?_) ?_)))) rfl
  · refine wpAny_items_cons (Subscript_ (wpAny_Name (wpAny_loadName_free hk hxf hcl hc ?_ hcd) hdf)) rfl
    refine name_loc hk hxb hdb ns mb ?_
    refine fol_sub rfl hsm hh hf (fun y t2 hy => ?_) fun hn h' e ne => no hn h' _ e ne
    refine wpAny_items_nil ⟨by show 2 ≤ sizeLine; decide, ?_⟩
    refine ok y _ _ hy (.tup fresh (Heap.get?_push_size _ rfl) (.cons (.str _ _) (.cons (.str _ _) .nil))) (Keeps.push (Keeps.toks (n := tk + 1) Keeps.refl))
  · show a.length + 1 ≤ sizeLine; unfold sizeLine; omega
theorem test_ne {xb : Str} {p1 p2 p3 : Pos} {k1 : Nat} {b x : Str} {u : Tok} (hk : cenv.scope.kind = .function) (hxb : cenv.kindOf xb = some .local) (hdb : (xb == ("__debug__" : Str)) = false) (ns : s.heap.Ns cenv.locals m) (mb : m xb = some (.str b u)) :
    wpAny (model prog w) A (forIn [PySem.Expr.Compare (.Name xb p1) [.NotEq] [.Constant (.str x) k1 p2] p3] true fun c r => if r = true then do let ok ← isTrue c cenv (eval c cenv); pure (ForInStep.yield ok) else pure (ForInStep.yield r)) (fun ok s₃ => ok = (b != x) ∧ Keeps s s₃) E s := by
  rw [List.forIn_cons, if_pos rfl]
  refine wpAny_bind (wpAny_bind ?_)
  refine wpAny_isTrue_Compare1 (name_loc hk hxb hdb ns mb (Calls.Constant_str (PySem.P.ne_str ?_))) (by rfl)
  refine wpAny_truthy_bool (wpAny_pure ?_)
  show wpAny _ _ (forIn [] (b.cps.toList != x.cps.toList) _) _ _ _
  rw [List.forIn_nil]
  refine wpAny_pure ⟨?_, Keeps.toks Keeps.refl⟩
  rw [bne, cps_beq, bne]
  by_cases h : b = x
  · subst h; simp
  · simp [h]
end
end Mine

end
section
open PySem PySem.W PySem.Builtin PySem.Builtin.ObjectAttr
open PyProof.Rows hiding wpAt wpAt_bind
set_option linter.unusedSectionVars false
set_option maxRecDepth 100000
set_option maxHeartbeats 1000000
set_option linter.unusedVariables false
namespace Mine
variable [aI : Membership Nat Unit]
section
variable {Γ : Fm} {loc : Loc} {own own' : Own} {Q : QV} {QQ : QF}
theorem op_str_fig {i : Int} (h0 : 0 ≤ i) (h1 : i < 10) (q : ∀ t : Str, Q (.str t) loc own) : OpN Γ loc own [.int i] (fun vs => call (.type "str") vs) Q := by
  intro h₀ s vs g rel vr
  cases vr with
  | cons a b =>
    cases b; cases a
    exact str_of_int_fit (N := 10) (by split <;> omega) (by decide) fun _ => out_same rel rfl (.str _ _) (q _)
theorem gm_index {x : Str} {M : Model} {A : Around} {E : Value → Shared → Prop} {s : Shared} {t : Tok} {pl : Sem Bool} {R : Value × List Value → Shared → Prop} : R (.builtin "str.index", [.str x t]) s → wpAny M A (getMethod (.str x t) "index" pl) R E s := fun h => GM.index h
theorem op_index {x y : Str} {i : Nat} {rest : List Nat} (ho : Builtin.Str.occurrences x y 0 x.length 1 = i :: rest) (q : Q (.int i) loc own) : OpN Γ loc own [.str x, .str y] (fun vs => call (.builtin "str.index") vs) Q := by
  intro h₀ s vs g rel vr
  cases vr with
  | cons a b => cases b with
    | cons b c => cases c; cases a; cases b; exact SC.index ho (out_same rel rfl (.int _ _) q)
theorem op_in_str {x y : Str} {b : Bool} (hb : (!(Builtin.Str.occurrences x y 0 x.length 1).isEmpty) = b) (q : Q (.bool b) loc own) : Op2 Γ loc own (.str y) (.str x) (compareOp .In) Q := by
  intro h₀ s v u g rel z w
  cases z; cases w
  refine in_str (out_same rel rfl (.bool _) ?_)
  rw [hb]; exact q
end
noncomputable def lets08 : List Str := ["a", "b", "c", "d"]
theorem abc_in {p : Str} (h : p ∈ lets08) : (!(Builtin.Str.occurrences ("abc" : Str) p 0 ("abc" : Str).length 1).isEmpty) = (p != "d") := by
  have : ∀ p ∈ lets08, (!(Builtin.Str.occurrences ("abc" : Str) p 0 ("abc" : Str).length 1).isEmpty) = (p != "d") := by decide +kernel
  exact this p h
noncomputable def okL (p : Str) : Bool := match folD p with
  | none => true
  | some y => match Builtin.Str.occurrences ("abc" : Str) p 0 ("abc" : Str).length 1 with
    | [] => false
    | i :: _ => decide (i < 3) && decide (Txt.item ("bcd" : Str) ((i : Nat) : Int) = y)
theorem abc_at {p y : Str} (h : p ∈ lets08) (hy : folD p = some y) : ∃ i rest, Builtin.Str.occurrences ("abc" : Str) p 0 ("abc" : Str).length 1 = i :: rest ∧ i < 3 ∧ Txt.item ("bcd" : Str) ((i : Nat) : Int) = y := by
  have hh : ∀ p ∈ lets08, okL p = true := by decide +kernel
  have := hh p h
  unfold okL at this
  rw [hy] at this
  cases ho : Builtin.Str.occurrences ("abc" : Str) p 0 ("abc" : Str).length 1 with
  | nil => rw [ho] at this; cases this
  | cons i rest =>
    rw [ho] at this
    simp only [Bool.and_eq_true, decide_eq_true_eq] at this
    exact ⟨i, rest, rfl, this.1, this.2⟩
theorem folD_lets {p y : Str} (hy : folD p = some y) : y ∈ lets08 := by
  unfold folD at hy
  split at hy
  · cases hy; decide +kernel
  · split at hy
    · cases hy; decide +kernel
    · split at hy
      · cases hy; decide +kernel
      · cases hy
theorem folD_none {p : Str} (h : p ∈ lets08) : folD p = none ↔ p = "d" := by
  have : ∀ p ∈ lets08, (folD p = none ↔ p = "d") := by decide +kernel
  exact this p h
end Mine

end
section
open PySem PySem.W PyProof.Rows
set_option maxRecDepth 100000
set_option maxHeartbeats 8000000
namespace Mine
noncomputable def runQ (p : Program) (w : World) (N : Nat) : { r : Option Shared // openEnds treeTable p w N = r } :=
  ⟨_, by
    unfold openEnds fencedOpening topFrom
    rw [PySem.W.Fast.te10274390034422433532, PySem.W.Fast.te14082659384304107361, PySem.W.Fast.te14364793385576792824, PySem.W.Fast.te14289696077712309145, PySem.W.Fast.te1435165496053646825, PySem.W.Fast.te8920871248978507458, PySem.W.Fast.te5923862056798008813]⟩
noncomputable def seenQ (q : Program) (loose mods : List Str) (Xt : Shared → Bool) (s : Shared) := PySem.W.Fast.tw4187177175401517315 q loose mods Xt true s
theorem seenQ_eq (q : Program) (loose mods : List Str) (Xt : Shared → Bool) (s : Shared) : openSeen q loose mods Xt true s = seenQ q loose mods Xt s := by
  unfold seenQ
  rw [← PySem.W.Fast.te4187177175401517315]
noncomputable abbrev TopRun (p q : Program) (loose : List Str) (Xt : Shared → Bool) {α : Type} (Yf : Shared → α) (Ya : World → α) (N : Nat) : Prop :=
  ∀ w, ((runQ p w N).1).map (fun s => (seenQ q loose (importedModules p.main.body) Xt s, Yf s)) = some (openGood q loose, Ya w)
theorem TopRun.left {p q : Program} {loose : List Str} {Xt : Shared → Bool} {α : Type} {Yf : Shared → α} {Ya : World → α} {N : Nat} (h : TopRun p q loose Xt Yf Ya N) : LeftO p q loose Xt Yf Ya N := fun w => by
  have := h w
  rw [← (runQ p w N).2] at this
  simp only [← seenQ_eq] at this
  exact this
theorem PySem.W.holds_open {r : OpenRow} {q : Program} {loose : List Str} {Xt : Shared → Bool} {XP : (Str → Option Value) → Heap → Prop} {α : Type} {Yf : Shared → α} {Ya : World → α} {YP : World → Heap → Prop} {d : DefRec} {kwd : List (Str × PySem.Expr)} {N : Nat}
    (left : TopRun r.prog q loose Xt Yf Ya N) (hY : ∀ w s, Yf s = Ya w → YP w s.heap) (hYk : ∀ w h h', YP w h → (∀ b o, h.get? b = some o → h'.get? b = some o) → YP w h')
    (hX : ∀ s, Xt s = true → XP (s.heap.nsMap mainGlobals) s.heap) (hXk : ∀ mg h h', XP mg h → (∀ b o, h.get? b = some o → h'.get? b = some o) → XP mg h')
    (hdef : defOf q r.name = some (d, kwd)) (hp : r.prog.theDef r.name = some (d.params, d.body, d.scope)) (hk : kwWritten? d.params.kwonlyargs d.params.kw_defaults = some kwd) (hRf : ∀ s, Xt s = true → RecFacts r.records s.heap) (hwr : (!r.writes || r.records.isEmpty) = true)
    (k1 : r.wellSaid = true) (ok : (chainsOk q && opensWell r.prog && (frees r.toRowW && r.within.isEmpty)) = true) (hb : r.prog.bare) (hw : r.toRowW.promised)
    (call : WalkO q loose XP YP r.toRowW d kwd fun f vs => PySem.call f vs) : r.Holds :=
  _root_.PySem.W.holds_open left.left hY hYk hX hXk hdef hp hk hRf hwr k1 ok hb hw call
local macro_rules | `(tactic| o_head (kHook $K $as $e)) => `(tactic| o_head (kmHook $K $as $e [62, 69, 106]))
local macro_rules | `(tactic| o_head (kmHook $K $as $e $t)) => do
  if t.raw.isOfKind `«term[_]» then Lean.Macro.throwUnsupported
  `(tactic| o_head (kmHook $K $as $e [62, 69, 106]))
local macro_rules | `(tactic| o_law) => `(tactic| refine holds_law (by decide +kernel) fun said => ?_)
open_top hd08 for PySem.Challenge.rw_dm0090_08
end Mine

end
section
open PySem PySem.W PySem.Builtin PySem.Builtin.ObjectAttr
open PyProof.Rows hiding wpAt wpAt_bind
set_option linter.unusedSectionVars false
set_option maxRecDepth 100000
set_option maxHeartbeats 1000000
set_option linter.unusedVariables false
namespace Mine
variable [aI : Membership Nat Unit]
local macro_rules | `(tactic| walk_at "om") => `(tactic| first | assumption | exact Nat.le_trans (by assumption) (by decide) | exact Int.le_trans (by assumption) (by decide) | omega | fail "none")
local macro_rules | `(tactic| walk_at "has") => `(tactic| repeat (first | assumption | with_reducible exact Has.here | with_reducible exact HasO.here | with_reducible exact Upd.here | with_reducible apply Has.there | with_reducible apply HasO.there | with_reducible apply Upd.there))
local macro_rules | `(tactic| walk_at "name") => `(tactic| first | with_reducible refine ev_name (by kernel_rfl) (by decide +kernel) (by walk_at "has") ?_ | with_reducible refine ev_builtin (by kernel_rfl) (by decide +kernel) (by kernel_rfl) (by decide +kernel) (by first | exact boot_len | exact boot_sum | exact boot_str) ?_)
theorem len1 {α : Type} {l : List α} (h : l.length = 1) : ∃ a, l = [a] := List.length_eq_one_iff.mp h
theorem len2 {α : Type} {l : List α} (h : l.length = 2) : ∃ a b, l = [a, b] := by
  rcases l with _ | ⟨a, _ | ⟨b, _ | ⟨c, r⟩⟩⟩ <;> first | exact ⟨_, _, rfl⟩ | cases h
theorem len3 {α : Type} {l : List α} (h : l.length = 3) : ∃ a b c, l = [a, b, c] := by
  rcases l with _ | ⟨a, _ | ⟨b, _ | ⟨c, _ | ⟨d, r⟩⟩⟩⟩ <;> first | exact ⟨_, _, _, rfl⟩ | cases h
noncomputable abbrev pr08 : Program := PySem.Challenge.rw_dm0090_08.row.prog
noncomputable def K08 (P : PySem.Params) : Frag := hd08.heap_1 P
variable {P : PySem.Params} {w : World} {A : Around} {own own' : Own} {Q : Dv → Own → Prop} {x d : Addr} {ds : List Dv}
theorem lim08 (h : Heap) (X : (K08 P).In h) : h.NoLimit := ⟨_, .of_isNs (isNs_of_in X (by kernel_rfl)), nsMap_none_of_in X (by kernel_rfl) (by kernel_rfl)⟩
theorem accK08 : AccK (K08 P) 100 := ⟨by kernel_rfl, by kernel_rfl, by kernel_rfl, by kernel_rfl, by kernel_rfl, by kernel_rfl, by kernel_rfl⟩
theorem clsK08 : ∃ cd, ClsK pr08 (K08 P) 100 25 cd ∧ ∀ x : Addr, Bind.checkArgs "list.pop" { popSig with full := s!"{cd.qualname.toString}.{Bind.lastOf "list.pop"}" } ⟨[.ref x], []⟩ = pure () :=
  ⟨_, ⟨rfl, rfl, by kernel_rfl, ⟨_, _, _, rfl⟩, by kernel_rfl, by kernel_rfl⟩, fun x => by kernel_rfl⟩
theorem mk08 : makesLIn (K08 P) 100 = true := by kernel_rfl
theorem storeK08 : ∃ cd, StoreK (K08 P) 100 cd := ⟨_, rfl, rfl, .inl rfl, by kernel_rfl⟩
theorem d38 : DefK (K08 P) 38 ["self", "initial_size"] := defK_of (by kernel_rfl)
theorem init_body08 {k : Int} (hh : A.handled = none) (hD : A.depth ≤ 900) (hU : A.units ≤ 9000) (q : Q .none ((x, .acc 100 d []) :: (d, .idict [("_initial_size", .int k)]) :: own)) (L : Addr) :
    ExsT (dfFm pr08 w (K08 P) A 38 L _ d38 hh hD hU) (.func (bodyOf (fnOf (K08 P) 38)) (callEnv (fnOf (K08 P) 38) L 38)) [("self", .raw (.ref x)), ("initial_size", .int k)] ((x, .acc 100 d []) :: (d, .idict []) :: own) (bodyOf (fnOf (K08 P) 38)) fun fl loc own => Q (retOf fl) own := by
  obtain ⟨cd, H, _⟩ := clsK08 (P := P)
  obtain ⟨cd', S⟩ := storeK08 (P := P)
  refine exst_cons (ext_of (ex_assign1 (by rfl) ?_))
  walk_at "name"
  refine as_attr (cd := cd') ?_
  walk_at "name"
  refine ⟨_, _, _, _, _, _, _, rfl, S, .here, by kernel_rfl, .new, by simp, .there .here, ?_⟩
  refine exst_cons (ext_expr (by kernel_rfl) (by rfl) (evt_init (self := "self") H ⟨by kernel_rfl, by kernel_rfl, ⟨_, _, _, _, _, _, rfl, rfl, rfl, rfl⟩, by kernel_rfl, ⟨_, _, _, _, _, _, _, rfl, rfl, rfl, by kernel_rfl⟩, by kernel_rfl⟩ .here .here accK08 rfl ?_))
  exact exst_of (exs_nil q)
theorem init08 {k : Int} (hh : A.handled = none) (hD : A.depth ≤ 900) (hU : A.units ≤ 9000) (q : Q .none ((x, .acc 100 d []) :: (d, .idict [("_initial_size", .int k)]) :: own)) :
    CallT pr08 w (K08 P) A ((x, .acc 100 d []) :: (d, .idict []) :: own) (.ref 38) [.raw (.ref x), .int k] Q :=
  callT_fnT (ddefs := []) d38 _ [] lim08 rfl rfl (fun _ => .nil) (fun S vs h => by obtain ⟨a, b, rfl⟩ := len2 h; kernel_rfl) hh hD hU (init_body08 hh hD hU q)
theorem makeI08 {k : Int} (hh : A.handled = none) (hD : A.depth ≤ 800) (hU : A.units ≤ 8000) (q : ∀ x d, Q (.raw (.ref x)) ((x, .acc 100 d []) :: (d, .idict [("_initial_size", .int k)]) :: own)) : CallT pr08 w (K08 P) A own (.ref 100) [.int k] Q :=
  callT_make (by simp) mk08 (by kernel_rfl) (by kernel_rfl) fun A' x dx e1 e2 e3 => init08 (e1.trans hh) (by walk_at "om") (by walk_at "om") ⟨rfl, q _ _⟩
theorem d45 : DefK (K08 P) 45 ["self", "fws", "string"] := defK_of (by kernel_rfl)
theorem push08 {f g : Dv} {l : List (Str × Dv)} (hh : A.handled = none) (hD : A.depth ≤ 900) (hU : A.units ≤ 9000) (hl : ds.length ≤ 100000) (ha : Upd x (.acc 100 d ds) (.acc 100 d (ds ++ [.tup [f, g]])) own own') (hd : HasO d (.idict l) own) (hn : l.lookup ("append" : Str) = none) (q : Q .none own') :
    CallT pr08 w (K08 P) A own (.ref 45) [.raw (.ref x), f, g] Q := by
  refine callT_fn (ddefs := []) d45 [("self", .raw (.ref x)), ("fws", f), ("string", g)] [] lim08 rfl rfl (fun _ => .nil) (fun S vs h => by obtain ⟨a, b, c, rfl⟩ := len3 h; kernel_rfl) hh hD hU fun L => ?_
  refine exs_cons (ex_expr (by kernel_rfl) (by rfl) (ev_meth ?_))
  walk_at "name"
  refine meth_bi (i := "list.append") accK08 ha.has hd hn (by kernel_rfl) (by kernel_rfl) (by kernel_rfl) (evl_cons (ev_tuple (evl_cons ?_)))
  walk_at "name"
  refine evl_cons ?_
  walk_at "name"
  refine evl_nil ⟨by simp, evl_nil ?_⟩
  exact op_append ha (.acc accK08) hl (exs_nil q)
theorem push08s {l : List (Str × Dv)} {f g : Str} {ps : List (Str × Str)} (hh : A.handled = none) (hD : A.depth ≤ 900) (hU : A.units ≤ 9000) (hl : ps.length ≤ 100000) (ha : Upd x (.acc 100 d (ps.map dpair)) (.acc 100 d ((ps ++ [(f, g)]).map dpair)) own own') (hd : HasO d (.idict l) own) (hn : l.lookup ("append" : Str) = none) (q : Q .none own') :
    CallT pr08 w (K08 P) A own (.ref 45) [.raw (.ref x), .str f, .str g] Q :=
  push08 (ds := ps.map dpair) hh hD hU (by simpa using hl) (by rw [show ps.map dpair ++ [.tup [.str f, .str g]] = (ps ++ [(f, g)]).map dpair by simp [dpair]]; exact ha) hd hn q
theorem d97 : DefK (K08 P) 97 ["self"] := defK_of (by kernel_rfl)
theorem part_count08 (hh : A.handled = none) (hD : A.depth ≤ 900) (hU : A.units ≤ 9000) (ha : HasO x (.acc 100 d ds) own) (q : Q (.int ds.length) own) : CallT pr08 w (K08 P) A own (.ref 97) [.raw (.ref x)] Q := by
  obtain ⟨cd, H, _⟩ := clsK08 (P := P)
  refine callT_fnT (ddefs := []) d97 [("self", .raw (.ref x))] [] lim08 rfl rfl (fun _ => .nil) (fun S vs h => by obtain ⟨a, rfl⟩ := len1 h; kernel_rfl) hh hD hU fun L => ?_
  refine exst_cons (ext_return (evt_len (self := "self") H ⟨by kernel_rfl, by kernel_rfl, ⟨_, _, _, _, _, _, rfl, rfl, rfl, rfl⟩, by kernel_rfl, ⟨_, _, _, _, _, _, _, rfl, rfl, rfl, by kernel_rfl⟩, by kernel_rfl⟩ .here ha rfl ?_))
  exact q
theorem d53 : DefK (K08 P) 53 ["self", "i"] := defK_of (by kernel_rfl)
theorem d67 : DefK (K08 P) 67 ["self"] := defK_of (by kernel_rfl)
theorem len08 {n : Int} {l : List (Str × Dv)} {ps : List (Str × Str)} (hh : A.handled = none) (hD : A.depth ≤ 800) (hU : A.units ≤ 8000) (ha : HasO x (.acc 100 d (ps.map dpair)) own) (hd : HasO d (.idict l) own) (hl : l.lookup ("_initial_size" : Str) = some (.int n)) (ht : HasO 62 .tab own)
    (hps : ∀ p ∈ ps, p.1.length ≤ 1000000 ∧ p.2.length ≤ 1000000) (q : Q (.int (n + signs ps)) own) : CallT pr08 w (K08 P) A own (.ref 67) [.raw (.ref x)] Q := by
  obtain ⟨cd', S⟩ := storeK08 (P := P)
  refine callT_fn (ddefs := []) d67 [("self", .raw (.ref x))] [] lim08 rfl rfl (fun _ => .nil) (fun S vs h => by obtain ⟨a, rfl⟩ := len1 h; kernel_rfl) hh (by walk_at "om") (by walk_at "om") fun L => ?_
  refine exs_cons (ex_return (ev_sum_lens (T := 62) (c := 66) (cd := cd') (x := x) (d := d) (C := 100) (ps := ps) (l := l) (n := n) ⟨by kernel_rfl, rfl, ?_, by kernel_rfl, by kernel_rfl, by kernel_rfl, by decide +kernel, by kernel_rfl, by kernel_rfl, by kernel_rfl, fun _ => rfl, lim08⟩ accK08 S ?_ ?_ ha hd ht (by kernel_rfl) (by kernel_rfl) (by kernel_rfl) (by kernel_rfl) (by decide +kernel) (by decide +kernel) hps (by kernel_rfl) .here (fun _ => rfl) (by decide +kernel) (by kernel_rfl) hl ?_))
  · decide
  · show A.depth + 1 < recursionLimit
    have : recursionLimit = 1000 := rfl
    omega
  · walk_at "name"
    exact ⟨rfl, rfl, rfl⟩
  · exact q
theorem d74 : DefK (K08 P) 74 ["self"] := defK_of (by kernel_rfl)
theorem str08 {ps : List (Str × Str)} (hh : A.handled = none) (hD : A.depth ≤ 800) (hU : A.units ≤ 8000) (ha : HasO x (.acc 100 d (ps.map dpair)) own) (ht : HasO 69 .tab own)
    (hps : ∀ p ∈ ps, p.1.length ≤ 1000 ∧ p.2.length ≤ 1000) (hpl : ps.length ≤ 1000) (q : Q (.str (txt ps)) own) : CallT pr08 w (K08 P) A own (.ref 74) [.raw (.ref x)] Q := by
  refine callT_fn (ddefs := []) d74 [("self", .raw (.ref x))] [] lim08 rfl rfl (fun _ => .nil) (fun S vs h => by obtain ⟨a, rfl⟩ := len1 h; kernel_rfl) hh (by walk_at "om") (by walk_at "om") fun L => ?_
  refine exs_cons (ex_return (ev_join_gen (tg := 196) (T := 69) (c := 73) (x := x) (d := d) (C := 100) (ps := ps) ⟨by kernel_rfl, rfl, ?_, by kernel_rfl, by kernel_rfl, by kernel_rfl, by decide +kernel, by kernel_rfl, by kernel_rfl, by kernel_rfl, fun _ => rfl, lim08⟩ accK08 ?_ ?_ ha ht (by kernel_rfl) (by kernel_rfl) (by decide +kernel) (by kernel_rfl) (by decide +kernel) (by decide +kernel) hps hpl ⟨_, rfl⟩ (fun _ => ⟨_, rfl⟩) ?_))
  · decide
  · show A.depth + 1 < recursionLimit
    have : recursionLimit = 1000 := rfl
    omega
  · walk_at "name"
    exact ⟨rfl, rfl, rfl⟩
  · exact q
theorem d82 : DefK (K08 P) 82 ["self", "startval"] := defK_of (by kernel_rfl)
end Mine

end
section
open PySem PySem.W PySem.Builtin PySem.Builtin.ObjectAttr
open PyProof.Rows hiding wpAt wpAt_bind
set_option linter.unusedSectionVars false
set_option maxRecDepth 100000
set_option maxHeartbeats 1000000
set_option linter.unusedVariables false
namespace Mine
local macro_rules | `(tactic| walk_at "om") => `(tactic| first | assumption | exact Nat.le_trans (by assumption) (by decide) | exact Int.le_trans (by assumption) (by decide) | ((with_reducible rw [List.length_map]); first | assumption | exact Nat.le_trans (by assumption) (by decide) | omega) | omega | (simp; omega) | fail "none")
local macro_rules | `(tactic| walk_at "has") => `(tactic| repeat (first | assumption | with_reducible exact Has.here | with_reducible exact HasO.here | with_reducible exact Upd.here | with_reducible apply Has.there | with_reducible apply HasO.there | with_reducible apply Upd.there))
local macro_rules | `(tactic| walk_at "name") => `(tactic| first | with_reducible refine ev_name (by kernel_rfl) (by decide +kernel) (by walk_at "has") ?_ | with_reducible refine ev_builtin (by kernel_rfl) (by decide +kernel) (by kernel_rfl) (by decide +kernel) (by (first | with_reducible exact boot_len | with_reducible exact boot_sum | with_reducible exact boot_str | with_reducible exact boot_range | fail "none")) ?_ | fail "none")
local macro_rules | `(tactic| walk_at "fn") => `(tactic| first | with_reducible refine ev_call (f := .builtin "len") callee_b (by kernel_rfl) (ev_builtin (by kernel_rfl) (by decide +kernel) (by kernel_rfl) (by decide +kernel) boot_len ⟨rfl, ?_⟩) | with_reducible refine ev_call (f := .builtin "sum") callee_b (by kernel_rfl) (ev_builtin (by kernel_rfl) (by decide +kernel) (by kernel_rfl) (by decide +kernel) boot_sum ⟨rfl, ?_⟩) | with_reducible refine ev_call (f := .type "str") callee_t (by kernel_rfl) (ev_builtin (by kernel_rfl) (by decide +kernel) (by kernel_rfl) (by decide +kernel) boot_str ⟨rfl, ?_⟩) | fail "none")
variable [aI : Membership Nat Unit]
variable {P : PySem.Params} {w : World} {A : Around} {own own' : Own} {Q : Dv → Own → Prop} {x d : Addr} {ds : List Dv}
theorem op_is_none_int {Γ : Fm} {loc : Loc} {own : Own} {Q : QV} {n : Int} (q : Q (.bool false) loc own) : Op2 Γ loc own (.int n) .none (compareOp .Is) Q := by
  intro h₀ s v u g rel x y
  cases y
  cases x
  exact wpAny_is_other rfl (by intro z; cases z) (out_ext rel Ext.refl (.bool _) q)
theorem reset_int08 {outer : List Env} {n : Int} (hh : A.handled = none) (hD : A.depth ≤ 800) (hU : A.units ≤ 8000) (hfr : A.frames = some outer) (ha : HasO x (.acc 100 d ds) own) :
    CallX pr08 w (K08 P) A outer own (.ref 82) [.raw (.ref x), .int n] fun cls o => cls = "TypeError" ∧ own.Sublist o := by
  refine callX_fn (ddefs := []) d82 [("self", .raw (.ref x)), ("startval", .int n)] [] lim08 rfl rfl (fun _ => .nil) (fun S vs h => by obtain ⟨a, b, rfl⟩ := len2 h; kernel_rfl) hh (by walk_at "om") (by walk_at "om") hfr (nw := true) fun L => ?_
  refine exsX_next rfl (ex_if (tst_cmp (by kernel_rfl) ?_))
  walk_at "name"
  refine ev_none (op_is_none_int (truth_bool ?_))
  rw [if_neg (by decide)]
  refine exs_nil ⟨rfl, exsX_here (exX_slice_int rfl (by rfl) ?_)⟩
  walk_at "name"
  refine ⟨_, rfl, ?_⟩
  walk_at "name"
  exact ⟨_, _, _, _, rfl, accK08, ha, fun sl => ⟨rfl, .cons _ (List.Sublist.refl _)⟩⟩
theorem pop_str08 {outer : List Env} {t : Str} (hh : A.handled = none) (hD : A.depth ≤ 800) (hU : A.units ≤ 8000) (hfr : A.frames = some outer) (ha : HasO x (.acc 100 d ds) own) :
    CallX pr08 w (K08 P) A outer own (.ref 53) [.raw (.ref x), .str t] fun cls o => cls = "TypeError" ∧ own.Sublist o := by
  refine callX_fn (ddefs := []) d53 [("self", .raw (.ref x)), ("i", .str t)] [] lim08 rfl rfl (fun _ => .nil) (fun S vs h => by obtain ⟨a, b, rfl⟩ := len2 h; kernel_rfl) hh (by walk_at "om") (by walk_at "om") hfr (nw := true) fun L => ?_
  refine exsX_here (exX_get_bad rfl (by rfl) ?_)
  walk_at "name"
  refine ⟨x, 100, d, ds, rfl, accK08, ?_⟩
  walk_at "name"
  exact ⟨_, rfl, ha, fun sl => ⟨rfl, .cons _ (List.Sublist.refl _)⟩⟩

open PySem PySem.W PySem.Builtin PySem.Builtin.ObjectAttr
open PyProof.Rows hiding wpAt wpAt_bind
set_option linter.unusedSectionVars false
set_option maxRecDepth 100000
set_option maxHeartbeats 1000000
set_option linter.unusedVariables false
variable {P : PySem.Params} {w : World} {A : Around} {own own' : Own}
noncomputable abbrev rf08 (w : World) (P : PySem.Params) (A : Around) (L : Addr) (hh : A.handled = none) (hD : A.depth ≤ 900) (hU : A.units ≤ 9000) : Fm := dfFm pr08 w (K08 P) A 82 L ["self", "startval"] d82 hh hD hU
theorem reset_enter {s : Shared} {x a : Addr} {R : Result → Shared → Prop} (hh : A.handled = none) (hD : A.depth ≤ 900) (hU : A.units ≤ 9000) (XK : (K08 P).In s.heap)
    (k : ∀ (h₁ : Heap) (m : Str → Option Value) (tk : Nat), h₁.Ns s.heap.objs.size m → m "self" = some (.ref x) → m "startval" = some (.ref a) → (∀ b o, s.heap.get? b = some o → h₁.get? b = some o) →
      wpAny (model pr08 w) (rf08 w P A s.heap.objs.size hh hD hU).A (setItem (.ref x) (.ref h₁.objs.size) (.ref a))
        (fun _ s4 => wpAny (model pr08 w) (rf08 w P A s.heap.objs.size hh hD hU).A (execs ((bodyOf (fnOf (K08 P) 82)).drop 2) (rf08 w P A s.heap.objs.size hh hD hU).env) (fun f s' => R (.ok (.ret (match f with | .ret v => v | _ => .none))) s')
          (fun e s' => wpAny (model pr08 w) (rf08 w P A s.heap.objs.size hh hD hU).A (leaving (rf08 w P A s.heap.objs.size hh hD hU).env e) (fun _ s'' => R (.error e) s'') (fun e' s'' => R (.error e') s'') s') s4)
        (fun e s' => wpAny (model pr08 w) (rf08 w P A s.heap.objs.size hh hD hU).A (leaving (rf08 w P A s.heap.objs.size hh hD hU).env e) (fun _ s'' => R (.error e) s'') (fun e' s'' => R (.error e') s'') s')
        { s with heap := h₁.push { cls := .type "slice", data := .fields #[.none, .none, .none] }, toks := tk }) :
    codeAny (model pr08 w) A (.call (.ref 82) ⟨[.ref x, .ref a], []⟩) R s := by
  have H := d82 (P := P)
  obtain ⟨c, d, sl, hK⟩ := H.obj
  have hp := params_of (K := K08 P) (fd := fnOf (K08 P) 82) (ds := [.raw (.ref x), .raw (.ref a)]) ["self", "startval"] [] [] (fun _ => .nil) H.nd rfl (fun S vs h => by obtain ⟨a, b, rfl⟩ := len2 h; kernel_rfl) H.loc
  obtain ⟨binds, bt, bl, bv⟩ := hp s [.ref x, .ref a] XK (.cons (.raw _) (.cons (.raw _) .nil))
  obtain ⟨v1, b1, r1⟩ := bv "self" (.raw (.ref x)) (.head _)
  obtain ⟨v2, b2, r2⟩ := bv "startval" (.raw (.ref a)) (.tail _ (.head _))
  cases r1; cases r2
  refine codeAny_call_def (Nat.lt_of_le_of_lt hD (by decide)) (XK _ _ hK) rfl (lim08 _ XK) (codeRec_of XK H.code) H.body bt H.cell bl (fun h₁ ns ex => ?_) H.co H.gen H.kind
  have k' := k h₁ _ (s.toks + binds.length) ns b1 b2 ex
  refine wpAny_execs_cons ?_
  refine wpAny_If (wpAny_isTrue_Compare1 (wpAny_Name (wpAny_loadName_local (rf08 w P A s.heap.objs.size hh hD hU).hk (by kernel_rfl) ns b2 (Constant_none (wpAny_is_other rfl (by intro z; cases z) ?_))) (by decide +kernel)) (by kernel_rfl))
  refine wpAny_truthy_bool ?_
  rw [if_neg (by decide)]
  refine wpAny_execs_nil ?_
  refine wpAny_execs_cons ?_
  have hk := (rf08 w P A s.heap.objs.size hh hD hU).hk
  have he : ∀ {o : PySem.Expr} {en : Str} {p sp pos ep : Pos} {env : Env}, exec (.Assign [.Subscript o (.Slice none none none p) sp] (.Name en ep) pos) env = (do standAt pos; let v ← eval (.Name en ep) env; assignAll v [assign (.Subscript o (.Slice none none none p) sp) env]; pure .next) := by intros; rfl
  rw [he]
  refine wpAny_bind (wpAny_standAt (wpAny_bind (wpAny_Name (wpAny_loadName_local hk (by kernel_rfl) ns b2 ?_) (by decide +kernel))))
  refine wpAny_bind ?_
  unfold assignAll
  rw [arm_assign_Subscript]
  refine wpAny_bind (wpAny_holding (wpAny_Name (wpAny_loadName_local hk (by kernel_rfl) ns b1 (wpAny_bind (wpAny_holding (wpAny_Slice (wpAny_pure (wpAny_pure (wpAny_pure ?_))))))) (by decide +kernel)))
  refine wpAny_bind (wpAny_standAt (wpAny_bind (wpAny_holding (wpAny_mono k' (fun _ s4 h4 => ?_) fun _ _ z => z))))
  refine wpAny_release (wpAny_pure ?_)
  exact h4
theorem rel_mv {h₀ : Heap} {L CL I gn : Nat} {loc : Loc} {s s' : Shared} {own : Own} (r : Rel h₀ L loc ((CL, anyO) :: (I, anyO) :: own) s.heap) (m : Mv [CL, I] gn s s') (hnt : ∀ b ∈ [CL, I], ∀ vs n, s.heap.get? b ≠ some (tupObj vs n)) : Rel h₀ L loc own s'.heap ∧ Pers s.heap s'.heap := by
  have pp : Pers s.heap s'.heap := m.pers hnt
  have nd := r.ow.nd
  simp only [List.map_cons, List.nodup_cons, List.mem_cons, not_or] at nd
  refine ⟨(r.both (List.Sublist.refl _) (.cons _ (.cons _ (List.Sublist.refl _)))).others (F := [CL, I]) (fun b o hb e => m.heap b o hb e) ⟨fun b hb => ?_, fun b hb z => ?_, fun b hb p hp z => ?_⟩ pp, pp⟩
  · rcases List.mem_cons.mp hb with rfl | hb
    · exact r.ow.off _ (.head _)
    · rw [List.mem_singleton.mp hb]; exact r.ow.off _ (.tail _ (.head _))
  · rcases List.mem_cons.mp hb with rfl | hb
    · exact r.lc.off _ (.head _) z
    · rw [List.mem_singleton.mp hb] at z; exact r.lc.off _ (.tail _ (.head _)) z
  · rcases List.mem_cons.mp hb with rfl | hb
    · exact nd.1.2 (z ▸ List.mem_map_of_mem hp)
    · rw [List.mem_singleton.mp hb] at z; exact nd.2.1 (z ▸ List.mem_map_of_mem hp)
theorem made_notTup {G : GenTx} {env : Env} {cl : List (Str × Addr)} {x : Addr} {ob : Obj} {vs : List Value} {Ts : Nat → Addr} {vals : Nat → Array Value} {a CL I gn : Nat} {cenv : Env} {s : Shared} (M : GenMade G env cl x ob vs Ts vals a CL I gn cenv s) : ∀ b ∈ [CL, I], ∀ vs n, s.heap.get? b ≠ some (tupObj vs n) := fun b hb ws k z => by
  rcases List.mem_cons.mp hb with rfl | hb
  · exact ns_notTup M.ns ws k z
  · rw [List.mem_singleton.mp hb, M.it] at z
    simp at z
theorem rel_enter {h₀ : Heap} {s : Shared} {x a : Addr} {h₁ : Heap} {m : Str → Option Value} (ok : OwnOk h₀ own s.heap) (ns : h₁.Ns s.heap.objs.size m) (b1 : m "self" = some (.ref x)) (b2 : m "startval" = some (.ref a)) (ex : ∀ b o, s.heap.get? b = some o → h₁.get? b = some o) : Rel h₀ s.heap.objs.size [("self", .raw (.ref x)), ("startval", .raw (.ref a))] own h₁ := by
  have fr : h₀.get? s.heap.objs.size = none := ok.keep.none (get_size_none _)
  refine ⟨ok.ext ex, ⟨⟨_, ns, fun y d hy => ?_⟩, fr, fun p hp e => ?_, (by show ([("self" : Str), ("startval" : Str)]).Nodup; decide +kernel)⟩⟩
  · simp only [List.mem_cons, List.not_mem_nil, or_false, Prod.mk.injEq] at hy
    rcases hy with ⟨rfl, rfl⟩ | ⟨rfl, rfl⟩
    · exact ⟨_, b1, .raw _⟩
    · exact ⟨_, b2, .raw _⟩
  · obtain ⟨ob, q, _⟩ := (ok.at_ p hp).some
    rw [e, get_size_none] at q; cases q
theorem reset_gen_ok {h₀ : Heap} {s : Shared} {x d : Addr} {G : GenTx} {env : Env} {cl : List (Str × Addr)} {vs : List Value} {n : Nat} {Ts : Nat → Addr} {vals : Nat → Array Value} {a CL I gn : Nat} {cenv : Env} {ds es : List Dv} {l l' : List (Str × Dv)} {own'' : Own} (hh : A.handled = none) (hD : A.depth ≤ 800) (hU : A.units ≤ 8000)
    (g : Gd (K08 P) h₀) (ok : OwnOk h₀ ((CL, anyO) :: (I, anyO) :: own) s.heap) (M : GenMade G env cl x (accObj 100 d vs n) vs Ts vals a CL I gn cenv s) (hl : vs.length ≤ 100000) (hel : es.length ≤ 100000)
    (ha : Upd x (.acc 100 d ds) (.acc 100 d es) own own') (hd : Upd d (.idict l) (.idict l') own' own'') (hs : SetL "_initial_size" (.int 0) l l') (hll : l.length ≤ 1000)
    (drawn : ∀ (A0 : Around) (sx : Shared) (Q : List Value → Shared → Prop) (E : Value → Shared → Prop), A0.handled = none → A0.depth ≤ A.depth + 1 → A0.units ≤ A.units + 4 → (∀ b o, s.heap.get? b = some o → sx.heap.get? b = some o) → sx.gens = s.gens →
      (∀ s' xs, Mv [CL, I] gn sx s' → Pers sx.heap s'.heap → VRs s'.heap xs es → Q xs s') → wpAny (model pr08 w) A0 (collect (.ref a)) Q E sx) :
    codeAny (model pr08 w) A (.call (.ref 82) ⟨[.ref x, .ref a], []⟩) (CallOut h₀ s fun d o => d = .none ∧ o = own'') s := by
  have XK : (K08 P).In s.heap := g.kin.keeps ok.keep
  obtain ⟨cd', S⟩ := storeK08 (P := P)
  refine reset_enter hh (by omega) (by omega) XK fun h₁ m tk ns b1 b2 ex => ?_
  have r1 := rel_enter ok ns b1 b2 ex
  have exs : Ext h₁ (h₁.push { cls := .type "slice", data := .fields #[.none, .none, .none] }) := Ext.push _
  have r2 : Rel h₀ s.heap.objs.size _ _ _ := r1.ext exs
  have hsl : (h₁.push { cls := .type "slice", data := .fields #[.none, .none, .none] }).get? h₁.objs.size = some { cls := .type "slice", data := .fields #[.none, .none, .none] } := Heap.get?_push_size _ rfl
  have keep : ∀ b o, s.heap.get? b = some o → (h₁.push { cls := .type "slice", data := .fields #[.none, .none, .none] }).get? b = some o := fun b o e => exs _ _ (ex b o e)
  generalize h₁.push { cls := .type "slice", data := .fields #[.none, .none, .none] } = hx at r2 hsl keep
  have M2 := M.keeps (s' := { s with heap := hx, toks := tk }) keep rfl
  have XK2 : (K08 P).In hx := g.kin.keeps r2.ow.keep
  have hxa : x ≠ a := Nat.ne_of_lt (Nat.lt_trans M.lt.1 M.lt.2.2.1)
  refine acc_setcol (s := { s with heap := hx, toks := tk }) accK08 XK2 M2.at_ M2.gen.typeIs hxa hsl (fun A' Q E' q => wpAny_pyIter_gen M2.gen q) ?_
  refine drawn _ _ _ _ hh (Nat.le_refl _) (by show A.units + 3 + 1 ≤ A.units + 4; omega) keep rfl fun s' xs mv pp vr => ?_
  obtain ⟨r3, p3⟩ := rel_mv (s := { s with heap := hx, toks := tk }) r2 mv (made_notTup M2)
  have hx4 : s'.heap.get? x = some (accObj 100 d vs n) := mv.heap x _ (by
    simp only [List.mem_cons, List.not_mem_nil, or_false, not_or]
    exact ⟨Nat.ne_of_lt M.lt.1, M.ne.1⟩) M2.at_
  refine ⟨vs, n, hx4, by omega, by rw [vr.length]; omega, ?_⟩
  have hres := seq_upd (K := K08 P) (ws := xs) (f := fun ys => ys.extract 0 0 ++ xs.toArray ++ ys.extract vs.length ys.size) r3 ha (.acc accK08) hx4 rfl (by intro _ _ z; simp at z) (by
      apply Array.ext'
      simp [List.extract_eq_take_drop]) vr (fun h' ws k es e z ds' v => ⟨es, k, by rw [e, z], v⟩)
  have st : Stays s { s' with heap := s'.heap.update x (Obj.mapSeq fun ys => ys.extract 0 0 ++ xs.toArray ++ ys.extract vs.length ys.size) } :=
    ⟨(Ext.pers keep).trans (pp.trans hres.1), mv.os, fun hb => mv.gens.bare hb⟩
  have step : Exs (rf08 w P A s.heap.objs.size hh (by omega) (by omega)) [("self", .raw (.ref x)), ("startval", .raw (.ref a))] own' ((bodyOf (fnOf (K08 P) 82)).drop 2) fun fl _ o => retOf fl = .none ∧ o = own'' := by
    refine exs_cons (ex_assign1 (by rfl) (ev_int (as_attr (cd := cd') ?_)))
    walk_at "name"
    refine ⟨_, _, _, _, _, _, _, rfl, S, ha.has', by kernel_rfl, hs, hll, hd, ?_⟩
    exact exs_nil ⟨rfl, rfl⟩
  refine wpAny_mono (step h₀ { s' with heap := s'.heap.update x (Obj.mapSeq fun ys => ys.extract 0 0 ++ xs.toArray ++ ys.extract vs.length ys.size) } g hres.2) (fun f s5 ⟨fl, loc5, own5, p5, r5, fr5, e5, eo5⟩ => ?_) fun _ _ z => z.elim
  subst eo5
  cases fr5 with
  | next => exact ⟨_, _, _, rfl, st.trans p5, r5.ow, .none, e5, rfl⟩
  | brk => exact ⟨_, _, _, rfl, st.trans p5, r5.ow, .none, e5, rfl⟩
  | cont => exact ⟨_, _, _, rfl, st.trans p5, r5.ow, .none, e5, rfl⟩
  | ret v => exact ⟨_, _, _, rfl, st.trans p5, r5.ow, v, e5, rfl⟩
theorem reset_gen_fail {outer : List Env} {cls : String} {h₀ : Heap} {s : Shared} {x d : Addr} {G : GenTx} {env : Env} {cl : List (Str × Addr)} {vs : List Value} {n : Nat} {Ts : Nat → Addr} {vals : Nat → Array Value} {a CL I gn : Nat} {cenv : Env} (hh : A.handled = none) (hD : A.depth ≤ 800) (hU : A.units ≤ 8000) (hfr : A.frames = some outer) (oo : OuterOk outer h₀)
    (g : Gd (K08 P) h₀) (ok : OwnOk h₀ ((CL, anyO) :: (I, anyO) :: own) s.heap) (M : GenMade G env cl x (accObj 100 d vs n) vs Ts vals a CL I gn cenv s) (hl : vs.length ≤ 100000)
    (failing : ∀ (A0 : Around) (sx : Shared) (outer' : List Env) (Q : List Value → Shared → Prop) (E : Value → Shared → Prop), A0.handled = none → A0.depth ≤ A.depth + 1 → A0.units ≤ A.units + 4 → (∀ b o, s.heap.get? b = some o → sx.heap.get? b = some o) → sx.gens = s.gens → A0.frames = some outer' → OuterOk outer' sx.heap → (∀ b ∈ frs outer', b ≠ CL ∧ b ≠ I ∧ b ≠ a) →
      (∀ e hR s', Mv [CL, I] gn sx { s' with heap := hR } → Flies outer' (hideAll hR [CL]) e cls s'.heap → E (.ref e) s') → wpAny (model pr08 w) A0 (collect (.ref a)) Q E sx) :
    codeAny (model pr08 w) A (.call (.ref 82) ⟨[.ref x, .ref a], []⟩) (fun r s' => ∃ e hR, r = .error (.ref e) ∧ Stays s { s' with heap := hR } ∧ OwnOk h₀ own hR ∧ Flies outer hR e cls s'.heap) s := by
  have XK : (K08 P).In s.heap := g.kin.keeps ok.keep
  refine reset_enter hh (by omega) (by omega) XK fun h₁ m tk ns b1 b2 ex => ?_
  have r1 := rel_enter ok ns b1 b2 ex
  have exs : Ext h₁ (h₁.push { cls := .type "slice", data := .fields #[.none, .none, .none] }) := Ext.push _
  have r2 : Rel h₀ s.heap.objs.size _ _ _ := r1.ext exs
  have hsl : (h₁.push { cls := .type "slice", data := .fields #[.none, .none, .none] }).get? h₁.objs.size = some { cls := .type "slice", data := .fields #[.none, .none, .none] } := Heap.get?_push_size _ rfl
  have keep : ∀ b o, s.heap.get? b = some o → (h₁.push { cls := .type "slice", data := .fields #[.none, .none, .none] }).get? b = some o := fun b o e => exs _ _ (ex b o e)
  generalize h₁.push { cls := .type "slice", data := .fields #[.none, .none, .none] } = hx at r2 hsl keep
  have M2 := M.keeps (s' := { s with heap := hx, toks := tk }) keep rfl
  have XK2 : (K08 P).In hx := g.kin.keeps r2.ow.keep
  have hxa : x ≠ a := Nat.ne_of_lt (Nat.lt_trans M.lt.1 M.lt.2.2.1)
  obtain ⟨L, hL⟩ : ∃ L, L = s.heap.objs.size := ⟨_, rfl⟩
  have hfr' : (rf08 w P A s.heap.objs.size hh (by omega) (by omega)).A.frames = some ((rf08 w P A s.heap.objs.size hh (by omega) (by omega)).env :: outer) := Around.frames_deeper hfr
  have hfs : frs ((rf08 w P A s.heap.objs.size hh (by omega) (by omega)).env :: outer) = s.heap.objs.size :: frs outer := rfl
  have oo2 : ∀ h : Heap, (∃ m, h.Ns s.heap.objs.size m) → (∀ b o, h₀.get? b = some o → h.get? b = some o) → OuterOk ((rf08 w P A s.heap.objs.size hh (by omega) (by omega)).env :: outer) h := fun h ⟨m, o, es, ep, e, dd, _⟩ k =>
    ⟨(by show (fnOf (K08 P) 82).scope.kind ≠ _; rw [(d82 (P := P)).kind]; intro z; cases z), ⟨_, o, es, ep, rfl, e, dd⟩, oo.ext k⟩
  have hout : ∀ b ∈ frs ((rf08 w P A s.heap.objs.size hh (by omega) (by omega)).env :: outer), b ≠ CL ∧ b ≠ I ∧ b ≠ a := fun b hb => by
    rw [hfs] at hb
    rcases List.mem_cons.mp hb with rfl | hb
    · exact ⟨Nat.ne_of_gt (Nat.lt_trans M.lt.2.2.1 M.lt.2.2.2.2.1), Nat.ne_of_gt (Nat.lt_trans M.lt.2.1 (Nat.lt_trans M.lt.2.2.1 M.lt.2.2.2.2.1)), Nat.ne_of_gt M.lt.2.2.2.2.1⟩
    · have there : ∀ {l : List Env} {h : Heap}, OuterOk l h → ∀ b ∈ frs l, ∃ o es n, h.get? b = some o ∧ o.data = .dict es n := by
        intro l
        induction l with
        | nil => intro h _ b hb; cases hb
        | cons env l ih =>
          intro h ⟨_, ⟨L, o, es, n, q1, q2, q3⟩, r⟩ b hb
          have hfs : frs (env :: l) = L :: frs l := by show List.filterMap _ (env :: l) = _; rw [List.filterMap_cons, q1]
          rw [hfs] at hb
          rcases List.mem_cons.mp hb with rfl | hb
          · exact ⟨o, es, n, q2, q3⟩
          · exact ih r b hb
      obtain ⟨o, es, n', e, dd⟩ := there oo b hb
      refine ⟨fun z => ?_, fun z => ?_, fun z => ?_⟩
      · rw [z] at e
        have := ok.off (CL, anyO) (.head _)
        rw [this] at e; cases e
      · rw [z] at e
        have := ok.off (I, anyO) (.tail _ (.head _))
        rw [this] at e; cases e
      · obtain ⟨og, nm, qn, eg, _, dg, _⟩ := M.gen
        have := ok.keep _ _ e
        rw [z, eg] at this
        injection this with this
        rw [this] at dg
        rw [dd] at dg; cases dg
  refine acc_setcol (s := { s with heap := hx, toks := tk }) accK08 XK2 M2.at_ M2.gen.typeIs hxa hsl (fun A' Q E' q => wpAny_pyIter_gen M2.gen q) ?_
  refine failing _ _ _ _ _ hh (Nat.le_refl _) (by show A.units + 3 + 1 ≤ A.units + 4; omega) keep rfl hfr' (oo2 _ (let ⟨m, n, _⟩ := r2.lc.ns; ⟨m, n⟩) r2.ow.keep) hout fun e hR s' mv fl => ?_
  have mv2 : Mv [CL, I] gn { s with heap := hx, toks := tk } { s' with heap := hideAll hR [CL] } := ⟨fun b o hb q => hideAll_get _ (mv.heap b o hb q) fun z => hb (by rw [List.mem_singleton.mp z]; exact .head _), mv.gens, mv.os⟩
  obtain ⟨r3, p3⟩ := rel_mv (s := { s with heap := hx, toks := tk }) (s' := { s' with heap := hideAll hR [CL] }) r2 mv2 (made_notTup M2)
  obtain ⟨m3, n3, _⟩ := r3.lc.ns
  have ph := Pers.hide1 (ns_notTup n3)
  refine leave_exc (hR := hideAll hR [CL]) (L := s.heap.objs.size) hfr' rfl (oo2 _ ⟨m3, n3⟩ r3.ow.keep) (.inr fl) fun h' fl2 => ?_
  exact ⟨e, _, rfl, ⟨(Ext.pers keep).trans (p3.trans ph), mv.os, fun hb => mv.gens.bare hb⟩, r3.ow.hide1 r3.lc.fresh r3.lc.off ph, fl2⟩

open PySem PySem.W PySem.Builtin PySem.Builtin.ObjectAttr
open PyProof.Rows hiding wpAt wpAt_bind
set_option linter.unusedSectionVars false
set_option maxRecDepth 100000
set_option maxHeartbeats 1000000
set_option linter.unusedVariables false
variable {P : PySem.Params} {w : World} {L fa : Addr} {loc : Loc} {own own' own'' : Own} {QQ : QF}
theorem k109 : (fnOf (K08 P) 109).scope.kind = .function := by kernel_rfl
noncomputable abbrev lf08 (w : World) (P : PySem.Params) (L fa : Addr) : Fm := lawFmC pr08 w (K08 P) "law" (fnOf (K08 P) 109).scope L fa (.ref 108) k109
theorem rel_back {h₀ h' : Heap} {s : Shared} (rel : Rel h₀ L loc own s.heap) (ok : OwnOk (hideAll s.heap (own.map (·.1))) own' h') (p : Pers s.heap h') : Rel h₀ L loc own' h' := by
  obtain ⟨_, ex⟩ := rel.ow.hide
  refine ⟨⟨fun b o e => ok.keep b o (ex b o e), ok.at_, fun p hp => ex.none (ok.off p hp), ok.nd⟩, ?_⟩
  obtain ⟨m, ⟨oL, es, ep, hL, r⟩, n⟩ := rel.lc.ns
  have nL : L ∉ own.map (·.1) := fun q => by
    obtain ⟨p, hp, e⟩ := List.mem_map.mp q
    exact rel.lc.off p hp e
  have hLg := hideAll_get (own.map (·.1)) hL nL
  refine ⟨⟨m, ⟨oL, es, ep, ok.keep _ _ hLg, r⟩, fun x d hx => ?_⟩, rel.lc.fresh, fun p hp e => ?_, rel.lc.nd⟩
  · obtain ⟨v, e, vr⟩ := n x d hx; exact ⟨v, e, vr.mono p⟩
  · have := ok.off p hp; rw [e, hLg] at this; cases this
structure ResetTx (w : World) (P : PySem.Params) (L fa : Addr) (G : GenTx) (cl : List (Str × Addr)) (ao apos pos p : Pos) : Prop where
  gen : GenOkC (lf08 w P L fa) G.scope G.iter G.xa G.xb cl 108 106
  it : ∃ q, G.iter = .Name "acc" q
  hs : swapsWith (.Call (.Attribute (.Name "acc" ao) "reset" apos) [G.e] [] pos) none p.line (lf08 w P L fa).env = pure false
  hi : interactive (lf08 w P L fa).env = false
  he : ∃ pl, eval (.Call (.Attribute (.Name "acc" ao) "reset" apos) [G.e] [] pos) (lf08 w P L fa).env = (do
      let ov ← eval (.Name "acc" ao) (lf08 w P L fa).env
      standAt apos.atName
      let (f, first) ← holding [ov] (getMethod ov "reset" pl)
      callWith pos f first (backTo pos (starEach [G.e] (lf08 w P L fa).env)) [])
theorem reset_call {G : GenTx} {cl : List (Str × Addr)} {ao apos pos p : Pos} (T : ResetTx w P L fa G cl ao apos pos p) {h₀ : Heap} {s : Shared} {x d : Addr} {ps : List (Dv × Dv)} {l : List (Str × Dv)} {R : Flow → Shared → Prop} {E : Value → Shared → Prop}
    (g : Gd (K08 P) h₀) (rel : Rel h₀ L loc own s.heap) (hx : Has "acc" (.raw (.ref x)) loc) (ha : HasO x (.acc 100 d (ps.map fun p => .tup [p.1, p.2])) own) (hd : HasO d (.idict l) own) (hn : l.lookup ("reset" : Str) = none) (ht : HasO 106 .tab own)
    (k : ∀ (a CL I gn n : Nat) (cenv : Env) (vs : List Value) (Ts : Nat → Addr) (vals : Nat → Array Value) (s5 : Shared), Stays s s5 → Rel h₀ L loc ((CL, anyO) :: (I, anyO) :: own) s5.heap → vs.length = ps.length →
      (∀ j, j < vs.length → vs[j]? = some (.ref (Ts j))) → (∀ j, ∃ va vb, vals j = #[va, vb]) → (∀ j p, ps[j]? = some p → ∃ va vb, vals j = #[va, vb] ∧ VR s5.heap va p.1 ∧ VR s5.heap vb p.2) →
      GenMade G (lf08 w P L fa).env cl x (accObj 100 d vs n) vs Ts vals a CL I gn cenv s5 → (∀ b o, h₀.get? b = some o → b < CL) → (∀ p ∈ own, p.1 < CL) →
      codeAny (model pr08 w) (lf08 w P L fa).A (.call (.ref 82) ⟨[.ref x, .ref a], []⟩) (fun r s' => match r with | .ok (.ret v) => R .next s' | .error e => E e s' | _ => False) s5) :
    wpAny (model pr08 w) (lf08 w P L fa).A (exec (.Expr (.Call (.Attribute (.Name "acc" ao) "reset" apos) [G.e] [] pos) p) (lf08 w P L fa).env) R E s := by
  obtain ⟨O, ⟨iq, hit⟩, hs, hi, ⟨pl, he⟩⟩ := T
  rw [exec_Expr (lf08 w P L fa).env _ p hi hs]
  refine wpAny_bind (wpAny_standAt (wpAny_bind ?_))
  have hE : (lf08 w P L fa).E = fun _ _ => False := rfl
  have hacc : Ev (lf08 w P L fa) loc own (.Name "acc" ao) fun d loc' own' => d = .raw (.ref x) ∧ loc' = loc ∧ own' = own := ev_name (by kernel_rfl) (by decide +kernel) hx ⟨rfl, rfl, rfl⟩
  refine PyProof.Rows.MethodCall_ (noE hE (hacc.use g rel fun d1 loc1 own1 s1 v p1 r1 v1 ⟨e1, e2, e3⟩ => ?_)) he
  subst e1 e2 e3
  cases v1
  obtain ⟨vs, n, ho, r⟩ := r1.ow.at_ _ ha.mem
  refine getMethod_inst (g.kin.keeps r1.ow.keep) ho rfl rfl (r1.ow.at_ _ hd.mem) hn accK08.ga canon_list_getattribute accK08.gt (fv := .ref 82) (tf := "function") (by kernel_rfl) (by kernel_rfl) rfl ?_
  refine callWith_K g.kin (by kernel_rfl) (first := [.ref x]) ?_ rfl rfl
  refine wpAny_items_cons ?_ rfl
  refine gen_raw (G := G) (cl := cl) (c := 108) (T := 106) (x := x) (C := 100) (d := d) (ps := ps) hE O accK08 (by show callerA.depth + 1 < recursionLimit; decide) g r1 (by rw [hit]; exact ev_name (by kernel_rfl) (by decide +kernel) hx ⟨rfl, rfl, rfl⟩) ha ht fun a CL I gn n cenv vs2 Ts vals s5 p5 r5 hl a1 a2 a3 M lt1 lt2 => ?_
  refine wpAny_items_nil ⟨g.kin.keeps r5.ow.keep, ?_⟩
  refine wpAny_call (codeAny_mono (k a CL I gn n cenv vs2 Ts vals s5 (p1.trans p5) r5 hl a1 a2 a3 M lt1 lt2) fun res s' z => ?_)
  cases res with
  | error e => exact z
  | ok o =>
    cases o with
    | ret v => exact wpAny_dropValue z
    | _ => exact z.elim
noncomputable abbrev sd (q : Str × Str) : Dv × Dv := (.str q.1, .str q.2)
structure TurnAt (w : World) (P : PySem.Params) (L fa : Addr) (own : Own) (G : GenTx) (cl : List (Str × Addr)) (CL : Addr) (cenv : Env) (f p : Str) (t u : Tok) (s₂ : Shared) (m₂ : Str → Option Value) : Prop where
  env : ∃ code bi, cenv = genEnv G.scope cl CL code bi (lf08 w P L fa).env
  ns : s₂.heap.Ns cenv.locals m₂
  ma : m₂ G.xa = some (.str f t)
  mb : m₂ G.xb = some (.str p u)
  fresh : ¬ Hid s₂.heap.objs.size
  cell : ∀ c b, (c, AObj.cell (some (.raw (.ref b)))) ∈ own → s₂.heap.IsCell c (some (.ref b))
  any : ∀ b Pp, (b, AObj.any Pp) ∈ own → ∃ o, s₂.heap.get? b = some o ∧ Pp o
theorem turn_at {G : GenTx} {cl : List (Str × Addr)} {h₀ : Heap} {s5 : Shared} {x d : Addr} {row : List (Str × Str)} {a CL I gn n : Nat} {cenv : Env} {vs : List Value} {Ts : Nat → Addr} {vals : Nat → Array Value} (g : Gd (K08 P) h₀) (rel : Rel h₀ L loc ((CL, anyO) :: (I, anyO) :: own) s5.heap) (hl : vs.length = (row.map sd).length)
    (a3 : ∀ j p, (row.map sd)[j]? = some p → ∃ va vb, vals j = #[va, vb] ∧ VR s5.heap va p.1 ∧ VR s5.heap vb p.2) (M : GenMade G (lf08 w P L fa).env cl x (accObj 100 d vs n) vs Ts vals a CL I gn cenv s5) (lt1 : ∀ b o, h₀.get? b = some o → b < CL) (lt2 : ∀ p ∈ own, p.1 < CL)
    {i : Nat} {va vb : Value} {s₂ : Shared} {m₂ : Str → Option Value} (hi : i < vs.length) (hv : vals i = #[va, vb]) (ns : s₂.heap.Ns CL m₂) (ma : m₂ G.xa = some va) (mb : m₂ G.xb = some vb) (kp : ∀ b o, b < CL → b ≠ I → s5.heap.get? b = some o → s₂.heap.get? b = some o) :
    ∃ f p t u, row[i]? = some (f, p) ∧ va = .str f t ∧ vb = .str p u ∧ TurnAt w P L fa own G cl CL cenv f p t u s₂ m₂ := by
  have hir : i < row.length := by rw [hl, List.length_map] at hi; exact hi
  obtain ⟨va', vb', e, v1, v2⟩ := a3 i (sd row[i]) (by rw [List.getElem?_map, List.getElem?_eq_getElem hir]; rfl)
  rw [hv] at e
  injection e with e
  injection e with e1 e2
  injection e2 with e2 _
  subst e1 e2
  cases v1
  cases v2
  obtain ⟨code, bi, hce, _⟩ := M.envE
  have nd := rel.ow.nd
  simp only [List.map_cons, List.nodup_cons, List.mem_cons, not_or] at nd
  have neI : ∀ p ∈ own, p.1 ≠ I := fun p hp z => nd.2.1 (z ▸ List.mem_map_of_mem hp)
  refine ⟨row[i].1, row[i].2, _, _, List.getElem?_eq_getElem hir, rfl, rfl, ⟨_, _, hce⟩, by rw [hce]; exact ns, ma, mb, fun q => ?_, fun c b hc => ?_, fun b Pp hb => ?_⟩
  · obtain ⟨o, e⟩ := g.hid _ q
    have := lt1 _ _ e
    have h2 := ns.lt
    exact absurd (Nat.lt_trans this h2) (Nat.lt_irrefl _)
  · obtain ⟨v, ⟨o, e, q⟩, vr⟩ := rel.ow.at_ _ (List.mem_cons_of_mem _ (List.mem_cons_of_mem _ hc))
    cases vr
    exact ⟨o, kp _ _ (lt2 _ hc) (neI _ hc) e, q⟩
  · obtain ⟨o, e, q, _⟩ := rel.ow.at_ _ (List.mem_cons_of_mem _ (List.mem_cons_of_mem _ hb))
    exact ⟨o, kp _ _ (lt2 _ hb) (neI _ hb) e, q⟩
theorem ex_reset_ok {G : GenTx} {cl : List (Str × Addr)} {ao apos pos p : Pos} (T : ResetTx w P L fa G cl ao apos pos p) {x d : Addr} {row : List (Str × Str)} {es : List Dv} {l l' : List (Str × Dv)} (hr : row.length ≤ 1000)
    (hx : Has "acc" (.raw (.ref x)) loc) (ha : HasO x (.acc 100 d ((row.map sd).map fun p => .tup [p.1, p.2])) own) (hd : HasO d (.idict l) own) (hn : l.lookup ("reset" : Str) = none) (ht : HasO 106 .tab own)
    (pz : Nat → Bool) (dv : Nat → Dv) (hes : es = (passing pz row.length 0).map dv) (u1 : Upd x (.acc 100 d ((row.map sd).map fun p => .tup [p.1, p.2])) (.acc 100 d es) own own') (u2 : Upd d (.idict l) (.idict l') own' own'') (hs : SetL "_initial_size" (.int 0) l l') (hll : l.length ≤ 1000)
    (tests : ∀ (CL : Addr) (cenv : Env) (A' : Around) (E' : Value → Shared → Prop) (i : Nat) (f p : Str) (t u : Tok) (s₂ : Shared) (m₂ : Str → Option Value), A'.handled = none → row[i]? = some (f, p) → TurnAt w P L fa own G cl CL cenv f p t u s₂ m₂ →
      wpAny (model pr08 w) A' (forIn G.ifs true fun c r => if r = true then do let ok ← isTrue c cenv (eval c cenv); pure (ForInStep.yield ok) else pure (ForInStep.yield r)) (fun ok s₃ => ok = pz i ∧ Keeps s₂ s₃) E' s₂)
    (elt : ∀ (CL : Addr) (cenv : Env) (A' : Around) (E' : Value → Shared → Prop) (i : Nat) (f p : Str) (t u : Tok) (s₂ : Shared) (m₂ : Str → Option Value), A'.handled = none → row[i]? = some (f, p) → pz i = true → TurnAt w P L fa own G cl CL cenv f p t u s₂ m₂ →
      wpAny (model pr08 w) A' (eval G.elt cenv) (fun y s₃ => VR s₃.heap y (dv i) ∧ Keeps s₂ s₃) E' s₂)
    (q : QQ .next loc own'') : Ex (lf08 w P L fa) loc own (.Expr (.Call (.Attribute (.Name "acc" ao) "reset" apos) [G.e] [] pos) p) QQ := by
  intro h₀ s g rel
  refine reset_call T g rel hx ha hd hn ht fun a CL I gn n cenv vs Ts vals s5 p5 r5 hl a1 a2 a3 M lt1 lt2 => ?_
  obtain ⟨ok, ex⟩ := r5.ow.hide
  have hvl : vs.length = row.length := by rw [hl, List.length_map]
  have hel : es.length ≤ 100000 := by
    rw [hes, List.length_map]
    refine Nat.le_trans (m := row.length) ?_ (by omega)
    unfold passing
    rw [List.drop_zero]
    exact Nat.le_trans (List.length_filter_le _ _) (by rw [List.length_range]; exact Nat.le_refl _)
  refine codeAny_mono (reset_gen_ok (A := (lf08 w P L fa).A) (ds := _) rfl (by show callerA.depth + 1 ≤ 800; decide) (by show callerA.units + 3 ≤ 8000; decide) (g.ext ex) ok M (by omega) hel u1 u2 hs hll fun A0 sx Q E h1 h2 h3 keep hg hq => ?_) fun r s' ⟨v, d2, own2, er, p6, o6, vr, e1, e2⟩ => ?_
  · have M2 := M.keeps (s' := sx) keep hg
    have XK : (K08 P).In sx.heap := (g.kin.keeps r5.ow.keep).keeps keep
    refine made_done M2 a1 a2 h1 (Nat.lt_of_le_of_lt h2 (by show callerA.depth + 1 + 1 < recursionLimit; decide)) (lim08 _ XK) T.gen.co T.gen.ha T.gen.hb T.gen.ab T.gen.kind (by omega) pz dv ?_ ?_ fun s' xs m pp vr => hq s' xs m pp (by rw [hes, ← hvl]; exact vr)
    · intro A' E' i va vb s₂ m₂ hA _ _ hi hv ns ma mb kp
      obtain ⟨f, p, t, u, hrow, rfl, rfl, TA⟩ := turn_at (w := w) (fa := fa) g r5 hl a3 M lt1 lt2 hi hv ns ma mb fun b o b1 b2 e => kp b o b1 b2 (keep _ _ e)
      exact tests CL cenv A' E' i f p t u s₂ m₂ hA hrow TA
    · intro A' E' i va vb s₂ m₂ hA _ _ hi hv hpz ns ma mb kp
      obtain ⟨f, p, t, u, hrow, rfl, rfl, TA⟩ := turn_at (w := w) (fa := fa) g r5 hl a3 M lt1 lt2 hi hv ns ma mb fun b o b1 b2 e => kp b o b1 b2 (keep _ _ e)
      exact elt CL cenv A' E' i f p t u s₂ m₂ hA hrow hpz TA
  · subst er e1 e2
    exact ⟨.next, loc, _, p5.trans p6, rel_back r5 o6 p6.p, .next, q⟩
theorem ex_reset_fail {G : GenTx} {cl : List (Str × Addr)} {ao apos pos p : Pos} (T : ResetTx w P L fa G cl ao apos pos p) {x d : Addr} {row : List (Str × Str)} {l : List (Str × Dv)} {X : String → Loc → Own → Prop} (hr : row.length ≤ 1000)
    (hx : Has "acc" (.raw (.ref x)) loc) (ha : HasO x (.acc 100 d ((row.map sd).map fun p => .tup [p.1, p.2])) own) (hd : HasO d (.idict l) own) (hn : l.lookup ("reset" : Str) = none) (ht : HasO 106 .tab own) (hifs : G.ifs = []) (j : Nat) (hj : j < row.length)
    (good : ∀ (CL : Addr) (cenv : Env) (A' : Around) (E' : Value → Shared → Prop) (i : Nat) (f p : Str) (t u : Tok) (s₂ : Shared) (m₂ : Str → Option Value), A'.handled = none → row[i]? = some (f, p) → i < j → TurnAt w P L fa own G cl CL cenv f p t u s₂ m₂ →
      wpAny (model pr08 w) A' (eval G.elt cenv) (fun y s₃ => Keeps s₂ s₃) E' s₂)
    (bad : ∀ (CL : Addr) (cenv : Env) (A' : Around) (Q' E' : Value → Shared → Prop) (f p : Str) (t u : Tok) (s₂ : Shared) (m₂ : Str → Option Value), A'.handled = none → row[j]? = some (f, p) → TurnAt w P L fa own G cl CL cenv f p t u s₂ m₂ →
      (∀ h' tk e, Heap.NewExc s₂.heap h' e "KeyError" → E' (.ref e) { s₂ with heap := h', toks := tk }) → wpAny (model pr08 w) A' (eval G.elt cenv) Q' E' s₂)
    (q : X "KeyError" loc own) : ExX (lf08 w P L fa) [] false loc own (.Expr (.Call (.Attribute (.Name "acc" ao) "reset" apos) [G.e] [] pos) p) X := by
  intro h₀ s g rel oo
  refine reset_call T g rel hx ha hd hn ht fun a CL I gn n cenv vs Ts vals s5 p5 r5 hl a1 a2 a3 M lt1 lt2 => ?_
  obtain ⟨ok, ex⟩ := r5.ow.hide
  have hvl : vs.length = row.length := by rw [hl, List.length_map]
  obtain ⟨m, ⟨oL, les, ep, hL, rr⟩, nn⟩ := r5.lc.ns
  have nL : L ∉ ((CL, anyO) :: (I, anyO) :: own).map (·.1) := fun z => by
    obtain ⟨p, hp, e⟩ := List.mem_map.mp z
    exact r5.lc.off p hp e
  have oo2 : OuterOk [(lf08 w P L fa).env] (hideAll s5.heap (((CL, anyO) :: (I, anyO) :: own).map (·.1))) :=
    ⟨(by rw [(lf08 w P L fa).hk]; intro z; cases z), ⟨_, oL, les, ep, rfl, hideAll_get _ hL nL, rr.1⟩, trivial⟩
  refine codeAny_mono (reset_gen_fail (A := (lf08 w P L fa).A) (outer := [(lf08 w P L fa).env]) (cls := "KeyError") rfl (by show callerA.depth + 1 ≤ 800; decide) (by show callerA.units + 3 ≤ 8000; decide) (Around.frames_deeper rfl) oo2 (g.ext ex) ok M (by omega) fun A0 sx outer' Q E h1 h2 h3 keep hg hfr oo3 hout hq => ?_) fun r s' ⟨e, hR, er, p6, o6, fl⟩ => ?_
  · have M2 := M.keeps (s' := sx) keep hg
    have XK : (K08 P).In sx.heap := (g.kin.keeps r5.ow.keep).keeps keep
    refine made_fail M2 a1 a2 h1 (Nat.lt_of_le_of_lt h2 (by show callerA.depth + 1 + 1 < recursionLimit; decide)) (lim08 _ XK) T.gen.co T.gen.ha T.gen.hb T.gen.ab T.gen.kind (by omega) hifs (by rw [isSubtype_type]; kernel_rfl) hfr oo3 hout j (by omega) (fun _ _ => True) ?_ ?_ hq
    · intro A' E' i va vb s₂ m₂ hA _ _ hij hv ns ma mb kp
      obtain ⟨f, p, t, u, hrow, rfl, rfl, TA⟩ := turn_at (w := w) (fa := fa) g r5 hl a3 M lt1 lt2 (by omega) hv ns ma mb fun b o b1 b2 e => kp b o b1 b2 (keep _ _ e)
      exact wpAny_mono (good CL cenv A' E' i f p t u s₂ m₂ hA hrow hij TA) (fun _ _ z => ⟨trivial, z⟩) fun _ _ z => z
    · intro A' Q' E' va vb s₂ m₂ hA _ _ hv ns ma mb kp ne
      obtain ⟨f, p, t, u, hrow, rfl, rfl, TA⟩ := turn_at (w := w) (fa := fa) g r5 hl a3 M lt1 lt2 (by omega) hv ns ma mb fun b o b1 b2 e => kp b o b1 b2 (keep _ _ e)
      exact bad CL cenv A' Q' E' f p t u s₂ m₂ hA hrow TA ne
  · subst er
    exact ⟨e, hR, "KeyError", loc, own, rfl, p5.trans p6, rel_back r5 o6 p6.p, .inr fl, q⟩

open PySem PySem.W PySem.Builtin PySem.Builtin.ObjectAttr
open PyProof.Rows hiding wpAt wpAt_bind
set_option linter.unusedSectionVars false
set_option maxRecDepth 100000
set_option maxHeartbeats 1000000
set_option linter.unusedVariables false
variable {P : PySem.Params} {w : World} {L fa : Addr} {loc : Loc} {own own' own'' : Own} {QQ : QF}
noncomputable def tryBody : List Stmt → List Stmt
  | .Try b _ _ _ _ :: _ => b
  | _ => []
noncomputable abbrev B08 (P : PySem.Params) : List Stmt := (forBodies (bodyOf (fnOf (K08 P) 109))).getD 0 []
noncomputable abbrev own08 (w : World) (L x d rl fd : Addr) (az : Int) (arow row : List (Str × Str)) (rest : Own) : Own :=
  (x, .acc 100 d (arow.map dpair)) :: (d, .idict [("_initial_size", .int az)]) :: (62, .tab) :: (69, .tab) :: (106, .tab) :: (L + 1, .cell (some (.raw (.ref fd)))) :: (fd, FolO pr08 w) :: (rl, .list (row.map dpair)) :: rest
noncomputable abbrev loc08 (sc0 x rl : Addr) (sz : Int) (more : Loc) : Loc := ("script", .raw (.ref sc0)) :: ("size", .int sz) :: ("acc", .raw (.ref x)) :: ("row", .raw (.ref rl)) :: more
noncomputable abbrev locT08 (sc0 x rl : Addr) (sz v m dd : Int) (pc : Str × Str) (told : Str) (more : Loc) : Loc := loc08 sc0 x rl sz (("x", .int v) :: ("n", .int m) :: ("deed", .int dd) :: ("piece", dpair pc) :: ("told", .str told) :: more)
variable {sc0 x d rl fd : Addr} {sz v m dd : Int} {row : List (Str × Str)} {pc : Str × Str} {rest : Own}
theorem callX_mono {prog : Program} {K : Frag} {A : Around} {outer : List Env} {f : Value} {ds : List Dv} {X Y : String → Own → Prop} (h : CallX prog w K A outer own f ds X) (k : ∀ c o, X c o → Y c o) : CallX prog w K A outer own f ds Y := fun h₀ s vs a b c e =>
  codeAny_mono (h h₀ s vs a b c e) fun r s' ⟨a, hR, cls, own', e1, e2, e3, e4, q⟩ => ⟨a, hR, cls, own', e1, e2, e3, e4, k _ _ q⟩
theorem ifX08 {X : String → Loc → Own → Prop} {t : PySem.Expr} {a b : List Stmt} {p : Pos} {k c : Int} {op : CmpOp} {pos p1 p2 : Pos} {kk : Nat} (ht : t = .Compare (.Name "deed" p1) [op] [.Constant (.int c) kk p2] pos) (hd : Has "deed" (.int k) loc) (tr : Bool)
    (ho : ∀ Q : QV, Q (.bool tr) loc own → Op2 (lf08 w P L fa) loc own (.int k) (.int c) (compareOp op) Q) (hm : behindInMarks op (.Constant (.int c) kk p2) = false)
    (h : ExsX (lf08 w P L fa) [] false loc own (if tr then a else b) X) : ExsX (lf08 w P L fa) [] false loc own [.If t a b p] X := by
  subst ht
  exact exsX_here (exX_if rfl (tst_cmp hm (ev_name (by kernel_rfl) (by decide +kernel) hd (ev_int (ho _ (truth_bool h))))))
theorem frames08 : (lf08 w P L fa).A.frames = some [(lf08 w P L fa).env] := Around.frames_deeper rfl
noncomputable def Told08 (w : World) (L sc0 x d rl fd : Addr) (sz v m dd : Int) (row : List (Str × Str)) (pc : Str × Str) (rest : Own) (cls0 : String) : String → Loc → Own → Prop := fun cls loc own =>
  cls = cls0 ∧ loc = locT08 sc0 x rl sz v m dd pc "" [] ∧ (own08 w L x d rl fd sz row row rest).Sublist own
theorem num08 : ExsX (lf08 w P L fa) [] false (locT08 sc0 x rl sz v m 3 pc "" []) (own08 w L x d rl fd sz row row rest) (ifElse (ifElse (tryBody ((B08 P).drop 3)))) (Told08 w L sc0 x d rl fd sz v m 3 row pc rest "TypeError") := by
  refine ifX08 rfl (by walk_at "has") true (fun Q q => op_eq (by simpa using q)) (by kernel_rfl) ?_
  rw [if_pos rfl]
  refine exsX_here (exX_meth rfl ?_ rfl (by simp) rfl)
  walk_at "name"
  refine ⟨x, 100, d, 82, _, _, rfl, accK08, .here, .there .here, by kernel_rfl, by kernel_rfl, by kernel_rfl, by kernel_rfl, ?_⟩
  (repeat' ((first | (with_reducible first | refine ev_bin ?_ | refine ev_int ?_ | refine ev_str ?_ | refine ev_bool ?_ | refine ev_none ?_ | walk_at "name" | walk_at "fn" | refine ev_sub ?_ | refine ev_slice ?_ | refine evo_none ?_ | refine evo_some ?_ | refine ev_tuple ?_ | refine ev_list ?_ | refine evl_nil ?_ | refine op_add ?_ | refine op_sub ?_ | refine op_lt ?_ | refine op_gt ?_ | refine op_le ?_ | refine op_eq ?_ | refine op_ne ?_ | refine op_eq_str ?_ | refine op_ne_str ?_ | refine op_max ?_ | refine op_min ?_ | refine op_abs ?_ | refine op_mod (by first | decide | walk_at "om") ?_ | refine op_div (by first | decide | walk_at "om") (by first | decide | walk_at "om") ?_ | refine op_len_str (by first | decide | walk_at "om") ?_ | refine op_cat (by first | decide | walk_at "om") ?_ | refine truth_bool ?_ | refine tst_cmp (by kernel_rfl) ?_ | refine ev_cmp (by kernel_rfl) ?_ | refine tst_not ?_ | fail "none") | ((with_reducible show EvL _ _ _ _ (_ :: _) _); refine evl_cons ?_) | ((with_reducible show Ev _ _ _ (.Call (.Attribute _ _ _) _ [] _) _); refine ev_meth ?_) | fail "none")))
  intro _
  exact callX_mono (reset_int08 rfl (by show callerA.depth + 1 ≤ 800; decide) (by show callerA.units + 3 ≤ 8000; decide) frames08 .here) fun c o ⟨h1, h2⟩ => ⟨h1, rfl, h2⟩
theorem pop08x : ExsX (lf08 w P L fa) [] false (locT08 sc0 x rl sz v m 4 pc "" []) (own08 w L x d rl fd sz row row rest) (ifElse (ifElse (ifElse (tryBody ((B08 P).drop 3))))) (Told08 w L sc0 x d rl fd sz v m 4 row pc rest "TypeError") := by
  refine ifX08 rfl (by walk_at "has") true (fun Q q => op_eq (by simpa using q)) (by kernel_rfl) ?_
  rw [if_pos rfl]
  refine exsX_here (exX_meth rfl ?_ rfl (by simp) rfl)
  walk_at "name"
  refine ⟨x, 100, d, 53, _, _, rfl, accK08, .here, .there .here, by kernel_rfl, by kernel_rfl, by kernel_rfl, by kernel_rfl, ?_⟩
  (repeat' ((first | (with_reducible first | refine ev_bin ?_ | refine ev_int ?_ | refine ev_str ?_ | refine ev_bool ?_ | refine ev_none ?_ | walk_at "name" | walk_at "fn" | refine ev_sub ?_ | refine ev_slice ?_ | refine evo_none ?_ | refine evo_some ?_ | refine ev_tuple ?_ | refine ev_list ?_ | refine evl_nil ?_ | refine op_add ?_ | refine op_sub ?_ | refine op_lt ?_ | refine op_gt ?_ | refine op_le ?_ | refine op_eq ?_ | refine op_ne ?_ | refine op_eq_str ?_ | refine op_ne_str ?_ | refine op_max ?_ | refine op_min ?_ | refine op_abs ?_ | refine op_mod (by first | decide | walk_at "om") ?_ | refine op_div (by first | decide | walk_at "om") (by first | decide | walk_at "om") ?_ | refine op_len_str (by first | decide | walk_at "om") ?_ | refine op_cat (by first | decide | walk_at "om") ?_ | refine truth_bool ?_ | refine tst_cmp (by kernel_rfl) ?_ | refine ev_cmp (by kernel_rfl) ?_ | refine tst_not ?_ | fail "none") | ((with_reducible show EvL _ _ _ _ (_ :: _) _); refine evl_cons ?_) | ((with_reducible show Ev _ _ _ (.Call (.Attribute _ _ _) _ [] _) _); refine ev_meth ?_) | fail "none")))
  refine op_str_fig (Int.emod_nonneg _ (by decide)) (Int.emod_lt_of_pos _ (by decide)) fun t => ?_
  refine evl_nil fun _ => ?_
  exact callX_mono (pop_str08 rfl (by show callerA.depth + 1 ≤ 800; decide) (by show callerA.units + 3 ≤ 8000; decide) frames08 .here) fun c o ⟨h1, h2⟩ => ⟨h1, rfl, h2⟩
noncomputable def G2 : GenTx where
  elt := .Tuple [.BinOp (.Name "fws" ⟨54, 28, 54, 31⟩) .Add (.Constant (.str " ") 0 ⟨54, 34, 54, 37⟩) ⟨54, 28, 54, 37⟩, .Subscript (.Name "following" ⟨54, 39, 54, 48⟩) (.Name "part" ⟨54, 49, 54, 53⟩) ⟨54, 39, 54, 54⟩] 0 ⟨54, 27, 54, 55⟩
  iter := .Name "acc" ⟨54, 73, 54, 76⟩
  ifs := []
  xa := "fws"
  xb := "part"
  pa := ⟨54, 60, 54, 63⟩
  pb := ⟨54, 65, 54, 69⟩
  pt := ⟨54, 60, 54, 69⟩
  kt := 0
  scope := { kind := .function, names := [(".0", .local), ("fws", .local), ("part", .local), ("following", .free)], isGenerator := true, isCoroutine := false, more := [] }
  pos := ⟨54, 26, 54, 77⟩
noncomputable def G5 : GenTx where
  elt := .Tuple [.Name "fws" ⟨60, 28, 60, 31⟩, .Name "part" ⟨60, 33, 60, 37⟩] 0 ⟨60, 27, 60, 38⟩
  iter := .Name "acc" ⟨60, 56, 60, 59⟩
  ifs := [.Compare (.Name "part" ⟨60, 63, 60, 67⟩) [.NotEq] [.Constant (.str "d") 0 ⟨60, 71, 60, 74⟩] ⟨60, 63, 60, 74⟩]
  xa := "fws"
  xb := "part"
  pa := ⟨60, 43, 60, 46⟩
  pb := ⟨60, 48, 60, 52⟩
  pt := ⟨60, 43, 60, 52⟩
  kt := 0
  scope := { kind := .function, names := [(".0", .local), ("fws", .local), ("part", .local)], isGenerator := true, isCoroutine := false, more := [] }
  pos := ⟨60, 26, 60, 75⟩
theorem tx2 : ResetTx w P L fa G2 [("following", L + 1)] ⟨54, 16, 54, 19⟩ ⟨54, 16, 54, 25⟩ ⟨54, 16, 54, 78⟩ ⟨54, 16, 54, 78⟩ :=
  ⟨⟨by kernel_rfl, by rfl, by decide, by kernel_rfl, by kernel_rfl, by kernel_rfl, by decide +kernel, by kernel_rfl, by kernel_rfl, by kernel_rfl, fun _ => rfl, lim08⟩, ⟨_, rfl⟩, by rfl, by kernel_rfl, ⟨_, by rfl⟩⟩
theorem tx5 : ResetTx w P L fa G5 [] ⟨60, 16, 60, 19⟩ ⟨60, 16, 60, 25⟩ ⟨60, 16, 60, 76⟩ ⟨60, 16, 60, 76⟩ :=
  ⟨⟨by kernel_rfl, by rfl, by decide, by kernel_rfl, by kernel_rfl, by kernel_rfl, by decide +kernel, by kernel_rfl, by kernel_rfl, by kernel_rfl, fun _ => rfl, lim08⟩, ⟨_, rfl⟩, by rfl, by kernel_rfl, ⟨_, by rfl⟩⟩

open PySem PySem.W PySem.Builtin PySem.Builtin.ObjectAttr
open PyProof.Rows hiding wpAt wpAt_bind
set_option linter.unusedSectionVars false
set_option maxRecDepth 100000
set_option maxHeartbeats 1000000
set_option linter.unusedVariables false
variable {P : PySem.Params} {w : World} {L fa : Addr} {loc : Loc} {own own' own'' : Own} {QQ : QF}
variable {sc0 x d rl fd : Addr} {sz v m dd : Int} {row : List (Str × Str)} {pc : Str × Str} {rest : Own}
structure Good08 (j : Nat) (sz : Int) (row : List (Str × Str)) : Prop where
  s0 : 0 ≤ sz
  s6 : sz ≤ 6
  rl : row.length ≤ j
  pc : ∀ p ∈ row, p.1.length ≤ j + 2 ∧ p.2 ∈ lets08
noncomputable def next08 (row : List (Str × Str)) : List (Str × Str) := row.map fun p => (p.1 ++ " ", (folD p.2).getD "")
noncomputable def keep08 (row : List (Str × Str)) : List (Str × Str) := row.filter fun p => p.2 != ("d" : Str)
theorem range_pick {α β : Type} (q : α → Bool) (e : α → β) (z : β) : ∀ l : List α, ((List.range l.length).filter (fun i => match l[i]? with | some p => q p | none => false)).map (fun i => (l[i]?.map e).getD z) = (l.filter q).map e
  | [] => rfl
  | a :: l => by
    have ih := range_pick q e z l
    rw [List.length_cons, List.range_succ_eq_map, List.filter_cons, List.filter_map, List.filter_cons]
    have h1 : ((fun i => match (a :: l)[i]? with | some p => q p | none => false) ∘ Nat.succ) = (fun i => match l[i]? with | some p => q p | none => false) := by
      funext i; simp [Function.comp]
    have h2 : ((fun i => ((a :: l)[i]?.map e).getD z) ∘ Nat.succ) = (fun i => (l[i]?.map e).getD z) := by
      funext i; simp [Function.comp]
    rw [h1]
    show (if q a = true then _ else _ : List Nat).map _ = (if q a = true then _ else _ : List α).map e
    by_cases hq : q a = true
    · rw [if_pos hq, if_pos hq, List.map_cons, List.map_map, h2, ih]; rfl
    · rw [if_neg hq, if_neg hq, List.map_map, h2, ih]
theorem range_all {α β : Type} (e : α → β) (z : β) (l : List α) : ((List.range l.length).filter (fun _ => true)).map (fun i => (l[i]?.map e).getD z) = l.map e := by
  have := range_pick (fun _ => true) e z l
  rw [List.filter_eq_self (l := l).mpr fun _ _ => rfl] at this
  rw [← this]
  refine congrArg _ (List.filter_congr fun i hi => ?_)
  rw [List.getElem?_eq_getElem (List.mem_range.mp hi)]
theorem elt2 {CL : Addr} {cenv : Env} {f p : Str} {t u : Tok} {s₂ : Shared} {m₂ : Str → Option Value} {A' : Around} {R : Value → Shared → Prop} {E : Value → Shared → Prop} (TA : TurnAt w P L fa own G2 [("following", L + 1)] CL cenv f p t u s₂ m₂)
    (hfo : (L + 1, AObj.cell (some (.raw (.ref fd)))) ∈ own) (hff : (fd, FolO pr08 w) ∈ own) (hsm : (fd == sysModules) = false) (hla : f.length ≤ 100000) (hA : A'.handled = none)
    (ok : ∀ y v s₃, folD p = some y → VR s₃.heap v (.tup [.str (f ++ " "), .str y]) → Keeps s₂ s₃ → R v s₃) (no : folD p = none → ∀ h' tk e, Heap.NewExc s₂.heap h' e "KeyError" → E (.ref e) { s₂ with heap := h', toks := tk }) :
    wpAny (model pr08 w) A' (eval G2.elt cenv) R E s₂ := by
  obtain ⟨⟨code, bi, rfl⟩, ns, ma, mb, fresh, hc, ha⟩ := TA
  exact elt_follow (cenv := genEnv G2.scope [("following", L + 1)] CL code bi (lf08 w P L fa).env) (c := L + 1) (fd := fd) rfl (by kernel_rfl) (by kernel_rfl) (by kernel_rfl) (by decide +kernel) (by decide +kernel) (by decide +kernel) (by decide +kernel) hA hla (by rfl) ns ma mb fresh (hc _ _ hfo) hsm (ha _ _ hff) ok no
noncomputable def dAt (row : List (Str × Str)) : Nat := row.findIdx fun p => decide (p.2 = ("d" : Str))
theorem key08 {j : Nat} (hsm : (fd == sysModules) = false) (hg : Good08 j sz row) (hj : j ≤ 40) (hd : ("d" : Str) ∈ row.map (·.2)) :
    ExsX (lf08 w P L fa) [] false (locT08 sc0 x rl sz v m 2 pc "" []) (own08 w L x d rl fd sz row row rest) (ifElse (tryBody ((B08 P).drop 3))) (Told08 w L sc0 x d rl fd sz v m 2 row pc rest "KeyError") := by
  refine ifX08 rfl (by walk_at "has") true (fun Q q => op_eq (by simpa using q)) (by kernel_rfl) ?_
  rw [if_pos rfl]
  have hrl := hg.rl
  obtain ⟨q, hq, hqd⟩ := List.mem_map.mp hd
  have hjl : dAt row < row.length := List.findIdx_lt_length_of_exists ⟨q, hq, decide_eq_true hqd⟩
  refine exsX_here (ex_reset_fail (row := row) (d := d) (l := [("_initial_size", .int sz)]) tx2 (by omega) (by walk_at "has") ?_ (by walk_at "has") (by kernel_rfl) (by walk_at "has") rfl (dAt row) hjl ?_ ?_ ⟨rfl, rfl, List.Sublist.refl _⟩)
  · rw [List.map_map]; exact .here
  · intro CL cenv A' E' i f p t u s₂ m₂ hA hi hij TA
    have hil : i < row.length := by omega
    rw [List.getElem?_eq_getElem hil] at hi
    injection hi with hi
    have hm : row[i] ∈ row := List.getElem_mem hil
    have hp := hg.pc _ hm
    rw [hi] at hp
    have hn : decide (row[i].2 = ("d" : Str)) = false := List.not_of_lt_findIdx hij
    rw [hi] at hn
    refine elt2 TA (by simp) (by simp) hsm (by have : f.length ≤ j + 2 := hp.1; omega) hA (fun y v s₃ _ _ hk => hk) fun hno => ?_
    exact absurd ((folD_none hp.2).mp hno) (of_decide_eq_false hn)
  · intro CL cenv A' Q' E' f p t u s₂ m₂ hA hi TA ne
    rw [List.getElem?_eq_getElem hjl] at hi
    injection hi with hi
    have hm : row[dAt row] ∈ row := List.getElem_mem hjl
    have hp := hg.pc _ hm
    have hn : decide (row[dAt row].2 = ("d" : Str)) = true := List.findIdx_getElem (w := hjl)
    rw [hi] at hp hn
    refine elt2 TA (by simp) (by simp) hsm (by have : f.length ≤ j + 2 := hp.1; omega) hA (fun y v s₃ hy _ _ => ?_) fun hno => ne
    rw [(folD_none hp.2).mpr (of_decide_eq_true hn)] at hy; cases hy

open PySem PySem.W PySem.Builtin PySem.Builtin.ObjectAttr
open PyProof.Rows hiding wpAt wpAt_bind
set_option linter.unusedSectionVars false
set_option maxRecDepth 100000
set_option maxHeartbeats 1000000
set_option linter.unusedVariables false
variable {P : PySem.Params} {w : World} {L fa : Addr} {loc : Loc} {own own' own'' : Own} {QQ : QF}
variable {sc0 x d rl fd : Addr} {sz v m dd : Int} {row : List (Str × Str)} {pc : Str × Str} {rest : Own}
theorem tryX08 {cls : String} {told : Str} (hc : (cls = "KeyError" ∧ told = "key") ∨ (cls = "TypeError" ∧ told = "type")) (h : ExsX (lf08 w P L fa) [] false (locT08 sc0 x rl sz v m dd pc "" []) (own08 w L x d rl fd sz row row rest) (tryBody ((B08 P).drop 3)) (Told08 w L sc0 x d rl fd sz v m dd row pc rest cls))
    (k : Exs (lf08 w P L fa) (locT08 sc0 x rl sz v m dd pc told []) (own08 w L x d rl fd sz row row rest) ((B08 P).drop 4) QQ) : Exs (lf08 w P L fa) (locT08 sc0 x rl sz v m dd pc "" []) (own08 w L x d rl fd sz row row rest) ((B08 P).drop 3) QQ := by
  refine exs_cons (ex_try2 (by kernel_rfl) (by kernel_rfl) (by kernel_rfl) (by kernel_rfl) (by kernel_rfl) frames08 rfl (by rfl) (by rfl) h ?_)
  rintro c l o ⟨rfl, rfl, so⟩
  rcases hc with ⟨rfl, rfl⟩ | ⟨rfl, rfl⟩
  · exact .inl ⟨rfl, _, by (repeat (first | with_reducible exact SetL.here | with_reducible exact SetL.new | (with_reducible apply SetL.there; (focus (dsimp only; decide))))), exs_pk (List.Sublist.refl _) (.of_sub so) k⟩
  · exact .inr ⟨rfl, _, by (repeat (first | with_reducible exact SetL.here | with_reducible exact SetL.new | (with_reducible apply SetL.there; (focus (dsimp only; decide))))), exs_pk (List.Sublist.refl _) (.of_sub so) k⟩
theorem tryOk08 (h : Exs (lf08 w P L fa) loc own (tryBody ((B08 P).drop 3)) fun fl loc own => fl = .next ∧ Exs (lf08 w P L fa) loc own ((B08 P).drop 4) QQ) : Exs (lf08 w P L fa) loc own ((B08 P).drop 3) QQ :=
  exs_cons (ex_try_ok rfl h)
theorem ifO08 {Z : Loc → Own → Prop} {t : PySem.Expr} {a b : List Stmt} {p : Pos} {k c : Int} {op : CmpOp} {pos p1 p2 : Pos} {kk : Nat} (ht : t = .Compare (.Name "deed" p1) [op] [.Constant (.int c) kk p2] pos) (hd : Has "deed" (.int k) loc) (tr : Bool)
    (ho : ∀ Q : QV, Q (.bool tr) loc own → Op2 (lf08 w P L fa) loc own (.int k) (.int c) (compareOp op) Q) (hm : behindInMarks op (.Constant (.int c) kk p2) = false)
    (h : Exs (lf08 w P L fa) loc own (if tr then a else b) fun fl loc own => fl = .next ∧ Z loc own) : Exs (lf08 w P L fa) loc own [.If t a b p] fun fl loc own => fl = .next ∧ Z loc own := by
  subst ht
  refine exs_cons (ex_if (tst_cmp hm (ev_name (by kernel_rfl) (by decide +kernel) hd (ev_int (ho _ (truth_bool ?_))))))
  have h' := exs_mono' (Q' := fun f loc own => match f with | .next => Exs (lf08 w P L fa) loc own [] (fun fl loc own => fl = .next ∧ Z loc own) | f => f = .next ∧ Z loc own) h fun fl l o ⟨e, z⟩ => by subst e; exact exs_nil ⟨rfl, z⟩
  cases tr
  · rw [if_neg (by decide)]; exact h'
  · rw [if_pos rfl]; exact h'
theorem push08t {j : Nat} (hg : Good08 j sz row) (hj : j ≤ 40) (hd2 : dd < 2) (k : Exs (lf08 w P L fa) (locT08 sc0 x rl sz v m dd pc "" []) (own08 w L x d rl fd sz (row ++ [pc]) row rest) ((B08 P).drop 4) QQ) :
    Exs (lf08 w P L fa) (locT08 sc0 x rl sz v m dd pc "" []) (own08 w L x d rl fd sz row row rest) ((B08 P).drop 3) QQ := by
  obtain ⟨cd', SK⟩ := storeK08 (P := P)
  have hrl := hg.rl
  refine tryOk08 (ifO08 rfl (by walk_at "has") true (fun Q q => op_lt (by simpa [hd2] using q)) (by kernel_rfl) ?_)
  rw [if_pos rfl]
  ((refine exs_cons ?_; first | (refine ex_assignS ?hs ?_; (case hs => exact swaps_plain (by rfl))) | refine ex_expr (by kernel_rfl) (by rfl) ?_ | refine ex_if ?_ | refine ex_return ?_ | fail "none"))
  refine ev_meth_star (cd := cd') rfl (by decide +kernel) rfl ?_
  walk_at "name"
  refine ⟨_, _, _, _, _, 45, rfl, accK08, SK, .here, .there .here, by kernel_rfl, by kernel_rfl, by kernel_rfl, by kernel_rfl, by kernel_rfl, ⟨_, _, _, _, rfl⟩, ?_⟩
  walk_at "name"
  refine ⟨_, rfl, by simp, push08s (ps := row) (f := pc.1) (g := pc.2) (own' := own08 w L x d rl fd sz (row ++ [pc]) row rest) rfl (by show callerA.depth + 1 ≤ 900; decide) (by show callerA.units + 3 ≤ 9000; decide) (by omega) .here (.there .here) (by kernel_rfl) (exs_nil ⟨rfl, k⟩)⟩
theorem deeds08 {c : Int} (hne : dd ≠ c) : ∀ Q : QV, Q (.bool false) loc own → Op2 (lf08 w P L fa) loc own (.int dd) (.int c) (compareOp .Eq) Q := fun Q q => op_eq (by rw [decide_eq_false hne]; exact q)
theorem deedl08 {c : Int} (hne : ¬ dd < c) : ∀ Q : QV, Q (.bool false) loc own → Op2 (lf08 w P L fa) loc own (.int dd) (.int c) (compareOp .Lt) Q := fun Q q => op_lt (by rw [decide_eq_false hne]; exact q)
theorem fol08t {j : Nat} (hsm : (fd == sysModules) = false) (hg : Good08 j sz row) (hj : j ≤ 40) (hnd : ("d" : Str) ∉ row.map (·.2)) (k : Exs (lf08 w P L fa) (locT08 sc0 x rl sz v m 2 pc "" []) (own08 w L x d rl fd 0 (next08 row) row rest) ((B08 P).drop 4) QQ) :
    Exs (lf08 w P L fa) (locT08 sc0 x rl sz v m 2 pc "" []) (own08 w L x d rl fd sz row row rest) ((B08 P).drop 3) QQ := by
  have hrl := hg.rl
  refine tryOk08 (ifO08 rfl (by walk_at "has") false (deedl08 (by decide)) (by kernel_rfl) ?_)
  rw [if_neg (by decide)]
  refine ifO08 rfl (by walk_at "has") true (fun Q q => op_eq (by simpa using q)) (by kernel_rfl) ?_
  rw [if_pos rfl]
  refine exs_cons (ex_reset_ok (G := G2) (row := row) (d := d) (l := [("_initial_size", .int sz)]) (l' := [("_initial_size", .int 0)]) (es := (next08 row).map dpair) (own' := own08 w L x d rl fd sz (next08 row) row rest) (own'' := own08 w L x d rl fd 0 (next08 row) row rest) tx2 (by omega) (by walk_at "has") ?_ (by walk_at "has") (by kernel_rfl) (by walk_at "has")
    (fun _ => true) (fun i => ((row[i]?.map fun p => dpair (p.1 ++ " ", (folD p.2).getD "")).getD .none)) ?_ ?_ (.there .here) .here (by simp) ?_ ?_ (exs_nil ⟨rfl, k⟩))
  · rw [List.map_map]; exact .here
  · unfold passing next08
    rw [List.drop_zero, range_all, List.map_map]; rfl
  · rw [List.map_map]; exact .here
  · intro CL cenv A' E' i f p t u s₂ m₂ hA hi TA
    show wpAny _ _ (forIn [] true _) _ _ _
    rw [List.forIn_nil]
    exact wpAny_pure ⟨rfl, Keeps.refl⟩
  · intro CL cenv A' E' i f p t u s₂ m₂ hA hi _ TA
    have hm : (f, p) ∈ row := List.mem_of_getElem? hi
    have hp := hg.pc _ hm
    refine elt2 TA (by simp) (by simp) hsm (by have : f.length ≤ j + 2 := hp.1; omega) hA (fun y v s₃ hy vr hk => ⟨?_, hk⟩) fun hno => ?_
    · rw [hi]
      show VR _ _ (dpair (f ++ " ", (folD p).getD ""))
      rw [hy]; exact vr
    · exact absurd (List.mem_map_of_mem (f := (·.2)) hm) (by rw [show ((f, p) : Str × Str).2 = ("d" : Str) from (folD_none hp.2).mp hno]; exact hnd)
theorem keep08t {j : Nat} (hg : Good08 j sz row) (hj : j ≤ 40) (k : Exs (lf08 w P L fa) (locT08 sc0 x rl sz v m 5 pc "" []) (own08 w L x d rl fd 0 (keep08 row) row rest) ((B08 P).drop 4) QQ) :
    Exs (lf08 w P L fa) (locT08 sc0 x rl sz v m 5 pc "" []) (own08 w L x d rl fd sz row row rest) ((B08 P).drop 3) QQ := by
  have hrl := hg.rl
  refine tryOk08 (ifO08 rfl (by walk_at "has") false (deedl08 (by decide)) (by kernel_rfl) ?_)
  rw [if_neg (by decide)]
  refine ifO08 rfl (by walk_at "has") false (deeds08 (by decide)) (by kernel_rfl) ?_
  rw [if_neg (by decide)]
  refine ifO08 rfl (by walk_at "has") false (deeds08 (by decide)) (by kernel_rfl) ?_
  rw [if_neg (by decide)]
  refine ifO08 rfl (by walk_at "has") false (deeds08 (by decide)) (by kernel_rfl) ?_
  rw [if_neg (by decide)]
  refine exs_cons (ex_reset_ok (G := G5) (row := row) (d := d) (l := [("_initial_size", .int sz)]) (l' := [("_initial_size", .int 0)]) (es := (keep08 row).map dpair) (own' := own08 w L x d rl fd sz (keep08 row) row rest) (own'' := own08 w L x d rl fd 0 (keep08 row) row rest) tx5 (by omega) (by walk_at "has") ?_ (by walk_at "has") (by kernel_rfl) (by walk_at "has")
    (fun i => match row[i]? with | some p => p.2 != ("d" : Str) | none => false) (fun i => ((row[i]?.map dpair).getD .none)) ?_ ?_ (.there .here) .here (by simp) ?_ ?_ (exs_nil ⟨rfl, k⟩))
  · rw [List.map_map]; exact .here
  · unfold passing keep08
    rw [List.drop_zero]
    refine Eq.trans (range_pick (fun p : Str × Str => p.2 != ("d" : Str)) dpair .none row).symm ?_
    refine congrArg _ (List.filter_congr fun i _ => ?_)
    cases row[i]? <;> rfl
  · rw [List.map_map]; exact .here
  · intro CL cenv A' E' i f p t u s₂ m₂ hA hi TA
    obtain ⟨⟨code, bi, rfl⟩, ns, ma, mb, fresh, hc, ha⟩ := TA
    refine wpAny_mono (test_ne (cenv := genEnv G5.scope [] CL code bi (lf08 w P L fa).env) (xb := "part") rfl (by kernel_rfl) (by decide +kernel) ns mb) (fun ok s₃ ⟨e, hk⟩ => ⟨?_, hk⟩) fun _ _ z => z
    rw [e, hi]
  · intro CL cenv A' E' i f p t u s₂ m₂ hA hi _ TA
    obtain ⟨⟨code, bi, rfl⟩, ns, ma, mb, fresh, hc, ha⟩ := TA
    refine wpAny_mono (elt_plain (cenv := genEnv G5.scope [] CL code bi (lf08 w P L fa).env) (xa := "fws") (xb := "part") rfl (by kernel_rfl) (by kernel_rfl) (by decide +kernel) (by decide +kernel) ns ma mb fresh (.str _ _) (.str _ _)) (fun y s₃ ⟨vr, hk⟩ => ⟨?_, hk⟩) fun _ _ z => z
    rw [hi]; exact vr

open PySem PySem.W PySem.Builtin PySem.Builtin.ObjectAttr
open PyProof.Rows hiding wpAt wpAt_bind
set_option linter.unusedSectionVars false
set_option maxRecDepth 100000
set_option maxHeartbeats 1000000
set_option linter.unusedVariables false
variable {P : PySem.Params} {w : World} {L fa : Addr} {loc : Loc} {own own' own'' : Own} {QQ : QF}
variable {sc0 x d rl fd : Addr} {sz v m dd : Int} {row : List (Str × Str)} {pc : Str × Str} {rest : Own}
noncomputable def Post08 (j : Nat) (w : World) (L sc0 x d fd : Addr) (rest : Own) : QF := fun fl loc own => fl = .next ∧ ∃ rl sz row, Good08 j sz row ∧ (loc08 sc0 x rl sz []).Sublist loc ∧ Pk (own08 w L x d rl fd sz row row rest) own
theorem tail08 {j : Nat} {told : Str} (hg : Good08 j sz row) (hj : j ≤ 41) :
    Exs (lf08 w P L fa) (locT08 sc0 x rl sz v m dd pc told [("due", .str told)]) (own08 w L x d rl fd sz row row rest) ((B08 P).drop 6) (Post08 j w L sc0 x d fd rest) := by
  have hrl := hg.rl
  have s0 := hg.s0
  have s6 := hg.s6
  have hfit : Fits row := fun p hp => ⟨by have := (hg.pc p hp).1; omega, by
    have h2 : ∀ q ∈ lets08, q.length ≤ 1000 := by decide +kernel
    exact h2 _ (hg.pc p hp).2⟩
  have hst := signs_top' hfit
  have hs0 := signs_nn' row
  refine exs_cons ?_
  refine ex_if ?_
  (repeat' ((first | (with_reducible first | refine ev_bin ?_ | refine ev_int ?_ | refine ev_str ?_ | refine ev_bool ?_ | refine ev_none ?_ | walk_at "name" | walk_at "fn" | refine ev_sub ?_ | refine ev_slice ?_ | refine evo_none ?_ | refine evo_some ?_ | refine ev_tuple ?_ | refine ev_list ?_ | refine evl_nil ?_ | refine op_add ?_ | refine op_sub ?_ | refine op_lt ?_ | refine op_gt ?_ | refine op_le ?_ | refine op_eq ?_ | refine op_ne ?_ | refine op_eq_str ?_ | refine op_ne_str ?_ | refine op_max ?_ | refine op_min ?_ | refine op_abs ?_ | refine op_mod (by first | decide | walk_at "om") ?_ | refine op_div (by first | decide | walk_at "om") (by first | decide | walk_at "om") ?_ | refine op_len_str (by first | decide | walk_at "om") ?_ | refine op_cat (by first | decide | walk_at "om") ?_ | refine truth_bool ?_ | refine tst_cmp (by kernel_rfl) ?_ | refine ev_cmp (by kernel_rfl) ?_ | refine tst_not ?_ | fail "none") | ((with_reducible show EvL _ _ _ _ (_ :: _) _); refine evl_cons ?_) | ((with_reducible show Ev _ _ _ (.Call (.Attribute _ _ _) _ [] _) _); refine ev_meth ?_) | fail "none")))
  rw [if_neg (by simp)]
  refine exs_nil ?_
  refine exs_cons ?_
  refine ex_if ?_
  (repeat' ((first | (with_reducible first | refine ev_bin ?_ | refine ev_int ?_ | refine ev_str ?_ | refine ev_bool ?_ | refine ev_none ?_ | walk_at "name" | walk_at "fn" | refine ev_sub ?_ | refine ev_slice ?_ | refine evo_none ?_ | refine evo_some ?_ | refine ev_tuple ?_ | refine ev_list ?_ | refine evl_nil ?_ | refine op_add ?_ | refine op_sub ?_ | refine op_lt ?_ | refine op_gt ?_ | refine op_le ?_ | refine op_eq ?_ | refine op_ne ?_ | refine op_eq_str ?_ | refine op_ne_str ?_ | refine op_max ?_ | refine op_min ?_ | refine op_abs ?_ | refine op_mod (by first | decide | walk_at "om") ?_ | refine op_div (by first | decide | walk_at "om") (by first | decide | walk_at "om") ?_ | refine op_len_str (by first | decide | walk_at "om") ?_ | refine op_cat (by first | decide | walk_at "om") ?_ | refine truth_bool ?_ | refine tst_cmp (by kernel_rfl) ?_ | refine ev_cmp (by kernel_rfl) ?_ | refine tst_not ?_ | fail "none") | ((with_reducible show EvL _ _ _ _ (_ :: _) _); refine evl_cons ?_) | ((with_reducible show Ev _ _ _ (.Call (.Attribute _ _ _) _ [] _) _); refine ev_meth ?_) | fail "none")))
  by_cases hd1 : dd > 1
  · rw [if_pos (decide_eq_true hd1)]
    ((refine exs_cons ?_; first | (refine ex_assignS ?hs ?_; (case hs => exact swaps_plain (by rfl))) | refine ex_expr (by kernel_rfl) (by rfl) ?_ | refine ex_if ?_ | refine ex_return ?_ | fail "none"))
    (repeat' ((first | (with_reducible first | refine ev_bin ?_ | refine ev_int ?_ | refine ev_str ?_ | refine ev_bool ?_ | refine ev_none ?_ | walk_at "name" | walk_at "fn" | refine ev_sub ?_ | refine ev_slice ?_ | refine evo_none ?_ | refine evo_some ?_ | refine ev_tuple ?_ | refine ev_list ?_ | refine evl_nil ?_ | refine op_add ?_ | refine op_sub ?_ | refine op_lt ?_ | refine op_gt ?_ | refine op_le ?_ | refine op_eq ?_ | refine op_ne ?_ | refine op_eq_str ?_ | refine op_ne_str ?_ | refine op_max ?_ | refine op_min ?_ | refine op_abs ?_ | refine op_mod (by first | decide | walk_at "om") ?_ | refine op_div (by first | decide | walk_at "om") (by first | decide | walk_at "om") ?_ | refine op_len_str (by first | decide | walk_at "om") ?_ | refine op_cat (by first | decide | walk_at "om") ?_ | refine truth_bool ?_ | refine tst_cmp (by kernel_rfl) ?_ | refine ev_cmp (by kernel_rfl) ?_ | refine tst_not ?_ | fail "none") | ((with_reducible show EvL _ _ _ _ (_ :: _) _); refine evl_cons ?_) | ((with_reducible show Ev _ _ _ (.Call (.Attribute _ _ _) _ [] _) _); refine ev_meth ?_) | fail "none")))
    refine ev_comp [] rfl ⟨rfl, rfl, by decide, by decide, fun _ => rfl⟩ (it_list ?_)
    walk_at "name"
    refine ⟨rl, row.map dpair, rfl, by walk_at "has", ?_⟩
    refine comp_pure (fun p => some (.int (p.1.length + p.2.length))) (by walk_at "has") (by omega) (fun C ac p res hp => ?_) ?_
    · intro _
      have hf := hfit p hp
      refine as_tuple (by kernel_rfl) rfl (as_name (by kernel_rfl) .new (as_name (by kernel_rfl) (by (repeat (first | with_reducible exact SetL.here | with_reducible exact SetL.new | (with_reducible apply SetL.there; (focus (dsimp only; decide)))))) ?_))
      show Ev _ _ _ _ _
      (repeat' ((first | (with_reducible first | refine ev_bin ?_ | refine ev_int ?_ | refine ev_str ?_ | refine ev_bool ?_ | refine ev_none ?_ | walk_at "name" | walk_at "fn" | refine ev_sub ?_ | refine ev_slice ?_ | refine evo_none ?_ | refine evo_some ?_ | refine ev_tuple ?_ | refine ev_list ?_ | refine evl_nil ?_ | refine op_add ?_ | refine op_sub ?_ | refine op_lt ?_ | refine op_gt ?_ | refine op_le ?_ | refine op_eq ?_ | refine op_ne ?_ | refine op_eq_str ?_ | refine op_ne_str ?_ | refine op_max ?_ | refine op_min ?_ | refine op_abs ?_ | refine op_mod (by first | decide | walk_at "om") ?_ | refine op_div (by first | decide | walk_at "om") (by first | decide | walk_at "om") ?_ | refine op_len_str (by first | decide | walk_at "om") ?_ | refine op_cat (by first | decide | walk_at "om") ?_ | refine truth_bool ?_ | refine tst_cmp (by kernel_rfl) ?_ | refine ev_cmp (by kernel_rfl) ?_ | refine tst_not ?_ | fail "none") | ((with_reducible show EvL _ _ _ _ (_ :: _) _); refine evl_cons ?_) | ((with_reducible show Ev _ _ _ (.Call (.Attribute _ _ _) _ [] _) _); refine ev_meth ?_) | fail "none")))
      exact ⟨rfl, List.Sublist.refl _⟩
    intro b
    rw [show (row.filterMap fun p => some (Dv.int (p.1.length + p.2.length))) = (row.map fun p => (p.1.length + p.2.length : Int)).map Dv.int by rw [List.filterMap_eq_map', List.map_map]; rfl]
    (repeat' ((first | (with_reducible first | refine ev_bin ?_ | refine ev_int ?_ | refine ev_str ?_ | refine ev_bool ?_ | refine ev_none ?_ | walk_at "name" | walk_at "fn" | refine ev_sub ?_ | refine ev_slice ?_ | refine evo_none ?_ | refine evo_some ?_ | refine ev_tuple ?_ | refine ev_list ?_ | refine evl_nil ?_ | refine op_add ?_ | refine op_sub ?_ | refine op_lt ?_ | refine op_gt ?_ | refine op_le ?_ | refine op_eq ?_ | refine op_ne ?_ | refine op_eq_str ?_ | refine op_ne_str ?_ | refine op_max ?_ | refine op_min ?_ | refine op_abs ?_ | refine op_mod (by first | decide | walk_at "om") ?_ | refine op_div (by first | decide | walk_at "om") (by first | decide | walk_at "om") ?_ | refine op_len_str (by first | decide | walk_at "om") ?_ | refine op_cat (by first | decide | walk_at "om") ?_ | refine truth_bool ?_ | refine tst_cmp (by kernel_rfl) ?_ | refine ev_cmp (by kernel_rfl) ?_ | refine tst_not ?_ | fail "none") | ((with_reducible show EvL _ _ _ _ (_ :: _) _); refine evl_cons ?_) | ((with_reducible show Ev _ _ _ (.Call (.Attribute _ _ _) _ [] _) _); refine ev_meth ?_) | fail "none")))
    refine op_sum .here ?_
    rw [show (row.map fun p => (p.1.length + p.2.length : Int)).sum = signs row from rfl]
    refine ⟨_, _, by ((refine StoreTo.loc (by kernel_rfl) (by (repeat (first | with_reducible exact SetL.here | with_reducible exact SetL.new | (with_reducible apply SetL.there; (focus (dsimp only; decide)))))))), ?_⟩
    refine exs_cons (ex_if (tst_bool (all_or_cons ?_)))
    refine tst_cmp (by kernel_rfl) ?_
    refine ev_comp [] rfl ⟨rfl, rfl, by decide, by decide, fun _ => rfl⟩ (it_acc ?_)
    walk_at "name"
    refine ⟨x, 100, d, row.map dpair, rfl, accK08, by walk_at "has", ?_⟩
    refine comp_pure (fun p => some (dpair p)) (by walk_at "has") (by omega) (fun C ac p res hp => ?_) ?_
    · intro _
      refine as_name (by kernel_rfl) .new ?_
      show Ev _ _ _ _ _
      (repeat' ((first | (with_reducible first | refine ev_bin ?_ | refine ev_int ?_ | refine ev_str ?_ | refine ev_bool ?_ | refine ev_none ?_ | walk_at "name" | walk_at "fn" | refine ev_sub ?_ | refine ev_slice ?_ | refine evo_none ?_ | refine evo_some ?_ | refine ev_tuple ?_ | refine ev_list ?_ | refine evl_nil ?_ | refine op_add ?_ | refine op_sub ?_ | refine op_lt ?_ | refine op_gt ?_ | refine op_le ?_ | refine op_eq ?_ | refine op_ne ?_ | refine op_eq_str ?_ | refine op_ne_str ?_ | refine op_max ?_ | refine op_min ?_ | refine op_abs ?_ | refine op_mod (by first | decide | walk_at "om") ?_ | refine op_div (by first | decide | walk_at "om") (by first | decide | walk_at "om") ?_ | refine op_len_str (by first | decide | walk_at "om") ?_ | refine op_cat (by first | decide | walk_at "om") ?_ | refine truth_bool ?_ | refine tst_cmp (by kernel_rfl) ?_ | refine ev_cmp (by kernel_rfl) ?_ | refine tst_not ?_ | fail "none") | ((with_reducible show EvL _ _ _ _ (_ :: _) _); refine evl_cons ?_) | ((with_reducible show Ev _ _ _ (.Call (.Attribute _ _ _) _ [] _) _); refine ev_meth ?_) | fail "none")))
      exact ⟨rfl, List.Sublist.refl _⟩
    intro b2
    rw [List.filterMap_eq_map']
    (repeat' ((first | (with_reducible first | refine ev_bin ?_ | refine ev_int ?_ | refine ev_str ?_ | refine ev_bool ?_ | refine ev_none ?_ | walk_at "name" | walk_at "fn" | refine ev_sub ?_ | refine ev_slice ?_ | refine evo_none ?_ | refine evo_some ?_ | refine ev_tuple ?_ | refine ev_list ?_ | refine evl_nil ?_ | refine op_add ?_ | refine op_sub ?_ | refine op_lt ?_ | refine op_gt ?_ | refine op_le ?_ | refine op_eq ?_ | refine op_ne ?_ | refine op_eq_str ?_ | refine op_ne_str ?_ | refine op_max ?_ | refine op_min ?_ | refine op_abs ?_ | refine op_mod (by first | decide | walk_at "om") ?_ | refine op_div (by first | decide | walk_at "om") (by first | decide | walk_at "om") ?_ | refine op_len_str (by first | decide | walk_at "om") ?_ | refine op_cat (by first | decide | walk_at "om") ?_ | refine truth_bool ?_ | refine tst_cmp (by kernel_rfl) ?_ | refine ev_cmp (by kernel_rfl) ?_ | refine tst_not ?_ | fail "none") | ((with_reducible show EvL _ _ _ _ (_ :: _) _); refine evl_cons ?_) | ((with_reducible show Ev _ _ _ (.Call (.Attribute _ _ _) _ [] _) _); refine ev_meth ?_) | fail "none")))
    refine op_ne_list cmpPair (xs := row) (ys := row) (by walk_at "has") (by walk_at "has") (by show 10 + _ < cLine; decide) ?_
    refine truth_bool ?_
    rw [if_neg (by simp)]
    refine all_or_cons ?_
    (repeat' ((first | (with_reducible first | refine ev_bin ?_ | refine ev_int ?_ | refine ev_str ?_ | refine ev_bool ?_ | refine ev_none ?_ | walk_at "name" | walk_at "fn" | refine ev_sub ?_ | refine ev_slice ?_ | refine evo_none ?_ | refine evo_some ?_ | refine ev_tuple ?_ | refine ev_list ?_ | refine evl_nil ?_ | refine op_add ?_ | refine op_sub ?_ | refine op_lt ?_ | refine op_gt ?_ | refine op_le ?_ | refine op_eq ?_ | refine op_ne ?_ | refine op_eq_str ?_ | refine op_ne_str ?_ | refine op_max ?_ | refine op_min ?_ | refine op_abs ?_ | refine op_mod (by first | decide | walk_at "om") ?_ | refine op_div (by first | decide | walk_at "om") (by first | decide | walk_at "om") ?_ | refine op_len_str (by first | decide | walk_at "om") ?_ | refine op_cat (by first | decide | walk_at "om") ?_ | refine truth_bool ?_ | refine tst_cmp (by kernel_rfl) ?_ | refine ev_cmp (by kernel_rfl) ?_ | refine tst_not ?_ | fail "none") | ((with_reducible show EvL _ _ _ _ (_ :: _) _); refine evl_cons ?_) | ((with_reducible show Ev _ _ _ (.Call (.Attribute _ _ _) _ [] _) _); refine ev_meth ?_) | fail "none")))
    refine op_len_acc (f := 67) (C := 100) (d := d) (ds := row.map dpair) (by walk_at "has") (by kernel_rfl) (by kernel_rfl) (len08 (ps := row) (n := sz) (l := [("_initial_size", .int sz)]) rfl (by show callerA.depth + 1 ≤ 800; decide) (by show callerA.units + 3 + 1 ≤ 8000; decide) (by walk_at "has") (by walk_at "has") (by kernel_rfl) (by walk_at "has") (fun p hp => ⟨by have := hfit p hp; omega, by have := hfit p hp; omega⟩) ⟨_, rfl, by omega, by omega, ?_⟩)
    (repeat' ((first | (with_reducible first | refine ev_bin ?_ | refine ev_int ?_ | refine ev_str ?_ | refine ev_bool ?_ | refine ev_none ?_ | walk_at "name" | walk_at "fn" | refine ev_sub ?_ | refine ev_slice ?_ | refine evo_none ?_ | refine evo_some ?_ | refine ev_tuple ?_ | refine ev_list ?_ | refine evl_nil ?_ | refine op_add ?_ | refine op_sub ?_ | refine op_lt ?_ | refine op_gt ?_ | refine op_le ?_ | refine op_eq ?_ | refine op_ne ?_ | refine op_eq_str ?_ | refine op_ne_str ?_ | refine op_max ?_ | refine op_min ?_ | refine op_abs ?_ | refine op_mod (by first | decide | walk_at "om") ?_ | refine op_div (by first | decide | walk_at "om") (by first | decide | walk_at "om") ?_ | refine op_len_str (by first | decide | walk_at "om") ?_ | refine op_cat (by first | decide | walk_at "om") ?_ | refine truth_bool ?_ | refine tst_cmp (by kernel_rfl) ?_ | refine ev_cmp (by kernel_rfl) ?_ | refine tst_not ?_ | fail "none") | ((with_reducible show EvL _ _ _ _ (_ :: _) _); refine evl_cons ?_) | ((with_reducible show Ev _ _ _ (.Call (.Attribute _ _ _) _ [] _) _); refine ev_meth ?_) | fail "none")))
    rw [if_neg (by simp)]
    refine all_or_nil ?_
    rw [if_neg (by simp)]
    exact exs_nil (exs_nil (exs_nil ⟨rfl, rl, sz, row, hg, by (repeat (first | with_reducible exact List.Sublist.refl _ | with_reducible apply List.Sublist.cons_cons | with_reducible apply List.Sublist.cons | exact List.nil_sublist _)), .of_sub (.cons _ (.cons _ (List.Sublist.refl _)))⟩))
  · rw [if_neg (by simpa using hd1)]
    exact exs_nil (exs_nil ⟨rfl, rl, sz, row, hg, by (repeat (first | with_reducible exact List.Sublist.refl _ | with_reducible apply List.Sublist.cons_cons | with_reducible apply List.Sublist.cons | exact List.nil_sublist _)), .refl⟩)

open PySem PySem.W PySem.Builtin PySem.Builtin.ObjectAttr
open PyProof.Rows hiding wpAt wpAt_bind
set_option linter.unusedSectionVars false
set_option maxRecDepth 100000
set_option maxHeartbeats 1000000
set_option linter.unusedVariables false
variable {P : PySem.Params} {w : World} {L fa : Addr} {loc : Loc} {own own' own'' : Own} {QQ : QF}
variable {sc0 x d rl fd : Addr} {sz v m dd : Int} {row : List (Str × Str)} {pc : Str × Str} {rest : Own}
theorem Good08.up {j : Nat} (h : Good08 j sz row) : Good08 (j + 1) sz row := ⟨h.s0, h.s6, Nat.le_succ_of_le h.rl, fun p hp => ⟨Nat.le_succ_of_le (h.pc p hp).1, (h.pc p hp).2⟩⟩
theorem Good08.push {j : Nat} (h : Good08 j sz row) (h1 : pc.1.length ≤ 2) (h2 : pc.2 ∈ lets08) : Good08 (j + 1) sz (row ++ [pc]) := ⟨h.s0, h.s6, by rw [List.length_append]; exact Nat.succ_le_succ h.rl, fun p hp => by
  rcases List.mem_append.mp hp with hp | hp
  · exact (h.up).pc p hp
  · rw [List.mem_singleton.mp hp]; exact ⟨by omega, h2⟩⟩
theorem Good08.next {j : Nat} (h : Good08 j sz row) (hd : ("d" : Str) ∉ row.map (·.2)) : Good08 (j + 1) 0 (next08 row) := ⟨by decide, by decide, by unfold next08; rw [List.length_map]; exact Nat.le_succ_of_le h.rl, fun p hp => by
  obtain ⟨q, hq, rfl⟩ := List.mem_map.mp hp
  have hp := h.pc q hq
  refine ⟨?_, ?_⟩
  · show (q.1 ++ (" " : Str)).length ≤ _
    rw [len_append]
    have : (" " : Str).length = 1 := rfl
    omega
  · show (folD q.2).getD "" ∈ lets08
    cases hf : folD q.2 with
    | none => exact absurd (List.mem_map_of_mem (f := (·.2)) hq) (by rw [(folD_none hp.2).mp hf]; exact hd)
    | some y => exact folD_lets hf⟩
theorem Good08.keep {j : Nat} (h : Good08 j sz row) : Good08 (j + 1) 0 (keep08 row) := ⟨by decide, by decide, Nat.le_trans (List.length_filter_le _ _) (Nat.le_succ_of_le h.rl), fun p hp => (h.up).pc p (List.mem_filter.mp hp).1⟩
theorem duePush {j : Nat} (hg : Good08 j sz row) (hj : j ≤ 40) (hd2 : dd < 2) (h1 : pc.1.length ≤ 2) (h2 : pc.2 ∈ lets08) :
    Exs (lf08 w P L fa) (locT08 sc0 x rl sz v m dd pc "" []) (own08 w L x d rl fd sz (row ++ [pc]) row rest) ((B08 P).drop 4) (Post08 (j + 1) w L sc0 x d fd rest) := by
  have hrl := hg.rl
  ((refine exs_cons ?_; first | (refine ex_assignS ?hs ?_; (case hs => exact swaps_plain (by rfl))) | refine ex_expr (by kernel_rfl) (by rfl) ?_ | refine ex_if ?_ | refine ex_return ?_ | fail "none"))
  (repeat' ((first | (with_reducible first | refine ev_bin ?_ | refine ev_int ?_ | refine ev_str ?_ | refine ev_bool ?_ | refine ev_none ?_ | walk_at "name" | walk_at "fn" | refine ev_sub ?_ | refine ev_slice ?_ | refine evo_none ?_ | refine evo_some ?_ | refine ev_tuple ?_ | refine ev_list ?_ | refine evl_nil ?_ | refine op_add ?_ | refine op_sub ?_ | refine op_lt ?_ | refine op_gt ?_ | refine op_le ?_ | refine op_eq ?_ | refine op_ne ?_ | refine op_eq_str ?_ | refine op_ne_str ?_ | refine op_max ?_ | refine op_min ?_ | refine op_abs ?_ | refine op_mod (by first | decide | walk_at "om") ?_ | refine op_div (by first | decide | walk_at "om") (by first | decide | walk_at "om") ?_ | refine op_len_str (by first | decide | walk_at "om") ?_ | refine op_cat (by first | decide | walk_at "om") ?_ | refine truth_bool ?_ | refine tst_cmp (by kernel_rfl) ?_ | refine ev_cmp (by kernel_rfl) ?_ | refine tst_not ?_ | fail "none") | ((with_reducible show EvL _ _ _ _ (_ :: _) _); refine evl_cons ?_) | ((with_reducible show Ev _ _ _ (.Call (.Attribute _ _ _) _ [] _) _); refine ev_meth ?_) | fail "none")))
  refine ⟨_, _, by ((refine StoreTo.loc (by kernel_rfl) (by (repeat (first | with_reducible exact SetL.here | with_reducible exact SetL.new | (with_reducible apply SetL.there; (focus (dsimp only; decide)))))))), ?_⟩
  refine exs_cons (ex_if ?_)
  (repeat' ((first | (with_reducible first | refine ev_bin ?_ | refine ev_int ?_ | refine ev_str ?_ | refine ev_bool ?_ | refine ev_none ?_ | walk_at "name" | walk_at "fn" | refine ev_sub ?_ | refine ev_slice ?_ | refine evo_none ?_ | refine evo_some ?_ | refine ev_tuple ?_ | refine ev_list ?_ | refine evl_nil ?_ | refine op_add ?_ | refine op_sub ?_ | refine op_lt ?_ | refine op_gt ?_ | refine op_le ?_ | refine op_eq ?_ | refine op_ne ?_ | refine op_eq_str ?_ | refine op_ne_str ?_ | refine op_max ?_ | refine op_min ?_ | refine op_abs ?_ | refine op_mod (by first | decide | walk_at "om") ?_ | refine op_div (by first | decide | walk_at "om") (by first | decide | walk_at "om") ?_ | refine op_len_str (by first | decide | walk_at "om") ?_ | refine op_cat (by first | decide | walk_at "om") ?_ | refine truth_bool ?_ | refine tst_cmp (by kernel_rfl) ?_ | refine ev_cmp (by kernel_rfl) ?_ | refine tst_not ?_ | fail "none") | ((with_reducible show EvL _ _ _ _ (_ :: _) _); refine evl_cons ?_) | ((with_reducible show Ev _ _ _ (.Call (.Attribute _ _ _) _ [] _) _); refine ev_meth ?_) | fail "none")))
  rw [if_pos (decide_eq_true hd2)]
  ((refine exs_cons ?_; first | (refine ex_assignS ?hs ?_; (case hs => exact swaps_plain (by rfl))) | refine ex_expr (by kernel_rfl) (by rfl) ?_ | refine ex_if ?_ | refine ex_return ?_ | fail "none"))
  (repeat' ((first | (with_reducible first | refine ev_bin ?_ | refine ev_int ?_ | refine ev_str ?_ | refine ev_bool ?_ | refine ev_none ?_ | walk_at "name" | walk_at "fn" | refine ev_sub ?_ | refine ev_slice ?_ | refine evo_none ?_ | refine evo_some ?_ | refine ev_tuple ?_ | refine ev_list ?_ | refine evl_nil ?_ | refine op_add ?_ | refine op_sub ?_ | refine op_lt ?_ | refine op_gt ?_ | refine op_le ?_ | refine op_eq ?_ | refine op_ne ?_ | refine op_eq_str ?_ | refine op_ne_str ?_ | refine op_max ?_ | refine op_min ?_ | refine op_abs ?_ | refine op_mod (by first | decide | walk_at "om") ?_ | refine op_div (by first | decide | walk_at "om") (by first | decide | walk_at "om") ?_ | refine op_len_str (by first | decide | walk_at "om") ?_ | refine op_cat (by first | decide | walk_at "om") ?_ | refine truth_bool ?_ | refine tst_cmp (by kernel_rfl) ?_ | refine ev_cmp (by kernel_rfl) ?_ | refine tst_not ?_ | fail "none") | ((with_reducible show EvL _ _ _ _ (_ :: _) _); refine evl_cons ?_) | ((with_reducible show Ev _ _ _ (.Call (.Attribute _ _ _) _ [] _) _); refine ev_meth ?_) | fail "none")))
  refine meth_list (ds := row.map dpair) (by walk_at "has") lk_append ty_append (by kernel_rfl) ?_
  (repeat' ((first | (with_reducible first | refine ev_bin ?_ | refine ev_int ?_ | refine ev_str ?_ | refine ev_bool ?_ | refine ev_none ?_ | walk_at "name" | walk_at "fn" | refine ev_sub ?_ | refine ev_slice ?_ | refine evo_none ?_ | refine evo_some ?_ | refine ev_tuple ?_ | refine ev_list ?_ | refine evl_nil ?_ | refine op_add ?_ | refine op_sub ?_ | refine op_lt ?_ | refine op_gt ?_ | refine op_le ?_ | refine op_eq ?_ | refine op_ne ?_ | refine op_eq_str ?_ | refine op_ne_str ?_ | refine op_max ?_ | refine op_min ?_ | refine op_abs ?_ | refine op_mod (by first | decide | walk_at "om") ?_ | refine op_div (by first | decide | walk_at "om") (by first | decide | walk_at "om") ?_ | refine op_len_str (by first | decide | walk_at "om") ?_ | refine op_cat (by first | decide | walk_at "om") ?_ | refine truth_bool ?_ | refine tst_cmp (by kernel_rfl) ?_ | refine ev_cmp (by kernel_rfl) ?_ | refine tst_not ?_ | fail "none") | ((with_reducible show EvL _ _ _ _ (_ :: _) _); refine evl_cons ?_) | ((with_reducible show Ev _ _ _ (.Call (.Attribute _ _ _) _ [] _) _); refine ev_meth ?_) | fail "none")))
  refine op_append (ds := row.map dpair) (mk := .list) (own' := own08 w L x d rl fd sz (row ++ [pc]) (row ++ [pc]) rest) ?_ .list (by rw [List.length_map]; omega) ?_
  · rw [show row.map dpair ++ [dpair pc] = (row ++ [pc]).map dpair by rw [List.map_append]; rfl]
    walk_at "has"
  exact exs_nil (tail08 (hg.push h1 h2) (by omega))
theorem dueType {j : Nat} (hg : Good08 j sz row) (hj : j ≤ 40) (hdd : dd = 3 ∨ dd = 4) :
    Exs (lf08 w P L fa) (locT08 sc0 x rl sz v m dd pc "type" []) (own08 w L x d rl fd sz row row rest) ((B08 P).drop 4) (Post08 (j + 1) w L sc0 x d fd rest) := by
  ((refine exs_cons ?_; first | (refine ex_assignS ?hs ?_; (case hs => exact swaps_plain (by rfl))) | refine ex_expr (by kernel_rfl) (by rfl) ?_ | refine ex_if ?_ | refine ex_return ?_ | fail "none"))
  (repeat' ((first | (with_reducible first | refine ev_bin ?_ | refine ev_int ?_ | refine ev_str ?_ | refine ev_bool ?_ | refine ev_none ?_ | walk_at "name" | walk_at "fn" | refine ev_sub ?_ | refine ev_slice ?_ | refine evo_none ?_ | refine evo_some ?_ | refine ev_tuple ?_ | refine ev_list ?_ | refine evl_nil ?_ | refine op_add ?_ | refine op_sub ?_ | refine op_lt ?_ | refine op_gt ?_ | refine op_le ?_ | refine op_eq ?_ | refine op_ne ?_ | refine op_eq_str ?_ | refine op_ne_str ?_ | refine op_max ?_ | refine op_min ?_ | refine op_abs ?_ | refine op_mod (by first | decide | walk_at "om") ?_ | refine op_div (by first | decide | walk_at "om") (by first | decide | walk_at "om") ?_ | refine op_len_str (by first | decide | walk_at "om") ?_ | refine op_cat (by first | decide | walk_at "om") ?_ | refine truth_bool ?_ | refine tst_cmp (by kernel_rfl) ?_ | refine ev_cmp (by kernel_rfl) ?_ | refine tst_not ?_ | fail "none") | ((with_reducible show EvL _ _ _ _ (_ :: _) _); refine evl_cons ?_) | ((with_reducible show Ev _ _ _ (.Call (.Attribute _ _ _) _ [] _) _); refine ev_meth ?_) | fail "none")))
  refine ⟨_, _, by ((refine StoreTo.loc (by kernel_rfl) (by (repeat (first | with_reducible exact SetL.here | with_reducible exact SetL.new | (with_reducible apply SetL.there; (focus (dsimp only; decide)))))))), ?_⟩
  refine exs_cons (ex_if ?_)
  (repeat' ((first | (with_reducible first | refine ev_bin ?_ | refine ev_int ?_ | refine ev_str ?_ | refine ev_bool ?_ | refine ev_none ?_ | walk_at "name" | walk_at "fn" | refine ev_sub ?_ | refine ev_slice ?_ | refine evo_none ?_ | refine evo_some ?_ | refine ev_tuple ?_ | refine ev_list ?_ | refine evl_nil ?_ | refine op_add ?_ | refine op_sub ?_ | refine op_lt ?_ | refine op_gt ?_ | refine op_le ?_ | refine op_eq ?_ | refine op_ne ?_ | refine op_eq_str ?_ | refine op_ne_str ?_ | refine op_max ?_ | refine op_min ?_ | refine op_abs ?_ | refine op_mod (by first | decide | walk_at "om") ?_ | refine op_div (by first | decide | walk_at "om") (by first | decide | walk_at "om") ?_ | refine op_len_str (by first | decide | walk_at "om") ?_ | refine op_cat (by first | decide | walk_at "om") ?_ | refine truth_bool ?_ | refine tst_cmp (by kernel_rfl) ?_ | refine ev_cmp (by kernel_rfl) ?_ | refine tst_not ?_ | fail "none") | ((with_reducible show EvL _ _ _ _ (_ :: _) _); refine evl_cons ?_) | ((with_reducible show Ev _ _ _ (.Call (.Attribute _ _ _) _ [] _) _); refine ev_meth ?_) | fail "none")))
  rw [if_neg (by simp; omega)]
  refine exs_cons (ex_if (tst_bool (all_and_cons ?_)))
  (repeat' ((first | (with_reducible first | refine ev_bin ?_ | refine ev_int ?_ | refine ev_str ?_ | refine ev_bool ?_ | refine ev_none ?_ | walk_at "name" | walk_at "fn" | refine ev_sub ?_ | refine ev_slice ?_ | refine evo_none ?_ | refine evo_some ?_ | refine ev_tuple ?_ | refine ev_list ?_ | refine evl_nil ?_ | refine op_add ?_ | refine op_sub ?_ | refine op_lt ?_ | refine op_gt ?_ | refine op_le ?_ | refine op_eq ?_ | refine op_ne ?_ | refine op_eq_str ?_ | refine op_ne_str ?_ | refine op_max ?_ | refine op_min ?_ | refine op_abs ?_ | refine op_mod (by first | decide | walk_at "om") ?_ | refine op_div (by first | decide | walk_at "om") (by first | decide | walk_at "om") ?_ | refine op_len_str (by first | decide | walk_at "om") ?_ | refine op_cat (by first | decide | walk_at "om") ?_ | refine truth_bool ?_ | refine tst_cmp (by kernel_rfl) ?_ | refine ev_cmp (by kernel_rfl) ?_ | refine tst_not ?_ | fail "none") | ((with_reducible show EvL _ _ _ _ (_ :: _) _); refine evl_cons ?_) | ((with_reducible show Ev _ _ _ (.Call (.Attribute _ _ _) _ [] _) _); refine ev_meth ?_) | fail "none")))
  rw [if_neg (by simp; omega)]
  rw [if_neg (by simp)]
  refine exs_cons (ex_if ?_)
  (repeat' ((first | (with_reducible first | refine ev_bin ?_ | refine ev_int ?_ | refine ev_str ?_ | refine ev_bool ?_ | refine ev_none ?_ | walk_at "name" | walk_at "fn" | refine ev_sub ?_ | refine ev_slice ?_ | refine evo_none ?_ | refine evo_some ?_ | refine ev_tuple ?_ | refine ev_list ?_ | refine evl_nil ?_ | refine op_add ?_ | refine op_sub ?_ | refine op_lt ?_ | refine op_gt ?_ | refine op_le ?_ | refine op_eq ?_ | refine op_ne ?_ | refine op_eq_str ?_ | refine op_ne_str ?_ | refine op_max ?_ | refine op_min ?_ | refine op_abs ?_ | refine op_mod (by first | decide | walk_at "om") ?_ | refine op_div (by first | decide | walk_at "om") (by first | decide | walk_at "om") ?_ | refine op_len_str (by first | decide | walk_at "om") ?_ | refine op_cat (by first | decide | walk_at "om") ?_ | refine truth_bool ?_ | refine tst_cmp (by kernel_rfl) ?_ | refine ev_cmp (by kernel_rfl) ?_ | refine tst_not ?_ | fail "none") | ((with_reducible show EvL _ _ _ _ (_ :: _) _); refine evl_cons ?_) | ((with_reducible show Ev _ _ _ (.Call (.Attribute _ _ _) _ [] _) _); refine ev_meth ?_) | fail "none")))
  rw [if_neg (by simp; omega)]
  refine exs_cons (ex_if ?_)
  (repeat' ((first | (with_reducible first | refine ev_bin ?_ | refine ev_int ?_ | refine ev_str ?_ | refine ev_bool ?_ | refine ev_none ?_ | walk_at "name" | walk_at "fn" | refine ev_sub ?_ | refine ev_slice ?_ | refine evo_none ?_ | refine evo_some ?_ | refine ev_tuple ?_ | refine ev_list ?_ | refine evl_nil ?_ | refine op_add ?_ | refine op_sub ?_ | refine op_lt ?_ | refine op_gt ?_ | refine op_le ?_ | refine op_eq ?_ | refine op_ne ?_ | refine op_eq_str ?_ | refine op_ne_str ?_ | refine op_max ?_ | refine op_min ?_ | refine op_abs ?_ | refine op_mod (by first | decide | walk_at "om") ?_ | refine op_div (by first | decide | walk_at "om") (by first | decide | walk_at "om") ?_ | refine op_len_str (by first | decide | walk_at "om") ?_ | refine op_cat (by first | decide | walk_at "om") ?_ | refine truth_bool ?_ | refine tst_cmp (by kernel_rfl) ?_ | refine ev_cmp (by kernel_rfl) ?_ | refine tst_not ?_ | fail "none") | ((with_reducible show EvL _ _ _ _ (_ :: _) _); refine evl_cons ?_) | ((with_reducible show Ev _ _ _ (.Call (.Attribute _ _ _) _ [] _) _); refine ev_meth ?_) | fail "none")))
  rw [if_neg (by simp; omega)]
  ((refine exs_cons ?_; first | (refine ex_assignS ?hs ?_; (case hs => exact swaps_plain (by rfl))) | refine ex_expr (by kernel_rfl) (by rfl) ?_ | refine ex_if ?_ | refine ex_return ?_ | fail "none"))
  (repeat' ((first | (with_reducible first | refine ev_bin ?_ | refine ev_int ?_ | refine ev_str ?_ | refine ev_bool ?_ | refine ev_none ?_ | walk_at "name" | walk_at "fn" | refine ev_sub ?_ | refine ev_slice ?_ | refine evo_none ?_ | refine evo_some ?_ | refine ev_tuple ?_ | refine ev_list ?_ | refine evl_nil ?_ | refine op_add ?_ | refine op_sub ?_ | refine op_lt ?_ | refine op_gt ?_ | refine op_le ?_ | refine op_eq ?_ | refine op_ne ?_ | refine op_eq_str ?_ | refine op_ne_str ?_ | refine op_max ?_ | refine op_min ?_ | refine op_abs ?_ | refine op_mod (by first | decide | walk_at "om") ?_ | refine op_div (by first | decide | walk_at "om") (by first | decide | walk_at "om") ?_ | refine op_len_str (by first | decide | walk_at "om") ?_ | refine op_cat (by first | decide | walk_at "om") ?_ | refine truth_bool ?_ | refine tst_cmp (by kernel_rfl) ?_ | refine ev_cmp (by kernel_rfl) ?_ | refine tst_not ?_ | fail "none") | ((with_reducible show EvL _ _ _ _ (_ :: _) _); refine evl_cons ?_) | ((with_reducible show Ev _ _ _ (.Call (.Attribute _ _ _) _ [] _) _); refine ev_meth ?_) | fail "none")))
  refine ⟨_, _, by ((refine StoreTo.loc (by kernel_rfl) (by (repeat (first | with_reducible exact SetL.here | with_reducible exact SetL.new | (with_reducible apply SetL.there; (focus (dsimp only; decide)))))))), ?_⟩
  exact exs_nil (exs_nil (exs_nil (exs_nil (tail08 hg.up (by omega)))))

open PySem PySem.W PySem.Builtin PySem.Builtin.ObjectAttr
open PyProof.Rows hiding wpAt wpAt_bind
set_option linter.unusedSectionVars false
set_option maxRecDepth 100000
set_option maxHeartbeats 1000000
set_option linter.unusedVariables false
variable {P : PySem.Params} {w : World} {L fa : Addr} {loc : Loc} {own own' own'' : Own} {QQ : QF}
variable {sc0 x d rl fd : Addr} {sz v m dd : Int} {row : List (Str × Str)} {pc : Str × Str} {rest : Own}
theorem anyD (row : List (Str × Str)) : (row.map (·.2)).any (· == ("d" : Str)) = decide (("d" : Str) ∈ row.map (·.2)) := by
  rw [Bool.eq_iff_iff]
  simp only [List.any_eq_true, beq_iff_eq, decide_eq_true_eq]
  exact ⟨fun ⟨y, h, e⟩ => e ▸ h, fun h => ⟨_, h, rfl⟩⟩
theorem dueKey {j : Nat} (hg : Good08 j sz row) (hj : j ≤ 40) (hd : ("d" : Str) ∈ row.map (·.2)) :
    Exs (lf08 w P L fa) (locT08 sc0 x rl sz v m 2 pc "key" []) (own08 w L x d rl fd sz row row rest) ((B08 P).drop 4) (Post08 (j + 1) w L sc0 x d fd rest) := by
  have hrl := hg.rl
  ((refine exs_cons ?_; first | (refine ex_assignS ?hs ?_; (case hs => exact swaps_plain (by rfl))) | refine ex_expr (by kernel_rfl) (by rfl) ?_ | refine ex_if ?_ | refine ex_return ?_ | fail "none"))
  (repeat' ((first | (with_reducible first | refine ev_bin ?_ | refine ev_int ?_ | refine ev_str ?_ | refine ev_bool ?_ | refine ev_none ?_ | walk_at "name" | walk_at "fn" | refine ev_sub ?_ | refine ev_slice ?_ | refine evo_none ?_ | refine evo_some ?_ | refine ev_tuple ?_ | refine ev_list ?_ | refine evl_nil ?_ | refine op_add ?_ | refine op_sub ?_ | refine op_lt ?_ | refine op_gt ?_ | refine op_le ?_ | refine op_eq ?_ | refine op_ne ?_ | refine op_eq_str ?_ | refine op_ne_str ?_ | refine op_max ?_ | refine op_min ?_ | refine op_abs ?_ | refine op_mod (by first | decide | walk_at "om") ?_ | refine op_div (by first | decide | walk_at "om") (by first | decide | walk_at "om") ?_ | refine op_len_str (by first | decide | walk_at "om") ?_ | refine op_cat (by first | decide | walk_at "om") ?_ | refine truth_bool ?_ | refine tst_cmp (by kernel_rfl) ?_ | refine ev_cmp (by kernel_rfl) ?_ | refine tst_not ?_ | fail "none") | ((with_reducible show EvL _ _ _ _ (_ :: _) _); refine evl_cons ?_) | ((with_reducible show Ev _ _ _ (.Call (.Attribute _ _ _) _ [] _) _); refine ev_meth ?_) | fail "none")))
  refine ⟨_, _, by ((refine StoreTo.loc (by kernel_rfl) (by (repeat (first | with_reducible exact SetL.here | with_reducible exact SetL.new | (with_reducible apply SetL.there; (focus (dsimp only; decide)))))))), ?_⟩
  refine exs_cons (ex_if ?_)
  (repeat' ((first | (with_reducible first | refine ev_bin ?_ | refine ev_int ?_ | refine ev_str ?_ | refine ev_bool ?_ | refine ev_none ?_ | walk_at "name" | walk_at "fn" | refine ev_sub ?_ | refine ev_slice ?_ | refine evo_none ?_ | refine evo_some ?_ | refine ev_tuple ?_ | refine ev_list ?_ | refine evl_nil ?_ | refine op_add ?_ | refine op_sub ?_ | refine op_lt ?_ | refine op_gt ?_ | refine op_le ?_ | refine op_eq ?_ | refine op_ne ?_ | refine op_eq_str ?_ | refine op_ne_str ?_ | refine op_max ?_ | refine op_min ?_ | refine op_abs ?_ | refine op_mod (by first | decide | walk_at "om") ?_ | refine op_div (by first | decide | walk_at "om") (by first | decide | walk_at "om") ?_ | refine op_len_str (by first | decide | walk_at "om") ?_ | refine op_cat (by first | decide | walk_at "om") ?_ | refine truth_bool ?_ | refine tst_cmp (by kernel_rfl) ?_ | refine ev_cmp (by kernel_rfl) ?_ | refine tst_not ?_ | fail "none") | ((with_reducible show EvL _ _ _ _ (_ :: _) _); refine evl_cons ?_) | ((with_reducible show Ev _ _ _ (.Call (.Attribute _ _ _) _ [] _) _); refine ev_meth ?_) | fail "none")))
  rw [if_neg (by decide)]
  refine exs_cons (ex_if (tst_bool (all_and_cons ?_)))
  (repeat' ((first | (with_reducible first | refine ev_bin ?_ | refine ev_int ?_ | refine ev_str ?_ | refine ev_bool ?_ | refine ev_none ?_ | walk_at "name" | walk_at "fn" | refine ev_sub ?_ | refine ev_slice ?_ | refine evo_none ?_ | refine evo_some ?_ | refine ev_tuple ?_ | refine ev_list ?_ | refine evl_nil ?_ | refine op_add ?_ | refine op_sub ?_ | refine op_lt ?_ | refine op_gt ?_ | refine op_le ?_ | refine op_eq ?_ | refine op_ne ?_ | refine op_eq_str ?_ | refine op_ne_str ?_ | refine op_max ?_ | refine op_min ?_ | refine op_abs ?_ | refine op_mod (by first | decide | walk_at "om") ?_ | refine op_div (by first | decide | walk_at "om") (by first | decide | walk_at "om") ?_ | refine op_len_str (by first | decide | walk_at "om") ?_ | refine op_cat (by first | decide | walk_at "om") ?_ | refine truth_bool ?_ | refine tst_cmp (by kernel_rfl) ?_ | refine ev_cmp (by kernel_rfl) ?_ | refine tst_not ?_ | fail "none") | ((with_reducible show EvL _ _ _ _ (_ :: _) _); refine evl_cons ?_) | ((with_reducible show Ev _ _ _ (.Call (.Attribute _ _ _) _ [] _) _); refine ev_meth ?_) | fail "none")))
  rw [if_pos (by decide)]
  refine all_and_cons ?_
  (repeat' ((first | (with_reducible first | refine ev_bin ?_ | refine ev_int ?_ | refine ev_str ?_ | refine ev_bool ?_ | refine ev_none ?_ | walk_at "name" | walk_at "fn" | refine ev_sub ?_ | refine ev_slice ?_ | refine evo_none ?_ | refine evo_some ?_ | refine ev_tuple ?_ | refine ev_list ?_ | refine evl_nil ?_ | refine op_add ?_ | refine op_sub ?_ | refine op_lt ?_ | refine op_gt ?_ | refine op_le ?_ | refine op_eq ?_ | refine op_ne ?_ | refine op_eq_str ?_ | refine op_ne_str ?_ | refine op_max ?_ | refine op_min ?_ | refine op_abs ?_ | refine op_mod (by first | decide | walk_at "om") ?_ | refine op_div (by first | decide | walk_at "om") (by first | decide | walk_at "om") ?_ | refine op_len_str (by first | decide | walk_at "om") ?_ | refine op_cat (by first | decide | walk_at "om") ?_ | refine truth_bool ?_ | refine tst_cmp (by kernel_rfl) ?_ | refine ev_cmp (by kernel_rfl) ?_ | refine tst_not ?_ | fail "none") | ((with_reducible show EvL _ _ _ _ (_ :: _) _); refine evl_cons ?_) | ((with_reducible show Ev _ _ _ (.Call (.Attribute _ _ _) _ [] _) _); refine ev_meth ?_) | fail "none")))
  refine ev_comp [] rfl ⟨rfl, rfl, by decide, by decide, fun _ => rfl⟩ (it_list ?_)
  walk_at "name"
  refine ⟨rl, row.map dpair, rfl, by walk_at "has", ?_⟩
  refine comp_pure (fun p => some (.str p.2)) (by walk_at "has") (by omega) (fun C ac p res hp => ?_) ?_
  · intro _
    refine as_tuple (by kernel_rfl) rfl (as_name (by kernel_rfl) .new (as_name (by kernel_rfl) (by (repeat (first | with_reducible exact SetL.here | with_reducible exact SetL.new | (with_reducible apply SetL.there; (focus (dsimp only; decide)))))) ?_))
    show Ev _ _ _ _ _
    (repeat' ((first | (with_reducible first | refine ev_bin ?_ | refine ev_int ?_ | refine ev_str ?_ | refine ev_bool ?_ | refine ev_none ?_ | walk_at "name" | walk_at "fn" | refine ev_sub ?_ | refine ev_slice ?_ | refine evo_none ?_ | refine evo_some ?_ | refine ev_tuple ?_ | refine ev_list ?_ | refine evl_nil ?_ | refine op_add ?_ | refine op_sub ?_ | refine op_lt ?_ | refine op_gt ?_ | refine op_le ?_ | refine op_eq ?_ | refine op_ne ?_ | refine op_eq_str ?_ | refine op_ne_str ?_ | refine op_max ?_ | refine op_min ?_ | refine op_abs ?_ | refine op_mod (by first | decide | walk_at "om") ?_ | refine op_div (by first | decide | walk_at "om") (by first | decide | walk_at "om") ?_ | refine op_len_str (by first | decide | walk_at "om") ?_ | refine op_cat (by first | decide | walk_at "om") ?_ | refine truth_bool ?_ | refine tst_cmp (by kernel_rfl) ?_ | refine ev_cmp (by kernel_rfl) ?_ | refine tst_not ?_ | fail "none") | ((with_reducible show EvL _ _ _ _ (_ :: _) _); refine evl_cons ?_) | ((with_reducible show Ev _ _ _ (.Call (.Attribute _ _ _) _ [] _) _); refine ev_meth ?_) | fail "none")))
    exact ⟨rfl, List.Sublist.refl _⟩
  intro b
  rw [show (row.filterMap fun p => some (Dv.str p.2)) = (row.map (·.2)).map Dv.str by rw [List.filterMap_eq_map', List.map_map]; rfl]
  refine op_in_strs .here (truth_bool ?_)
  rw [anyD, decide_eq_true hd, if_pos rfl]
  refine all_and_nil ?_
  rw [if_pos rfl]
  ((refine exs_cons ?_; first | (refine ex_assignS ?hs ?_; (case hs => exact swaps_plain (by rfl))) | refine ex_expr (by kernel_rfl) (by rfl) ?_ | refine ex_if ?_ | refine ex_return ?_ | fail "none"))
  (repeat' ((first | (with_reducible first | refine ev_bin ?_ | refine ev_int ?_ | refine ev_str ?_ | refine ev_bool ?_ | refine ev_none ?_ | walk_at "name" | walk_at "fn" | refine ev_sub ?_ | refine ev_slice ?_ | refine evo_none ?_ | refine evo_some ?_ | refine ev_tuple ?_ | refine ev_list ?_ | refine evl_nil ?_ | refine op_add ?_ | refine op_sub ?_ | refine op_lt ?_ | refine op_gt ?_ | refine op_le ?_ | refine op_eq ?_ | refine op_ne ?_ | refine op_eq_str ?_ | refine op_ne_str ?_ | refine op_max ?_ | refine op_min ?_ | refine op_abs ?_ | refine op_mod (by first | decide | walk_at "om") ?_ | refine op_div (by first | decide | walk_at "om") (by first | decide | walk_at "om") ?_ | refine op_len_str (by first | decide | walk_at "om") ?_ | refine op_cat (by first | decide | walk_at "om") ?_ | refine truth_bool ?_ | refine tst_cmp (by kernel_rfl) ?_ | refine ev_cmp (by kernel_rfl) ?_ | refine tst_not ?_ | fail "none") | ((with_reducible show EvL _ _ _ _ (_ :: _) _); refine evl_cons ?_) | ((with_reducible show Ev _ _ _ (.Call (.Attribute _ _ _) _ [] _) _); refine ev_meth ?_) | fail "none")))
  refine ⟨_, _, by ((refine StoreTo.loc (by kernel_rfl) (by (repeat (first | with_reducible exact SetL.here | with_reducible exact SetL.new | (with_reducible apply SetL.there; (focus (dsimp only; decide)))))))), ?_⟩
  exact exs_nil (exs_nil (exs_pk (List.Sublist.refl _) (.of_sub (.cons _ (List.Sublist.refl _))) (tail08 hg.up (by omega))))
theorem dueNext {j : Nat} (hg : Good08 j sz row) (hj : j ≤ 40) (hd : ("d" : Str) ∉ row.map (·.2)) :
    Exs (lf08 w P L fa) (locT08 sc0 x rl sz v m 2 pc "" []) (own08 w L x d rl fd 0 (next08 row) row rest) ((B08 P).drop 4) (Post08 (j + 1) w L sc0 x d fd rest) := by
  have hrl := hg.rl
  ((refine exs_cons ?_; first | (refine ex_assignS ?hs ?_; (case hs => exact swaps_plain (by rfl))) | refine ex_expr (by kernel_rfl) (by rfl) ?_ | refine ex_if ?_ | refine ex_return ?_ | fail "none"))
  (repeat' ((first | (with_reducible first | refine ev_bin ?_ | refine ev_int ?_ | refine ev_str ?_ | refine ev_bool ?_ | refine ev_none ?_ | walk_at "name" | walk_at "fn" | refine ev_sub ?_ | refine ev_slice ?_ | refine evo_none ?_ | refine evo_some ?_ | refine ev_tuple ?_ | refine ev_list ?_ | refine evl_nil ?_ | refine op_add ?_ | refine op_sub ?_ | refine op_lt ?_ | refine op_gt ?_ | refine op_le ?_ | refine op_eq ?_ | refine op_ne ?_ | refine op_eq_str ?_ | refine op_ne_str ?_ | refine op_max ?_ | refine op_min ?_ | refine op_abs ?_ | refine op_mod (by first | decide | walk_at "om") ?_ | refine op_div (by first | decide | walk_at "om") (by first | decide | walk_at "om") ?_ | refine op_len_str (by first | decide | walk_at "om") ?_ | refine op_cat (by first | decide | walk_at "om") ?_ | refine truth_bool ?_ | refine tst_cmp (by kernel_rfl) ?_ | refine ev_cmp (by kernel_rfl) ?_ | refine tst_not ?_ | fail "none") | ((with_reducible show EvL _ _ _ _ (_ :: _) _); refine evl_cons ?_) | ((with_reducible show Ev _ _ _ (.Call (.Attribute _ _ _) _ [] _) _); refine ev_meth ?_) | fail "none")))
  refine ⟨_, _, by ((refine StoreTo.loc (by kernel_rfl) (by (repeat (first | with_reducible exact SetL.here | with_reducible exact SetL.new | (with_reducible apply SetL.there; (focus (dsimp only; decide)))))))), ?_⟩
  refine exs_cons (ex_if ?_)
  (repeat' ((first | (with_reducible first | refine ev_bin ?_ | refine ev_int ?_ | refine ev_str ?_ | refine ev_bool ?_ | refine ev_none ?_ | walk_at "name" | walk_at "fn" | refine ev_sub ?_ | refine ev_slice ?_ | refine evo_none ?_ | refine evo_some ?_ | refine ev_tuple ?_ | refine ev_list ?_ | refine evl_nil ?_ | refine op_add ?_ | refine op_sub ?_ | refine op_lt ?_ | refine op_gt ?_ | refine op_le ?_ | refine op_eq ?_ | refine op_ne ?_ | refine op_eq_str ?_ | refine op_ne_str ?_ | refine op_max ?_ | refine op_min ?_ | refine op_abs ?_ | refine op_mod (by first | decide | walk_at "om") ?_ | refine op_div (by first | decide | walk_at "om") (by first | decide | walk_at "om") ?_ | refine op_len_str (by first | decide | walk_at "om") ?_ | refine op_cat (by first | decide | walk_at "om") ?_ | refine truth_bool ?_ | refine tst_cmp (by kernel_rfl) ?_ | refine ev_cmp (by kernel_rfl) ?_ | refine tst_not ?_ | fail "none") | ((with_reducible show EvL _ _ _ _ (_ :: _) _); refine evl_cons ?_) | ((with_reducible show Ev _ _ _ (.Call (.Attribute _ _ _) _ [] _) _); refine ev_meth ?_) | fail "none")))
  rw [if_neg (by decide)]
  refine exs_cons (ex_if (tst_bool (all_and_cons ?_)))
  (repeat' ((first | (with_reducible first | refine ev_bin ?_ | refine ev_int ?_ | refine ev_str ?_ | refine ev_bool ?_ | refine ev_none ?_ | walk_at "name" | walk_at "fn" | refine ev_sub ?_ | refine ev_slice ?_ | refine evo_none ?_ | refine evo_some ?_ | refine ev_tuple ?_ | refine ev_list ?_ | refine evl_nil ?_ | refine op_add ?_ | refine op_sub ?_ | refine op_lt ?_ | refine op_gt ?_ | refine op_le ?_ | refine op_eq ?_ | refine op_ne ?_ | refine op_eq_str ?_ | refine op_ne_str ?_ | refine op_max ?_ | refine op_min ?_ | refine op_abs ?_ | refine op_mod (by first | decide | walk_at "om") ?_ | refine op_div (by first | decide | walk_at "om") (by first | decide | walk_at "om") ?_ | refine op_len_str (by first | decide | walk_at "om") ?_ | refine op_cat (by first | decide | walk_at "om") ?_ | refine truth_bool ?_ | refine tst_cmp (by kernel_rfl) ?_ | refine ev_cmp (by kernel_rfl) ?_ | refine tst_not ?_ | fail "none") | ((with_reducible show EvL _ _ _ _ (_ :: _) _); refine evl_cons ?_) | ((with_reducible show Ev _ _ _ (.Call (.Attribute _ _ _) _ [] _) _); refine ev_meth ?_) | fail "none")))
  rw [if_pos (by decide)]
  refine all_and_cons ?_
  (repeat' ((first | (with_reducible first | refine ev_bin ?_ | refine ev_int ?_ | refine ev_str ?_ | refine ev_bool ?_ | refine ev_none ?_ | walk_at "name" | walk_at "fn" | refine ev_sub ?_ | refine ev_slice ?_ | refine evo_none ?_ | refine evo_some ?_ | refine ev_tuple ?_ | refine ev_list ?_ | refine evl_nil ?_ | refine op_add ?_ | refine op_sub ?_ | refine op_lt ?_ | refine op_gt ?_ | refine op_le ?_ | refine op_eq ?_ | refine op_ne ?_ | refine op_eq_str ?_ | refine op_ne_str ?_ | refine op_max ?_ | refine op_min ?_ | refine op_abs ?_ | refine op_mod (by first | decide | walk_at "om") ?_ | refine op_div (by first | decide | walk_at "om") (by first | decide | walk_at "om") ?_ | refine op_len_str (by first | decide | walk_at "om") ?_ | refine op_cat (by first | decide | walk_at "om") ?_ | refine truth_bool ?_ | refine tst_cmp (by kernel_rfl) ?_ | refine ev_cmp (by kernel_rfl) ?_ | refine tst_not ?_ | fail "none") | ((with_reducible show EvL _ _ _ _ (_ :: _) _); refine evl_cons ?_) | ((with_reducible show Ev _ _ _ (.Call (.Attribute _ _ _) _ [] _) _); refine ev_meth ?_) | fail "none")))
  refine ev_comp [] rfl ⟨rfl, rfl, by decide, by decide, fun _ => rfl⟩ (it_list ?_)
  walk_at "name"
  refine ⟨rl, row.map dpair, rfl, by walk_at "has", ?_⟩
  refine comp_pure (fun p => some (.str p.2)) (by walk_at "has") (by omega) (fun C ac p res hp => ?_) ?_
  · intro _
    refine as_tuple (by kernel_rfl) rfl (as_name (by kernel_rfl) .new (as_name (by kernel_rfl) (by (repeat (first | with_reducible exact SetL.here | with_reducible exact SetL.new | (with_reducible apply SetL.there; (focus (dsimp only; decide)))))) ?_))
    show Ev _ _ _ _ _
    (repeat' ((first | (with_reducible first | refine ev_bin ?_ | refine ev_int ?_ | refine ev_str ?_ | refine ev_bool ?_ | refine ev_none ?_ | walk_at "name" | walk_at "fn" | refine ev_sub ?_ | refine ev_slice ?_ | refine evo_none ?_ | refine evo_some ?_ | refine ev_tuple ?_ | refine ev_list ?_ | refine evl_nil ?_ | refine op_add ?_ | refine op_sub ?_ | refine op_lt ?_ | refine op_gt ?_ | refine op_le ?_ | refine op_eq ?_ | refine op_ne ?_ | refine op_eq_str ?_ | refine op_ne_str ?_ | refine op_max ?_ | refine op_min ?_ | refine op_abs ?_ | refine op_mod (by first | decide | walk_at "om") ?_ | refine op_div (by first | decide | walk_at "om") (by first | decide | walk_at "om") ?_ | refine op_len_str (by first | decide | walk_at "om") ?_ | refine op_cat (by first | decide | walk_at "om") ?_ | refine truth_bool ?_ | refine tst_cmp (by kernel_rfl) ?_ | refine ev_cmp (by kernel_rfl) ?_ | refine tst_not ?_ | fail "none") | ((with_reducible show EvL _ _ _ _ (_ :: _) _); refine evl_cons ?_) | ((with_reducible show Ev _ _ _ (.Call (.Attribute _ _ _) _ [] _) _); refine ev_meth ?_) | fail "none")))
    exact ⟨rfl, List.Sublist.refl _⟩
  intro b
  rw [show (row.filterMap fun p => some (Dv.str p.2)) = (row.map (·.2)).map Dv.str by rw [List.filterMap_eq_map', List.map_map]; rfl]
  refine op_in_strs .here (truth_bool ?_)
  rw [anyD, decide_eq_false hd, if_neg (by simp)]
  rw [if_neg (by simp)]
  refine exs_cons (ex_if ?_)
  (repeat' ((first | (with_reducible first | refine ev_bin ?_ | refine ev_int ?_ | refine ev_str ?_ | refine ev_bool ?_ | refine ev_none ?_ | walk_at "name" | walk_at "fn" | refine ev_sub ?_ | refine ev_slice ?_ | refine evo_none ?_ | refine evo_some ?_ | refine ev_tuple ?_ | refine ev_list ?_ | refine evl_nil ?_ | refine op_add ?_ | refine op_sub ?_ | refine op_lt ?_ | refine op_gt ?_ | refine op_le ?_ | refine op_eq ?_ | refine op_ne ?_ | refine op_eq_str ?_ | refine op_ne_str ?_ | refine op_max ?_ | refine op_min ?_ | refine op_abs ?_ | refine op_mod (by first | decide | walk_at "om") ?_ | refine op_div (by first | decide | walk_at "om") (by first | decide | walk_at "om") ?_ | refine op_len_str (by first | decide | walk_at "om") ?_ | refine op_cat (by first | decide | walk_at "om") ?_ | refine truth_bool ?_ | refine tst_cmp (by kernel_rfl) ?_ | refine ev_cmp (by kernel_rfl) ?_ | refine tst_not ?_ | fail "none") | ((with_reducible show EvL _ _ _ _ (_ :: _) _); refine evl_cons ?_) | ((with_reducible show Ev _ _ _ (.Call (.Attribute _ _ _) _ [] _) _); refine ev_meth ?_) | fail "none")))
  rw [if_pos (by decide)]
  refine exs_cons (ex_assign_compS [] rfl ⟨rfl, rfl, by decide, by decide, fun _ => rfl⟩ (by rfl) (it_list ?_))
  walk_at "name"
  refine ⟨rl, row.map dpair, rfl, by walk_at "has", ?_⟩
  refine comp_pure (fun p => some (dpair (p.1 ++ " ", (folD p.2).getD ""))) (by walk_at "has") (by omega) (fun C ac p res hp => ?_) ?_
  · intro _
    have hf := hg.pc p hp
    have hn : p.2 ≠ ("d" : Str) := fun z => hd (z ▸ List.mem_map_of_mem hp)
    obtain ⟨y, hy⟩ : ∃ y, folD p.2 = some y := by
      cases hq : folD p.2 with
      | none => exact absurd ((folD_none hf.2).mp hq) hn
      | some y => exact ⟨y, rfl⟩
    obtain ⟨i, r, ho, hi3, hyi⟩ := abc_at hf.2 hy
    refine as_tuple (by kernel_rfl) rfl (as_name (by kernel_rfl) .new (as_name (by kernel_rfl) (by (repeat (first | with_reducible exact SetL.here | with_reducible exact SetL.new | (with_reducible apply SetL.there; (focus (dsimp only; decide)))))) ?_))
    show Ev _ _ _ _ _
    (repeat' ((first | (with_reducible first | refine ev_bin ?_ | refine ev_int ?_ | refine ev_str ?_ | refine ev_bool ?_ | refine ev_none ?_ | walk_at "name" | walk_at "fn" | refine ev_sub ?_ | refine ev_slice ?_ | refine evo_none ?_ | refine evo_some ?_ | refine ev_tuple ?_ | refine ev_list ?_ | refine evl_nil ?_ | refine op_add ?_ | refine op_sub ?_ | refine op_lt ?_ | refine op_gt ?_ | refine op_le ?_ | refine op_eq ?_ | refine op_ne ?_ | refine op_eq_str ?_ | refine op_ne_str ?_ | refine op_max ?_ | refine op_min ?_ | refine op_abs ?_ | refine op_mod (by first | decide | walk_at "om") ?_ | refine op_div (by first | decide | walk_at "om") (by first | decide | walk_at "om") ?_ | refine op_len_str (by first | decide | walk_at "om") ?_ | refine op_cat (by first | decide | walk_at "om") ?_ | refine truth_bool ?_ | refine tst_cmp (by kernel_rfl) ?_ | refine ev_cmp (by kernel_rfl) ?_ | refine tst_not ?_ | fail "none") | ((with_reducible show EvL _ _ _ _ (_ :: _) _); refine evl_cons ?_) | ((with_reducible show Ev _ _ _ (.Call (.Attribute _ _ _) _ [] _) _); refine ev_meth ?_) | fail "none")))
    refine op_cat (by have := hf.1; rw [show (Str.ofString " ").length = 1 from rfl]; omega) ?_
    (repeat' ((first | (with_reducible first | refine ev_bin ?_ | refine ev_int ?_ | refine ev_str ?_ | refine ev_bool ?_ | refine ev_none ?_ | walk_at "name" | walk_at "fn" | refine ev_sub ?_ | refine ev_slice ?_ | refine evo_none ?_ | refine evo_some ?_ | refine ev_tuple ?_ | refine ev_list ?_ | refine evl_nil ?_ | refine op_add ?_ | refine op_sub ?_ | refine op_lt ?_ | refine op_gt ?_ | refine op_le ?_ | refine op_eq ?_ | refine op_ne ?_ | refine op_eq_str ?_ | refine op_ne_str ?_ | refine op_max ?_ | refine op_min ?_ | refine op_abs ?_ | refine op_mod (by first | decide | walk_at "om") ?_ | refine op_div (by first | decide | walk_at "om") (by first | decide | walk_at "om") ?_ | refine op_len_str (by first | decide | walk_at "om") ?_ | refine op_cat (by first | decide | walk_at "om") ?_ | refine truth_bool ?_ | refine tst_cmp (by kernel_rfl) ?_ | refine ev_cmp (by kernel_rfl) ?_ | refine tst_not ?_ | fail "none") | ((with_reducible show EvL _ _ _ _ (_ :: _) _); refine evl_cons ?_) | ((with_reducible show Ev _ _ _ (.Call (.Attribute _ _ _) _ [] _) _); refine ev_meth ?_) | fail "none")))
    refine meth_str (i := "str.index") gm_index (by kernel_rfl) ?_
    (repeat' ((first | (with_reducible first | refine ev_bin ?_ | refine ev_int ?_ | refine ev_str ?_ | refine ev_bool ?_ | refine ev_none ?_ | walk_at "name" | walk_at "fn" | refine ev_sub ?_ | refine ev_slice ?_ | refine evo_none ?_ | refine evo_some ?_ | refine ev_tuple ?_ | refine ev_list ?_ | refine evl_nil ?_ | refine op_add ?_ | refine op_sub ?_ | refine op_lt ?_ | refine op_gt ?_ | refine op_le ?_ | refine op_eq ?_ | refine op_ne ?_ | refine op_eq_str ?_ | refine op_ne_str ?_ | refine op_max ?_ | refine op_min ?_ | refine op_abs ?_ | refine op_mod (by first | decide | walk_at "om") ?_ | refine op_div (by first | decide | walk_at "om") (by first | decide | walk_at "om") ?_ | refine op_len_str (by first | decide | walk_at "om") ?_ | refine op_cat (by first | decide | walk_at "om") ?_ | refine truth_bool ?_ | refine tst_cmp (by kernel_rfl) ?_ | refine ev_cmp (by kernel_rfl) ?_ | refine tst_not ?_ | fail "none") | ((with_reducible show EvL _ _ _ _ (_ :: _) _); refine evl_cons ?_) | ((with_reducible show Ev _ _ _ (.Call (.Attribute _ _ _) _ [] _) _); refine ev_meth ?_) | fail "none")))
    refine op_index ho ?_
    refine sub_str (by kernel_rfl) (fun _ _ => rfl) (by show -(3 : Int) ≤ _; omega) (by show _ < (3 : Int); omega) (by decide) ?_
    rw [hyi]
    refine evl_nil ⟨by simp, ?_, List.Sublist.refl _⟩
    rw [hy]; rfl
  intro b2
  rw [show (row.filterMap fun p => some (dpair (p.1 ++ " ", (folD p.2).getD ""))) = (next08 row).map dpair by rw [List.filterMap_eq_map', next08, List.map_map]; rfl]
  refine ⟨_, _, by ((refine StoreTo.loc (by kernel_rfl) (by (repeat (first | with_reducible exact SetL.here | with_reducible exact SetL.new | (with_reducible apply SetL.there; (focus (dsimp only; decide)))))))), ?_⟩
  ((refine exs_cons ?_; first | (refine ex_assignS ?hs ?_; (case hs => exact swaps_plain (by rfl))) | refine ex_expr (by kernel_rfl) (by rfl) ?_ | refine ex_if ?_ | refine ex_return ?_ | fail "none"))
  (repeat' ((first | (with_reducible first | refine ev_bin ?_ | refine ev_int ?_ | refine ev_str ?_ | refine ev_bool ?_ | refine ev_none ?_ | walk_at "name" | walk_at "fn" | refine ev_sub ?_ | refine ev_slice ?_ | refine evo_none ?_ | refine evo_some ?_ | refine ev_tuple ?_ | refine ev_list ?_ | refine evl_nil ?_ | refine op_add ?_ | refine op_sub ?_ | refine op_lt ?_ | refine op_gt ?_ | refine op_le ?_ | refine op_eq ?_ | refine op_ne ?_ | refine op_eq_str ?_ | refine op_ne_str ?_ | refine op_max ?_ | refine op_min ?_ | refine op_abs ?_ | refine op_mod (by first | decide | walk_at "om") ?_ | refine op_div (by first | decide | walk_at "om") (by first | decide | walk_at "om") ?_ | refine op_len_str (by first | decide | walk_at "om") ?_ | refine op_cat (by first | decide | walk_at "om") ?_ | refine truth_bool ?_ | refine tst_cmp (by kernel_rfl) ?_ | refine ev_cmp (by kernel_rfl) ?_ | refine tst_not ?_ | fail "none") | ((with_reducible show EvL _ _ _ _ (_ :: _) _); refine evl_cons ?_) | ((with_reducible show Ev _ _ _ (.Call (.Attribute _ _ _) _ [] _) _); refine ev_meth ?_) | fail "none")))
  refine ⟨_, _, by ((refine StoreTo.loc (by kernel_rfl) (by (repeat (first | with_reducible exact SetL.here | with_reducible exact SetL.new | (with_reducible apply SetL.there; (focus (dsimp only; decide)))))))), ?_⟩
  refine exs_nil (exs_nil (exs_nil (exs_pk (own1 := own08 w L x d b2 fd 0 (next08 row) (next08 row) rest) (List.Sublist.refl _) ?_ (tail08 (rl := b2) (sz := 0) (hg.next hd) (by omega)))))
  exact Pk.head (r := rest) (b := [(b2, .list ((next08 row).map dpair)), (b, .list ((row.map (·.2)).map .str)), (x, .acc 100 d ((next08 row).map dpair)), (d, .idict [("_initial_size", .int 0)]), (62, .tab), (69, .tab), (106, .tab), (L + 1, .cell (some (.raw (.ref fd)))), (fd, FolO pr08 w), (rl, .list (row.map dpair))]) [2, 3, 4, 5, 6, 7, 8, 0] (by decide) (by simp) rfl
theorem filt08 : ∀ row : List (Str × Str), (row.filterMap fun p => if p.2 != ("d" : Str) then some (dpair p) else none) = (keep08 row).map dpair
  | [] => rfl
  | p :: r => by
    have ih := filt08 r
    unfold keep08 at *
    by_cases hc : (p.2 != ("d" : Str)) = true
    · rw [List.filter_cons, if_pos hc, List.map_cons, ← ih, List.filterMap_cons, if_pos hc]
    · rw [List.filter_cons, if_neg hc, ← ih, List.filterMap_cons, if_neg hc]
theorem dueKeep {j : Nat} (hg : Good08 j sz row) (hj : j ≤ 40) :
    Exs (lf08 w P L fa) (locT08 sc0 x rl sz v m 5 pc "" []) (own08 w L x d rl fd 0 (keep08 row) row rest) ((B08 P).drop 4) (Post08 (j + 1) w L sc0 x d fd rest) := by
  have hrl := hg.rl
  ((refine exs_cons ?_; first | (refine ex_assignS ?hs ?_; (case hs => exact swaps_plain (by rfl))) | refine ex_expr (by kernel_rfl) (by rfl) ?_ | refine ex_if ?_ | refine ex_return ?_ | fail "none"))
  (repeat' ((first | (with_reducible first | refine ev_bin ?_ | refine ev_int ?_ | refine ev_str ?_ | refine ev_bool ?_ | refine ev_none ?_ | walk_at "name" | walk_at "fn" | refine ev_sub ?_ | refine ev_slice ?_ | refine evo_none ?_ | refine evo_some ?_ | refine ev_tuple ?_ | refine ev_list ?_ | refine evl_nil ?_ | refine op_add ?_ | refine op_sub ?_ | refine op_lt ?_ | refine op_gt ?_ | refine op_le ?_ | refine op_eq ?_ | refine op_ne ?_ | refine op_eq_str ?_ | refine op_ne_str ?_ | refine op_max ?_ | refine op_min ?_ | refine op_abs ?_ | refine op_mod (by first | decide | walk_at "om") ?_ | refine op_div (by first | decide | walk_at "om") (by first | decide | walk_at "om") ?_ | refine op_len_str (by first | decide | walk_at "om") ?_ | refine op_cat (by first | decide | walk_at "om") ?_ | refine truth_bool ?_ | refine tst_cmp (by kernel_rfl) ?_ | refine ev_cmp (by kernel_rfl) ?_ | refine tst_not ?_ | fail "none") | ((with_reducible show EvL _ _ _ _ (_ :: _) _); refine evl_cons ?_) | ((with_reducible show Ev _ _ _ (.Call (.Attribute _ _ _) _ [] _) _); refine ev_meth ?_) | fail "none")))
  refine ⟨_, _, by ((refine StoreTo.loc (by kernel_rfl) (by (repeat (first | with_reducible exact SetL.here | with_reducible exact SetL.new | (with_reducible apply SetL.there; (focus (dsimp only; decide)))))))), ?_⟩
  refine exs_cons (ex_if ?_)
  (repeat' ((first | (with_reducible first | refine ev_bin ?_ | refine ev_int ?_ | refine ev_str ?_ | refine ev_bool ?_ | refine ev_none ?_ | walk_at "name" | walk_at "fn" | refine ev_sub ?_ | refine ev_slice ?_ | refine evo_none ?_ | refine evo_some ?_ | refine ev_tuple ?_ | refine ev_list ?_ | refine evl_nil ?_ | refine op_add ?_ | refine op_sub ?_ | refine op_lt ?_ | refine op_gt ?_ | refine op_le ?_ | refine op_eq ?_ | refine op_ne ?_ | refine op_eq_str ?_ | refine op_ne_str ?_ | refine op_max ?_ | refine op_min ?_ | refine op_abs ?_ | refine op_mod (by first | decide | walk_at "om") ?_ | refine op_div (by first | decide | walk_at "om") (by first | decide | walk_at "om") ?_ | refine op_len_str (by first | decide | walk_at "om") ?_ | refine op_cat (by first | decide | walk_at "om") ?_ | refine truth_bool ?_ | refine tst_cmp (by kernel_rfl) ?_ | refine ev_cmp (by kernel_rfl) ?_ | refine tst_not ?_ | fail "none") | ((with_reducible show EvL _ _ _ _ (_ :: _) _); refine evl_cons ?_) | ((with_reducible show Ev _ _ _ (.Call (.Attribute _ _ _) _ [] _) _); refine ev_meth ?_) | fail "none")))
  rw [if_neg (by decide)]
  refine exs_cons (ex_if (tst_bool (all_and_cons ?_)))
  (repeat' ((first | (with_reducible first | refine ev_bin ?_ | refine ev_int ?_ | refine ev_str ?_ | refine ev_bool ?_ | refine ev_none ?_ | walk_at "name" | walk_at "fn" | refine ev_sub ?_ | refine ev_slice ?_ | refine evo_none ?_ | refine evo_some ?_ | refine ev_tuple ?_ | refine ev_list ?_ | refine evl_nil ?_ | refine op_add ?_ | refine op_sub ?_ | refine op_lt ?_ | refine op_gt ?_ | refine op_le ?_ | refine op_eq ?_ | refine op_ne ?_ | refine op_eq_str ?_ | refine op_ne_str ?_ | refine op_max ?_ | refine op_min ?_ | refine op_abs ?_ | refine op_mod (by first | decide | walk_at "om") ?_ | refine op_div (by first | decide | walk_at "om") (by first | decide | walk_at "om") ?_ | refine op_len_str (by first | decide | walk_at "om") ?_ | refine op_cat (by first | decide | walk_at "om") ?_ | refine truth_bool ?_ | refine tst_cmp (by kernel_rfl) ?_ | refine ev_cmp (by kernel_rfl) ?_ | refine tst_not ?_ | fail "none") | ((with_reducible show EvL _ _ _ _ (_ :: _) _); refine evl_cons ?_) | ((with_reducible show Ev _ _ _ (.Call (.Attribute _ _ _) _ [] _) _); refine ev_meth ?_) | fail "none")))
  rw [if_neg (by decide)]
  rw [if_neg (by simp)]
  refine exs_cons (ex_if ?_)
  (repeat' ((first | (with_reducible first | refine ev_bin ?_ | refine ev_int ?_ | refine ev_str ?_ | refine ev_bool ?_ | refine ev_none ?_ | walk_at "name" | walk_at "fn" | refine ev_sub ?_ | refine ev_slice ?_ | refine evo_none ?_ | refine evo_some ?_ | refine ev_tuple ?_ | refine ev_list ?_ | refine evl_nil ?_ | refine op_add ?_ | refine op_sub ?_ | refine op_lt ?_ | refine op_gt ?_ | refine op_le ?_ | refine op_eq ?_ | refine op_ne ?_ | refine op_eq_str ?_ | refine op_ne_str ?_ | refine op_max ?_ | refine op_min ?_ | refine op_abs ?_ | refine op_mod (by first | decide | walk_at "om") ?_ | refine op_div (by first | decide | walk_at "om") (by first | decide | walk_at "om") ?_ | refine op_len_str (by first | decide | walk_at "om") ?_ | refine op_cat (by first | decide | walk_at "om") ?_ | refine truth_bool ?_ | refine tst_cmp (by kernel_rfl) ?_ | refine ev_cmp (by kernel_rfl) ?_ | refine tst_not ?_ | fail "none") | ((with_reducible show EvL _ _ _ _ (_ :: _) _); refine evl_cons ?_) | ((with_reducible show Ev _ _ _ (.Call (.Attribute _ _ _) _ [] _) _); refine ev_meth ?_) | fail "none")))
  rw [if_neg (by decide)]
  refine exs_cons (ex_if ?_)
  (repeat' ((first | (with_reducible first | refine ev_bin ?_ | refine ev_int ?_ | refine ev_str ?_ | refine ev_bool ?_ | refine ev_none ?_ | walk_at "name" | walk_at "fn" | refine ev_sub ?_ | refine ev_slice ?_ | refine evo_none ?_ | refine evo_some ?_ | refine ev_tuple ?_ | refine ev_list ?_ | refine evl_nil ?_ | refine op_add ?_ | refine op_sub ?_ | refine op_lt ?_ | refine op_gt ?_ | refine op_le ?_ | refine op_eq ?_ | refine op_ne ?_ | refine op_eq_str ?_ | refine op_ne_str ?_ | refine op_max ?_ | refine op_min ?_ | refine op_abs ?_ | refine op_mod (by first | decide | walk_at "om") ?_ | refine op_div (by first | decide | walk_at "om") (by first | decide | walk_at "om") ?_ | refine op_len_str (by first | decide | walk_at "om") ?_ | refine op_cat (by first | decide | walk_at "om") ?_ | refine truth_bool ?_ | refine tst_cmp (by kernel_rfl) ?_ | refine ev_cmp (by kernel_rfl) ?_ | refine tst_not ?_ | fail "none") | ((with_reducible show EvL _ _ _ _ (_ :: _) _); refine evl_cons ?_) | ((with_reducible show Ev _ _ _ (.Call (.Attribute _ _ _) _ [] _) _); refine ev_meth ?_) | fail "none")))
  rw [if_pos (by decide)]
  refine exs_cons (ex_assign_compS [] rfl ⟨rfl, rfl, by decide, by decide, fun _ => rfl⟩ (by rfl) (it_list ?_))
  walk_at "name"
  refine ⟨rl, row.map dpair, rfl, by walk_at "has", ?_⟩
  refine comp_pure (fun p => if p.2 != ("d" : Str) then some (dpair p) else none) (by walk_at "has") (by omega) (fun C ac p res hp => ?_) ?_
  · intro _
    have hf := hg.pc p hp
    refine as_name (by kernel_rfl) .new ?_
    unfold Elt
    refine tst_cmp (by kernel_rfl) (ev_sub ?_)
    (repeat' ((first | (with_reducible first | refine ev_bin ?_ | refine ev_int ?_ | refine ev_str ?_ | refine ev_bool ?_ | refine ev_none ?_ | walk_at "name" | walk_at "fn" | refine ev_sub ?_ | refine ev_slice ?_ | refine evo_none ?_ | refine evo_some ?_ | refine ev_tuple ?_ | refine ev_list ?_ | refine evl_nil ?_ | refine op_add ?_ | refine op_sub ?_ | refine op_lt ?_ | refine op_gt ?_ | refine op_le ?_ | refine op_eq ?_ | refine op_ne ?_ | refine op_eq_str ?_ | refine op_ne_str ?_ | refine op_max ?_ | refine op_min ?_ | refine op_abs ?_ | refine op_mod (by first | decide | walk_at "om") ?_ | refine op_div (by first | decide | walk_at "om") (by first | decide | walk_at "om") ?_ | refine op_len_str (by first | decide | walk_at "om") ?_ | refine op_cat (by first | decide | walk_at "om") ?_ | refine truth_bool ?_ | refine tst_cmp (by kernel_rfl) ?_ | refine ev_cmp (by kernel_rfl) ?_ | refine tst_not ?_ | fail "none") | ((with_reducible show EvL _ _ _ _ (_ :: _) _); refine evl_cons ?_) | ((with_reducible show Ev _ _ _ (.Call (.Attribute _ _ _) _ [] _) _); refine ev_meth ?_) | fail "none")))
    refine sub_tuple (by kernel_rfl) (by decide) rfl (Nat.le_of_ble_eq_true rfl) ?_
    (repeat' ((first | (with_reducible first | refine ev_bin ?_ | refine ev_int ?_ | refine ev_str ?_ | refine ev_bool ?_ | refine ev_none ?_ | walk_at "name" | walk_at "fn" | refine ev_sub ?_ | refine ev_slice ?_ | refine evo_none ?_ | refine evo_some ?_ | refine ev_tuple ?_ | refine ev_list ?_ | refine evl_nil ?_ | refine op_add ?_ | refine op_sub ?_ | refine op_lt ?_ | refine op_gt ?_ | refine op_le ?_ | refine op_eq ?_ | refine op_ne ?_ | refine op_eq_str ?_ | refine op_ne_str ?_ | refine op_max ?_ | refine op_min ?_ | refine op_abs ?_ | refine op_mod (by first | decide | walk_at "om") ?_ | refine op_div (by first | decide | walk_at "om") (by first | decide | walk_at "om") ?_ | refine op_len_str (by first | decide | walk_at "om") ?_ | refine op_cat (by first | decide | walk_at "om") ?_ | refine truth_bool ?_ | refine tst_cmp (by kernel_rfl) ?_ | refine ev_cmp (by kernel_rfl) ?_ | refine tst_not ?_ | fail "none") | ((with_reducible show EvL _ _ _ _ (_ :: _) _); refine evl_cons ?_) | ((with_reducible show Ev _ _ _ (.Call (.Attribute _ _ _) _ [] _) _); refine ev_meth ?_) | fail "none")))
    refine op_in_str (abc_in hf.2) (truth_bool ?_)
    by_cases hc : (p.2 != ("d" : Str)) = true
    · rw [hc, if_pos rfl, if_pos rfl]
      (repeat' ((first | (with_reducible first | refine ev_bin ?_ | refine ev_int ?_ | refine ev_str ?_ | refine ev_bool ?_ | refine ev_none ?_ | walk_at "name" | walk_at "fn" | refine ev_sub ?_ | refine ev_slice ?_ | refine evo_none ?_ | refine evo_some ?_ | refine ev_tuple ?_ | refine ev_list ?_ | refine evl_nil ?_ | refine op_add ?_ | refine op_sub ?_ | refine op_lt ?_ | refine op_gt ?_ | refine op_le ?_ | refine op_eq ?_ | refine op_ne ?_ | refine op_eq_str ?_ | refine op_ne_str ?_ | refine op_max ?_ | refine op_min ?_ | refine op_abs ?_ | refine op_mod (by first | decide | walk_at "om") ?_ | refine op_div (by first | decide | walk_at "om") (by first | decide | walk_at "om") ?_ | refine op_len_str (by first | decide | walk_at "om") ?_ | refine op_cat (by first | decide | walk_at "om") ?_ | refine truth_bool ?_ | refine tst_cmp (by kernel_rfl) ?_ | refine ev_cmp (by kernel_rfl) ?_ | refine tst_not ?_ | fail "none") | ((with_reducible show EvL _ _ _ _ (_ :: _) _); refine evl_cons ?_) | ((with_reducible show Ev _ _ _ (.Call (.Attribute _ _ _) _ [] _) _); refine ev_meth ?_) | fail "none")))
      exact ⟨rfl, List.Sublist.refl _⟩
    · rw [if_neg hc, if_neg hc]
      exact ⟨rfl, List.Sublist.refl _⟩
  intro b2
  rw [show (row.filterMap fun p => if p.2 != ("d" : Str) then some (dpair p) else none) = (keep08 row).map dpair from filt08 row]
  refine ⟨_, _, by ((refine StoreTo.loc (by kernel_rfl) (by (repeat (first | with_reducible exact SetL.here | with_reducible exact SetL.new | (with_reducible apply SetL.there; (focus (dsimp only; decide)))))))), ?_⟩
  ((refine exs_cons ?_; first | (refine ex_assignS ?hs ?_; (case hs => exact swaps_plain (by rfl))) | refine ex_expr (by kernel_rfl) (by rfl) ?_ | refine ex_if ?_ | refine ex_return ?_ | fail "none"))
  (repeat' ((first | (with_reducible first | refine ev_bin ?_ | refine ev_int ?_ | refine ev_str ?_ | refine ev_bool ?_ | refine ev_none ?_ | walk_at "name" | walk_at "fn" | refine ev_sub ?_ | refine ev_slice ?_ | refine evo_none ?_ | refine evo_some ?_ | refine ev_tuple ?_ | refine ev_list ?_ | refine evl_nil ?_ | refine op_add ?_ | refine op_sub ?_ | refine op_lt ?_ | refine op_gt ?_ | refine op_le ?_ | refine op_eq ?_ | refine op_ne ?_ | refine op_eq_str ?_ | refine op_ne_str ?_ | refine op_max ?_ | refine op_min ?_ | refine op_abs ?_ | refine op_mod (by first | decide | walk_at "om") ?_ | refine op_div (by first | decide | walk_at "om") (by first | decide | walk_at "om") ?_ | refine op_len_str (by first | decide | walk_at "om") ?_ | refine op_cat (by first | decide | walk_at "om") ?_ | refine truth_bool ?_ | refine tst_cmp (by kernel_rfl) ?_ | refine ev_cmp (by kernel_rfl) ?_ | refine tst_not ?_ | fail "none") | ((with_reducible show EvL _ _ _ _ (_ :: _) _); refine evl_cons ?_) | ((with_reducible show Ev _ _ _ (.Call (.Attribute _ _ _) _ [] _) _); refine ev_meth ?_) | fail "none")))
  refine ⟨_, _, by ((refine StoreTo.loc (by kernel_rfl) (by (repeat (first | with_reducible exact SetL.here | with_reducible exact SetL.new | (with_reducible apply SetL.there; (focus (dsimp only; decide)))))))), ?_⟩
  refine exs_nil (exs_nil (exs_nil (exs_nil (exs_pk (own1 := own08 w L x d b2 fd 0 (keep08 row) (keep08 row) rest) (List.Sublist.refl _) ?_ (tail08 (rl := b2) (sz := 0) hg.keep (by omega))))))
  exact Pk.head (r := rest) (b := [(b2, .list ((keep08 row).map dpair)), (x, .acc 100 d ((keep08 row).map dpair)), (d, .idict [("_initial_size", .int 0)]), (62, .tab), (69, .tab), (106, .tab), (L + 1, .cell (some (.raw (.ref fd)))), (fd, FolO pr08 w), (rl, .list (row.map dpair))]) [1, 2, 3, 4, 5, 6, 7, 0] (by decide) (by simp) rfl

open PySem PySem.W PySem.Builtin PySem.Builtin.ObjectAttr
open PyProof.Rows hiding wpAt wpAt_bind
set_option linter.unusedSectionVars false
set_option maxRecDepth 100000
set_option maxHeartbeats 8000000
set_option linter.unusedVariables false
variable {P : PySem.Params} {w : World} {L fa : Addr} {loc : Loc} {own own' own'' : Own} {QQ : QF}
variable {sc0 x d rl fd : Addr} {sz v m dd : Int} {row : List (Str × Str)} {pc : Str × Str} {rest : Own}
theorem mul3_le {j : Int} (h0 : 0 ≤ j) (h1 : j < 3) : (Txt.mul " " j).length ≤ 2 := by
  have ha : ∀ j : Fin 3, (Txt.mul " " ((j : Nat) : Int)).length ≤ 2 := by decide +kernel
  obtain ⟨n, rfl⟩ := Int.eq_ofNat_of_zero_le h0
  exact ha ⟨n, by omega⟩
theorem item4_in {j : Int} (h0 : 0 ≤ j) (h1 : j < 4) : Txt.item "abcd" j ∈ lets08 := by
  have ha : ∀ j : Fin 4, Txt.item "abcd" ((j : Nat) : Int) ∈ lets08 := by decide +kernel
  obtain ⟨n, rfl⟩ := Int.eq_ofNat_of_zero_le h0
  exact ha ⟨n, by omega⟩
theorem deed2x {j : Nat} (hsm : (fd == sysModules) = false) (hg : Good08 j sz row) (hj : j ≤ 40) (hd : ("d" : Str) ∈ row.map (·.2)) :
    ExsX (lf08 w P L fa) [] false (locT08 sc0 x rl sz v m 2 pc "" []) (own08 w L x d rl fd sz row row rest) (tryBody ((B08 P).drop 3)) (Told08 w L sc0 x d rl fd sz v m 2 row pc rest "KeyError") := by
  refine ifX08 rfl (by walk_at "has") false (deedl08 (by decide)) (by kernel_rfl) ?_
  rw [if_neg (by decide)]
  exact key08 hsm hg hj hd
theorem deed3x : ExsX (lf08 w P L fa) [] false (locT08 sc0 x rl sz v m 3 pc "" []) (own08 w L x d rl fd sz row row rest) (tryBody ((B08 P).drop 3)) (Told08 w L sc0 x d rl fd sz v m 3 row pc rest "TypeError") := by
  refine ifX08 rfl (by walk_at "has") false (deedl08 (by decide)) (by kernel_rfl) ?_
  rw [if_neg (by decide)]
  refine ifX08 rfl (by walk_at "has") false (deeds08 (by decide)) (by kernel_rfl) ?_
  rw [if_neg (by decide)]
  exact num08
theorem deed4x : ExsX (lf08 w P L fa) [] false (locT08 sc0 x rl sz v m 4 pc "" []) (own08 w L x d rl fd sz row row rest) (tryBody ((B08 P).drop 3)) (Told08 w L sc0 x d rl fd sz v m 4 row pc rest "TypeError") := by
  refine ifX08 rfl (by walk_at "has") false (deedl08 (by decide)) (by kernel_rfl) ?_
  rw [if_neg (by decide)]
  refine ifX08 rfl (by walk_at "has") false (deeds08 (by decide)) (by kernel_rfl) ?_
  rw [if_neg (by decide)]
  refine ifX08 rfl (by walk_at "has") false (deeds08 (by decide)) (by kernel_rfl) ?_
  rw [if_neg (by decide)]
  exact pop08x
theorem deed08 {j : Nat} (hsm : (fd == sysModules) = false) (hg : Good08 j sz row) (hj : j ≤ 40) (h0 : 0 ≤ dd) (h6 : dd < 6) (h1 : pc.1.length ≤ 2) (h2 : pc.2 ∈ lets08) :
    Exs (lf08 w P L fa) (locT08 sc0 x rl sz v m dd pc "" []) (own08 w L x d rl fd sz row row rest) ((B08 P).drop 3) (Post08 (j + 1) w L sc0 x d fd rest) := by
  by_cases c2 : dd < 2
  · exact push08t hg hj c2 (duePush hg hj c2 h1 h2)
  · have : dd = 2 ∨ dd = 3 ∨ dd = 4 ∨ dd = 5 := by omega
    rcases this with rfl | rfl | rfl | rfl
    · by_cases hd : ("d" : Str) ∈ row.map (·.2)
      · exact tryX08 (.inl ⟨rfl, rfl⟩) (deed2x hsm hg hj hd) (dueKey hg hj hd)
      · exact fol08t hsm hg hj hd (dueNext hg hj hd)
    · exact tryX08 (.inr ⟨rfl, rfl⟩) deed3x (dueType hg hj (.inl rfl))
    · exact tryX08 (.inr ⟨rfl, rfl⟩) deed4x (dueType hg hj (.inr rfl))
    · exact keep08t hg hj (dueKeep hg hj)
theorem turn08 {j : Nat} (hsm : (fd == sysModules) = false) (hg : Good08 j sz row) (hj : j ≤ 40) :
    Exs (lf08 w P L fa) (loc08 sc0 x rl sz [("x", .int v)]) (own08 w L x d rl fd sz row row rest) (B08 P) (Post08 (j + 1) w L sc0 x d fd rest) := by
  refine exs_cons (ex_assign_swapS ["deed", "n"] (by rfl) (by rfl) ?_)
  (repeat' ((first | (with_reducible first | refine ev_bin ?_ | refine ev_int ?_ | refine ev_str ?_ | refine ev_bool ?_ | refine ev_none ?_ | walk_at "name" | walk_at "fn" | refine ev_sub ?_ | refine ev_slice ?_ | refine evo_none ?_ | refine evo_some ?_ | refine ev_tuple ?_ | refine ev_list ?_ | refine evl_nil ?_ | refine op_add ?_ | refine op_sub ?_ | refine op_lt ?_ | refine op_gt ?_ | refine op_le ?_ | refine op_eq ?_ | refine op_ne ?_ | refine op_eq_str ?_ | refine op_ne_str ?_ | refine op_max ?_ | refine op_min ?_ | refine op_abs ?_ | refine op_mod (by first | decide | walk_at "om") ?_ | refine op_div (by first | decide | walk_at "om") (by first | decide | walk_at "om") ?_ | refine op_len_str (by first | decide | walk_at "om") ?_ | refine op_cat (by first | decide | walk_at "om") ?_ | refine truth_bool ?_ | refine tst_cmp (by kernel_rfl) ?_ | refine ev_cmp (by kernel_rfl) ?_ | refine tst_not ?_ | fail "none") | ((with_reducible show EvL _ _ _ _ (_ :: _) _); refine evl_cons ?_) | ((with_reducible show Ev _ _ _ (.Call (.Attribute _ _ _) _ [] _) _); refine ev_meth ?_) | fail "none")))
  refine ⟨by simp, _, _, _, rfl, rfl, .cons (by ((refine StoreTo.loc (by kernel_rfl) (by (repeat (first | with_reducible exact SetL.here | with_reducible exact SetL.new | (with_reducible apply SetL.there; (focus (dsimp only; decide))))))))) (.cons (by ((refine StoreTo.loc (by kernel_rfl) (by (repeat (first | with_reducible exact SetL.here | with_reducible exact SetL.new | (with_reducible apply SetL.there; (focus (dsimp only; decide))))))))) .nil), ?_⟩
  have m30 := Int.emod_nonneg (v / 6) (show (3 : Int) ≠ 0 by decide)
  have m33 := Int.emod_lt_of_pos (v / 6) (show (0 : Int) < 3 by decide)
  have q40 := Int.emod_nonneg (v / 6 / 3) (show (4 : Int) ≠ 0 by decide)
  have q44 := Int.emod_lt_of_pos (v / 6 / 3) (show (0 : Int) < 4 by decide)
  ((refine exs_cons ?_; first | (refine ex_assignS ?hs ?_; (case hs => exact swaps_plain (by rfl))) | refine ex_expr (by kernel_rfl) (by rfl) ?_ | refine ex_if ?_ | refine ex_return ?_ | fail "none"))
  (repeat' ((first | (with_reducible first | refine ev_bin ?_ | refine ev_int ?_ | refine ev_str ?_ | refine ev_bool ?_ | refine ev_none ?_ | walk_at "name" | walk_at "fn" | refine ev_sub ?_ | refine ev_slice ?_ | refine evo_none ?_ | refine evo_some ?_ | refine ev_tuple ?_ | refine ev_list ?_ | refine evl_nil ?_ | refine op_add ?_ | refine op_sub ?_ | refine op_lt ?_ | refine op_gt ?_ | refine op_le ?_ | refine op_eq ?_ | refine op_ne ?_ | refine op_eq_str ?_ | refine op_ne_str ?_ | refine op_max ?_ | refine op_min ?_ | refine op_abs ?_ | refine op_mod (by first | decide | walk_at "om") ?_ | refine op_div (by first | decide | walk_at "om") (by first | decide | walk_at "om") ?_ | refine op_len_str (by first | decide | walk_at "om") ?_ | refine op_cat (by first | decide | walk_at "om") ?_ | refine truth_bool ?_ | refine tst_cmp (by kernel_rfl) ?_ | refine ev_cmp (by kernel_rfl) ?_ | refine tst_not ?_ | fail "none") | ((with_reducible show EvL _ _ _ _ (_ :: _) _); refine evl_cons ?_) | ((with_reducible show Ev _ _ _ (.Call (.Attribute _ _ _) _ [] _) _); refine ev_meth ?_) | fail "none")))
  refine op_mul_str (by omega) (by omega) (by decide +kernel) ?_
  (repeat' ((first | (with_reducible first | refine ev_bin ?_ | refine ev_int ?_ | refine ev_str ?_ | refine ev_bool ?_ | refine ev_none ?_ | walk_at "name" | walk_at "fn" | refine ev_sub ?_ | refine ev_slice ?_ | refine evo_none ?_ | refine evo_some ?_ | refine ev_tuple ?_ | refine ev_list ?_ | refine evl_nil ?_ | refine op_add ?_ | refine op_sub ?_ | refine op_lt ?_ | refine op_gt ?_ | refine op_le ?_ | refine op_eq ?_ | refine op_ne ?_ | refine op_eq_str ?_ | refine op_ne_str ?_ | refine op_max ?_ | refine op_min ?_ | refine op_abs ?_ | refine op_mod (by first | decide | walk_at "om") ?_ | refine op_div (by first | decide | walk_at "om") (by first | decide | walk_at "om") ?_ | refine op_len_str (by first | decide | walk_at "om") ?_ | refine op_cat (by first | decide | walk_at "om") ?_ | refine truth_bool ?_ | refine tst_cmp (by kernel_rfl) ?_ | refine ev_cmp (by kernel_rfl) ?_ | refine tst_not ?_ | fail "none") | ((with_reducible show EvL _ _ _ _ (_ :: _) _); refine evl_cons ?_) | ((with_reducible show Ev _ _ _ (.Call (.Attribute _ _ _) _ [] _) _); refine ev_meth ?_) | fail "none")))
  refine sub_str (by kernel_rfl) (fun _ _ => rfl) (by show -(4 : Int) ≤ _; omega) (by show _ < (4 : Int); omega) (by decide) ?_
  refine evl_nil ⟨by simp, ?_⟩
  refine ⟨_, _, by ((refine StoreTo.loc (by kernel_rfl) (by (repeat (first | with_reducible exact SetL.here | with_reducible exact SetL.new | (with_reducible apply SetL.there; (focus (dsimp only; decide)))))))), ?_⟩
  ((refine exs_cons ?_; first | (refine ex_assignS ?hs ?_; (case hs => exact swaps_plain (by rfl))) | refine ex_expr (by kernel_rfl) (by rfl) ?_ | refine ex_if ?_ | refine ex_return ?_ | fail "none"))
  (repeat' ((first | (with_reducible first | refine ev_bin ?_ | refine ev_int ?_ | refine ev_str ?_ | refine ev_bool ?_ | refine ev_none ?_ | walk_at "name" | walk_at "fn" | refine ev_sub ?_ | refine ev_slice ?_ | refine evo_none ?_ | refine evo_some ?_ | refine ev_tuple ?_ | refine ev_list ?_ | refine evl_nil ?_ | refine op_add ?_ | refine op_sub ?_ | refine op_lt ?_ | refine op_gt ?_ | refine op_le ?_ | refine op_eq ?_ | refine op_ne ?_ | refine op_eq_str ?_ | refine op_ne_str ?_ | refine op_max ?_ | refine op_min ?_ | refine op_abs ?_ | refine op_mod (by first | decide | walk_at "om") ?_ | refine op_div (by first | decide | walk_at "om") (by first | decide | walk_at "om") ?_ | refine op_len_str (by first | decide | walk_at "om") ?_ | refine op_cat (by first | decide | walk_at "om") ?_ | refine truth_bool ?_ | refine tst_cmp (by kernel_rfl) ?_ | refine ev_cmp (by kernel_rfl) ?_ | refine tst_not ?_ | fail "none") | ((with_reducible show EvL _ _ _ _ (_ :: _) _); refine evl_cons ?_) | ((with_reducible show Ev _ _ _ (.Call (.Attribute _ _ _) _ [] _) _); refine ev_meth ?_) | fail "none")))
  refine ⟨_, _, by ((refine StoreTo.loc (by kernel_rfl) (by (repeat (first | with_reducible exact SetL.here | with_reducible exact SetL.new | (with_reducible apply SetL.there; (focus (dsimp only; decide)))))))), ?_⟩
  exact deed08 (pc := (Txt.mul " " (v / 6 % 3), Txt.item "abcd" (v / 6 / 3 % 4))) hsm hg hj (Int.emod_nonneg v (by decide)) (Int.emod_lt_of_pos v (by decide)) (mul3_le m30 m33) (item4_in q40 q44)

local macro_rules | `(tactic| walk_at "name") => `(tactic| (with_reducible refine ev_cell (x := "following") (by kernel_rfl) (by decide +kernel) (by with_unfolding_all rfl) (by walk_at "has") ?_))
open PySem PySem.W PySem.Builtin PySem.Builtin.ObjectAttr
open PyProof.Rows hiding wpAt wpAt_bind
set_option linter.unusedSectionVars false
set_option maxRecDepth 100000
set_option maxHeartbeats 8000000
set_option linter.unusedVariables false
variable {P : PySem.Params} {w : World} {L fa : Addr} {loc : Loc} {own own' own'' : Own} {QQ : QF}
variable {sc0 x d rl fd : Addr} {sz v m dd : Int} {row : List (Str × Str)} {pc : Str × Str} {rest : Own}
theorem end08 {o0 : Obj} {ns : List Int} {l3 : Addr} {ms : List Int} {j : Nat} (hg : Good08 j sz row) (hj : j ≤ 40) :
    Exs (lf08 w P L fa) (loc08 sc0 x rl sz []) (own08 w L x d rl fd sz row row [(sc0, .fix o0 (ns.map .int)), (l3, .list (ms.map .int))]) ((bodyOf (fnOf (K08 P) 109)).drop 5)
      (fun fl loc own => fl = .ret (.bool true) ∧ (∀ p ∈ [((66 : Addr), (62 : Addr)), (73, 69), (108, 106)], (p.2, AObj.tab) ∈ own) ∧ (sc0, AObj.fix o0 (ns.map .int)) ∈ own) := by
  have e1 : (lf08 w P L fa).A.depth ≤ 400 := by show callerA.depth + 1 ≤ 400; decide
  have e2 : (lf08 w P L fa).A.units ≤ 10 := by show callerA.units + 3 ≤ 10; decide
  have hrl := hg.rl
  have hfit : Fits row := fun p hp => ⟨by have := (hg.pc p hp).1; omega, by
    have h2 : ∀ q ∈ lets08, q.length ≤ 1000 := by decide +kernel
    exact h2 _ (hg.pc p hp).2⟩
  ((refine exs_cons ?_; first | (refine ex_assignS ?hs ?_; (case hs => exact swaps_plain (by rfl))) | refine ex_expr (by kernel_rfl) (by rfl) ?_ | refine ex_if ?_ | refine ex_return ?_ | fail "none"))
  refine ev_and2 (ev_cmp (by kernel_rfl) ?_)
  (repeat' ((first | (with_reducible first | refine ev_bin ?_ | refine ev_int ?_ | refine ev_str ?_ | refine ev_bool ?_ | refine ev_none ?_ | walk_at "name" | walk_at "fn" | refine ev_sub ?_ | refine ev_slice ?_ | refine evo_none ?_ | refine evo_some ?_ | refine ev_tuple ?_ | refine ev_list ?_ | refine evl_nil ?_ | refine op_add ?_ | refine op_sub ?_ | refine op_lt ?_ | refine op_gt ?_ | refine op_le ?_ | refine op_eq ?_ | refine op_ne ?_ | refine op_eq_str ?_ | refine op_ne_str ?_ | refine op_max ?_ | refine op_min ?_ | refine op_abs ?_ | refine op_mod (by first | decide | walk_at "om") ?_ | refine op_div (by first | decide | walk_at "om") (by first | decide | walk_at "om") ?_ | refine op_len_str (by first | decide | walk_at "om") ?_ | refine op_cat (by first | decide | walk_at "om") ?_ | refine truth_bool ?_ | refine tst_cmp (by kernel_rfl) ?_ | refine ev_cmp (by kernel_rfl) ?_ | refine tst_not ?_ | fail "none") | ((with_reducible show EvL _ _ _ _ (_ :: _) _); refine evl_cons ?_) | ((with_reducible show Ev _ _ _ (.Call (.Attribute _ _ _) _ [] _) _); refine ev_meth ?_) | fail "none")))
  refine meth_fn (f := 97) accK08 .here (.there .here) (by kernel_rfl) (by kernel_rfl) (by kernel_rfl) (by kernel_rfl) (by kernel_rfl) (evl_nil (opN_callT (part_count08 (ds := row.map dpair) (d := d) rfl (by omega) (by omega) .here ?_)))
  (repeat' ((first | (with_reducible first | refine ev_bin ?_ | refine ev_int ?_ | refine ev_str ?_ | refine ev_bool ?_ | refine ev_none ?_ | walk_at "name" | walk_at "fn" | refine ev_sub ?_ | refine ev_slice ?_ | refine evo_none ?_ | refine evo_some ?_ | refine ev_tuple ?_ | refine ev_list ?_ | refine evl_nil ?_ | refine op_add ?_ | refine op_sub ?_ | refine op_lt ?_ | refine op_gt ?_ | refine op_le ?_ | refine op_eq ?_ | refine op_ne ?_ | refine op_eq_str ?_ | refine op_ne_str ?_ | refine op_max ?_ | refine op_min ?_ | refine op_abs ?_ | refine op_mod (by first | decide | walk_at "om") ?_ | refine op_div (by first | decide | walk_at "om") (by first | decide | walk_at "om") ?_ | refine op_len_str (by first | decide | walk_at "om") ?_ | refine op_cat (by first | decide | walk_at "om") ?_ | refine truth_bool ?_ | refine tst_cmp (by kernel_rfl) ?_ | refine ev_cmp (by kernel_rfl) ?_ | refine tst_not ?_ | fail "none") | ((with_reducible show EvL _ _ _ _ (_ :: _) _); refine evl_cons ?_) | ((with_reducible show Ev _ _ _ (.Call (.Attribute _ _ _) _ [] _) _); refine ev_meth ?_) | fail "none")))
  refine op_len_list (ds := row.map dpair) (by walk_at "has") (by rw [List.length_map]; omega) ?_
  (repeat' ((first | (with_reducible first | refine ev_bin ?_ | refine ev_int ?_ | refine ev_str ?_ | refine ev_bool ?_ | refine ev_none ?_ | walk_at "name" | walk_at "fn" | refine ev_sub ?_ | refine ev_slice ?_ | refine evo_none ?_ | refine evo_some ?_ | refine ev_tuple ?_ | refine ev_list ?_ | refine evl_nil ?_ | refine op_add ?_ | refine op_sub ?_ | refine op_lt ?_ | refine op_gt ?_ | refine op_le ?_ | refine op_eq ?_ | refine op_ne ?_ | refine op_eq_str ?_ | refine op_ne_str ?_ | refine op_max ?_ | refine op_min ?_ | refine op_abs ?_ | refine op_mod (by first | decide | walk_at "om") ?_ | refine op_div (by first | decide | walk_at "om") (by first | decide | walk_at "om") ?_ | refine op_len_str (by first | decide | walk_at "om") ?_ | refine op_cat (by first | decide | walk_at "om") ?_ | refine truth_bool ?_ | refine tst_cmp (by kernel_rfl) ?_ | refine ev_cmp (by kernel_rfl) ?_ | refine tst_not ?_ | fail "none") | ((with_reducible show EvL _ _ _ _ (_ :: _) _); refine evl_cons ?_) | ((with_reducible show Ev _ _ _ (.Call (.Attribute _ _ _) _ [] _) _); refine ev_meth ?_) | fail "none")))
  refine ⟨_, rfl, ?_⟩
  rw [if_pos (by simp)]
  refine ev_cmp (by kernel_rfl) ?_
  (repeat' ((first | (with_reducible first | refine ev_bin ?_ | refine ev_int ?_ | refine ev_str ?_ | refine ev_bool ?_ | refine ev_none ?_ | walk_at "name" | walk_at "fn" | refine ev_sub ?_ | refine ev_slice ?_ | refine evo_none ?_ | refine evo_some ?_ | refine ev_tuple ?_ | refine ev_list ?_ | refine evl_nil ?_ | refine op_add ?_ | refine op_sub ?_ | refine op_lt ?_ | refine op_gt ?_ | refine op_le ?_ | refine op_eq ?_ | refine op_ne ?_ | refine op_eq_str ?_ | refine op_ne_str ?_ | refine op_max ?_ | refine op_min ?_ | refine op_abs ?_ | refine op_mod (by first | decide | walk_at "om") ?_ | refine op_div (by first | decide | walk_at "om") (by first | decide | walk_at "om") ?_ | refine op_len_str (by first | decide | walk_at "om") ?_ | refine op_cat (by first | decide | walk_at "om") ?_ | refine truth_bool ?_ | refine tst_cmp (by kernel_rfl) ?_ | refine ev_cmp (by kernel_rfl) ?_ | refine tst_not ?_ | fail "none") | ((with_reducible show EvL _ _ _ _ (_ :: _) _); refine evl_cons ?_) | ((with_reducible show Ev _ _ _ (.Call (.Attribute _ _ _) _ [] _) _); refine ev_meth ?_) | fail "none")))
  refine op_str_acc (f := 74) (C := 100) (d := d) (ds := row.map dpair) (by walk_at "has") (by kernel_rfl) (by kernel_rfl) (by show 10 + 2 < cLine; decide) (str08 (ps := row) rfl (by show callerA.depth + 1 ≤ 800; decide) (by show callerA.units + 3 + 1 + 1 ≤ 8000; decide) (by walk_at "has") (by walk_at "has") hfit (by omega) ⟨_, rfl, ?_⟩)
  (repeat' ((first | (with_reducible first | refine ev_bin ?_ | refine ev_int ?_ | refine ev_str ?_ | refine ev_bool ?_ | refine ev_none ?_ | walk_at "name" | walk_at "fn" | refine ev_sub ?_ | refine ev_slice ?_ | refine evo_none ?_ | refine evo_some ?_ | refine ev_tuple ?_ | refine ev_list ?_ | refine evl_nil ?_ | refine op_add ?_ | refine op_sub ?_ | refine op_lt ?_ | refine op_gt ?_ | refine op_le ?_ | refine op_eq ?_ | refine op_ne ?_ | refine op_eq_str ?_ | refine op_ne_str ?_ | refine op_max ?_ | refine op_min ?_ | refine op_abs ?_ | refine op_mod (by first | decide | walk_at "om") ?_ | refine op_div (by first | decide | walk_at "om") (by first | decide | walk_at "om") ?_ | refine op_len_str (by first | decide | walk_at "om") ?_ | refine op_cat (by first | decide | walk_at "om") ?_ | refine truth_bool ?_ | refine tst_cmp (by kernel_rfl) ?_ | refine ev_cmp (by kernel_rfl) ?_ | refine tst_not ?_ | fail "none") | ((with_reducible show EvL _ _ _ _ (_ :: _) _); refine evl_cons ?_) | ((with_reducible show Ev _ _ _ (.Call (.Attribute _ _ _) _ [] _) _); refine ev_meth ?_) | fail "none")))
  refine meth_str (i := "str.join") (fun h => GM.join h) (by kernel_rfl) (evl_cons (ev_comp [] rfl ⟨rfl, rfl, by decide, by decide, fun _ => rfl⟩ (it_list ?_)))
  walk_at "name"
  refine ⟨_, row.map dpair, rfl, by walk_at "has", ?_⟩
  refine comp_pure (fun p => some (.str (p.1 ++ p.2))) (by walk_at "has") (by omega) (fun C ac p res hp => ?_) ?_
  · intro _
    have tp := hfit p hp
    refine as_tuple (by kernel_rfl) rfl (as_name (by kernel_rfl) .new (as_name (by kernel_rfl) (by (repeat (first | with_reducible exact SetL.here | with_reducible exact SetL.new | (with_reducible apply SetL.there; (focus (dsimp only; decide)))))) ?_))
    show Ev _ _ _ _ _
    (repeat' ((first | (with_reducible first | refine ev_bin ?_ | refine ev_int ?_ | refine ev_str ?_ | refine ev_bool ?_ | refine ev_none ?_ | walk_at "name" | walk_at "fn" | refine ev_sub ?_ | refine ev_slice ?_ | refine evo_none ?_ | refine evo_some ?_ | refine ev_tuple ?_ | refine ev_list ?_ | refine evl_nil ?_ | refine op_add ?_ | refine op_sub ?_ | refine op_lt ?_ | refine op_gt ?_ | refine op_le ?_ | refine op_eq ?_ | refine op_ne ?_ | refine op_eq_str ?_ | refine op_ne_str ?_ | refine op_max ?_ | refine op_min ?_ | refine op_abs ?_ | refine op_mod (by first | decide | walk_at "om") ?_ | refine op_div (by first | decide | walk_at "om") (by first | decide | walk_at "om") ?_ | refine op_len_str (by first | decide | walk_at "om") ?_ | refine op_cat (by first | decide | walk_at "om") ?_ | refine truth_bool ?_ | refine tst_cmp (by kernel_rfl) ?_ | refine ev_cmp (by kernel_rfl) ?_ | refine tst_not ?_ | fail "none") | ((with_reducible show EvL _ _ _ _ (_ :: _) _); refine evl_cons ?_) | ((with_reducible show Ev _ _ _ (.Call (.Attribute _ _ _) _ [] _) _); refine ev_meth ?_) | fail "none")))
    exact ⟨rfl, List.Sublist.refl _⟩
  intro lj
  rw [show (row.filterMap fun p => some (Dv.str (p.1 ++ p.2))) = (row.map fun p => p.1 ++ p.2).map .str by rw [List.filterMap_eq_map']; simp]
  have htx := txt_le' hfit (k := 40) (by omega)
  refine evl_nil (op_join_list (ys := row.map fun p => p.1 ++ p.2) .here ?_ ?_)
  · have h1 : ((row.map fun p => p.1 ++ p.2).map (·.length)).sum = (txt row).length := (cat_len _).symm
    rw [h1, show (Str.ofString "").length = 0 by kernel_rfl, Nat.mul_zero]
    omega
  rw [show (Str.ofString "") = ⟨#[]⟩ by kernel_rfl, join_cat, show cat (row.map fun p => p.1 ++ p.2) = txt row from rfl]
  (repeat' ((first | (with_reducible first | refine ev_bin ?_ | refine ev_int ?_ | refine ev_str ?_ | refine ev_bool ?_ | refine ev_none ?_ | walk_at "name" | walk_at "fn" | refine ev_sub ?_ | refine ev_slice ?_ | refine evo_none ?_ | refine evo_some ?_ | refine ev_tuple ?_ | refine ev_list ?_ | refine evl_nil ?_ | refine op_add ?_ | refine op_sub ?_ | refine op_lt ?_ | refine op_gt ?_ | refine op_le ?_ | refine op_eq ?_ | refine op_ne ?_ | refine op_eq_str ?_ | refine op_ne_str ?_ | refine op_max ?_ | refine op_min ?_ | refine op_abs ?_ | refine op_mod (by first | decide | walk_at "om") ?_ | refine op_div (by first | decide | walk_at "om") (by first | decide | walk_at "om") ?_ | refine op_len_str (by first | decide | walk_at "om") ?_ | refine op_cat (by first | decide | walk_at "om") ?_ | refine truth_bool ?_ | refine tst_cmp (by kernel_rfl) ?_ | refine ev_cmp (by kernel_rfl) ?_ | refine tst_not ?_ | fail "none") | ((with_reducible show EvL _ _ _ _ (_ :: _) _); refine evl_cons ?_) | ((with_reducible show Ev _ _ _ (.Call (.Attribute _ _ _) _ [] _) _); refine ev_meth ?_) | fail "none")))
  refine ⟨by simp, ?_, ?_⟩
  · intro p hp
    simp only [List.mem_cons, List.not_mem_nil, or_false] at hp
    rcases hp with rfl | rfl | rfl <;> exact HasO.mem (by walk_at "has")
  · exact HasO.mem (by walk_at "has")
theorem law08 {sc0 : Addr} {o0 : Obj} {ns : List Int} (hns : ns.length ≤ 100000) :
    Exs (lf08 w P L fa) [("script", .raw (.ref sc0))] [(L + 1, .cell none), (62, .tab), (69, .tab), (106, .tab), (sc0, .fix o0 (ns.map .int))] (bodyOf (fnOf (K08 P) 109))
      (fun fl loc own => fl = .ret (.bool true) ∧ (∀ p ∈ [((66 : Addr), (62 : Addr)), (73, 69), (108, 106)], (p.2, AObj.tab) ∈ own) ∧ (sc0, AObj.fix o0 (ns.map .int)) ∈ own) := by
  have e1 : (lf08 w P L fa).A.depth ≤ 400 := by show callerA.depth + 1 ≤ 400; decide
  have e2 : (lf08 w P L fa).A.units ≤ 10 := by show callerA.units + 3 ≤ 10; decide
  -- following
  ((refine exs_cons ?_; first | (refine ex_assignS ?hs ?_; (case hs => exact swaps_plain (by rfl))) | refine ex_expr (by kernel_rfl) (by rfl) ?_ | refine ex_if ?_ | refine ex_return ?_ | fail "none"))
  refine ev_dict3 lim08 fun fd hsm => ⟨_, _, by (first | ((with_reducible refine StoreTo.cel (x := "following") (by kernel_rfl) (by with_unfolding_all rfl) (by walk_at "has"))) | ((refine StoreTo.loc (by kernel_rfl) (by (repeat (first | with_reducible exact SetL.here | with_reducible exact SetL.new | (with_reducible apply SetL.there; (focus (dsimp only; decide)))))))) | fail "none"), ?_⟩
  -- size
  ((refine exs_cons ?_; first | (refine ex_assignS ?hs ?_; (case hs => exact swaps_plain (by rfl))) | refine ex_expr (by kernel_rfl) (by rfl) ?_ | refine ex_if ?_ | refine ex_return ?_ | fail "none"))
  (repeat' ((first | (with_reducible first | refine ev_bin ?_ | refine ev_int ?_ | refine ev_str ?_ | refine ev_bool ?_ | refine ev_none ?_ | walk_at "name" | walk_at "fn" | refine ev_sub ?_ | refine ev_slice ?_ | refine evo_none ?_ | refine evo_some ?_ | refine ev_tuple ?_ | refine ev_list ?_ | refine evl_nil ?_ | refine op_add ?_ | refine op_sub ?_ | refine op_lt ?_ | refine op_gt ?_ | refine op_le ?_ | refine op_eq ?_ | refine op_ne ?_ | refine op_eq_str ?_ | refine op_ne_str ?_ | refine op_max ?_ | refine op_min ?_ | refine op_abs ?_ | refine op_mod (by first | decide | walk_at "om") ?_ | refine op_div (by first | decide | walk_at "om") (by first | decide | walk_at "om") ?_ | refine op_len_str (by first | decide | walk_at "om") ?_ | refine op_cat (by first | decide | walk_at "om") ?_ | refine truth_bool ?_ | refine tst_cmp (by kernel_rfl) ?_ | refine ev_cmp (by kernel_rfl) ?_ | refine tst_not ?_ | fail "none") | ((with_reducible show EvL _ _ _ _ (_ :: _) _); refine evl_cons ?_) | ((with_reducible show Ev _ _ _ (.Call (.Attribute _ _ _) _ [] _) _); refine ev_meth ?_) | fail "none")))
  intro s1
  refine sub_fix_slice (ds := ns.map .int) (by walk_at "has") .here .none (.int _) .none (by decide) (by simp; omega) fun l1 => ?_
  rw [pickL_map']
  (repeat' ((first | (with_reducible first | refine ev_bin ?_ | refine ev_int ?_ | refine ev_str ?_ | refine ev_bool ?_ | refine ev_none ?_ | walk_at "name" | walk_at "fn" | refine ev_sub ?_ | refine ev_slice ?_ | refine evo_none ?_ | refine evo_some ?_ | refine ev_tuple ?_ | refine ev_list ?_ | refine evl_nil ?_ | refine op_add ?_ | refine op_sub ?_ | refine op_lt ?_ | refine op_gt ?_ | refine op_le ?_ | refine op_eq ?_ | refine op_ne ?_ | refine op_eq_str ?_ | refine op_ne_str ?_ | refine op_max ?_ | refine op_min ?_ | refine op_abs ?_ | refine op_mod (by first | decide | walk_at "om") ?_ | refine op_div (by first | decide | walk_at "om") (by first | decide | walk_at "om") ?_ | refine op_len_str (by first | decide | walk_at "om") ?_ | refine op_cat (by first | decide | walk_at "om") ?_ | refine truth_bool ?_ | refine tst_cmp (by kernel_rfl) ?_ | refine ev_cmp (by kernel_rfl) ?_ | refine tst_not ?_ | fail "none") | ((with_reducible show EvL _ _ _ _ (_ :: _) _); refine evl_cons ?_) | ((with_reducible show Ev _ _ _ (.Call (.Attribute _ _ _) _ [] _) _); refine ev_meth ?_) | fail "none")))
  refine op_sum .here ?_
  (repeat' ((first | (with_reducible first | refine ev_bin ?_ | refine ev_int ?_ | refine ev_str ?_ | refine ev_bool ?_ | refine ev_none ?_ | walk_at "name" | walk_at "fn" | refine ev_sub ?_ | refine ev_slice ?_ | refine evo_none ?_ | refine evo_some ?_ | refine ev_tuple ?_ | refine ev_list ?_ | refine evl_nil ?_ | refine op_add ?_ | refine op_sub ?_ | refine op_lt ?_ | refine op_gt ?_ | refine op_le ?_ | refine op_eq ?_ | refine op_ne ?_ | refine op_eq_str ?_ | refine op_ne_str ?_ | refine op_max ?_ | refine op_min ?_ | refine op_abs ?_ | refine op_mod (by first | decide | walk_at "om") ?_ | refine op_div (by first | decide | walk_at "om") (by first | decide | walk_at "om") ?_ | refine op_len_str (by first | decide | walk_at "om") ?_ | refine op_cat (by first | decide | walk_at "om") ?_ | refine truth_bool ?_ | refine tst_cmp (by kernel_rfl) ?_ | refine ev_cmp (by kernel_rfl) ?_ | refine tst_not ?_ | fail "none") | ((with_reducible show EvL _ _ _ _ (_ :: _) _); refine evl_cons ?_) | ((with_reducible show Ev _ _ _ (.Call (.Attribute _ _ _) _ [] _) _); refine ev_meth ?_) | fail "none")))
  generalize hf : (pickL ns none (some 1) none).sum % 6 = z
  have h0 : 0 ≤ z := by rw [← hf]; exact Int.emod_nonneg _ (by decide)
  have h6 : z < 6 := by rw [← hf]; exact Int.emod_lt_of_pos _ (by decide : (0 : Int) < 6)
  refine ⟨_, _, by (first | ((with_reducible refine StoreTo.cel (x := "following") (by kernel_rfl) (by with_unfolding_all rfl) (by walk_at "has"))) | ((refine StoreTo.loc (by kernel_rfl) (by (repeat (first | with_reducible exact SetL.here | with_reducible exact SetL.new | (with_reducible apply SetL.there; (focus (dsimp only; decide)))))))) | fail "none"), ?_⟩
  -- acc
  ((refine exs_cons ?_; first | (refine ex_assignS ?hs ?_; (case hs => exact swaps_plain (by rfl))) | refine ex_expr (by kernel_rfl) (by rfl) ?_ | refine ex_if ?_ | refine ex_return ?_ | fail "none"))
  refine ev_call (f := .ref 100) (callee_k (by kernel_rfl)) (by kernel_rfl) ?_
  refine ev_global (by kernel_rfl) (by decide +kernel) (by kernel_rfl) ⟨rfl, ?_⟩
  (repeat' ((first | (with_reducible first | refine ev_bin ?_ | refine ev_int ?_ | refine ev_str ?_ | refine ev_bool ?_ | refine ev_none ?_ | walk_at "name" | walk_at "fn" | refine ev_sub ?_ | refine ev_slice ?_ | refine evo_none ?_ | refine evo_some ?_ | refine ev_tuple ?_ | refine ev_list ?_ | refine evl_nil ?_ | refine op_add ?_ | refine op_sub ?_ | refine op_lt ?_ | refine op_gt ?_ | refine op_le ?_ | refine op_eq ?_ | refine op_ne ?_ | refine op_eq_str ?_ | refine op_ne_str ?_ | refine op_max ?_ | refine op_min ?_ | refine op_abs ?_ | refine op_mod (by first | decide | walk_at "om") ?_ | refine op_div (by first | decide | walk_at "om") (by first | decide | walk_at "om") ?_ | refine op_len_str (by first | decide | walk_at "om") ?_ | refine op_cat (by first | decide | walk_at "om") ?_ | refine truth_bool ?_ | refine tst_cmp (by kernel_rfl) ?_ | refine ev_cmp (by kernel_rfl) ?_ | refine tst_not ?_ | fail "none") | ((with_reducible show EvL _ _ _ _ (_ :: _) _); refine evl_cons ?_) | ((with_reducible show Ev _ _ _ (.Call (.Attribute _ _ _) _ [] _) _); refine ev_meth ?_) | fail "none")))
  refine opN_callT (makeI08 rfl (by omega) (by omega) fun x d => ⟨_, _, by (first | ((with_reducible refine StoreTo.cel (x := "following") (by kernel_rfl) (by with_unfolding_all rfl) (by walk_at "has"))) | ((refine StoreTo.loc (by kernel_rfl) (by (repeat (first | with_reducible exact SetL.here | with_reducible exact SetL.new | (with_reducible apply SetL.there; (focus (dsimp only; decide)))))))) | fail "none"), ?_⟩)
  -- row
  ((refine exs_cons ?_; first | (refine ex_assignS ?hs ?_; (case hs => exact swaps_plain (by rfl))) | refine ex_expr (by kernel_rfl) (by rfl) ?_ | refine ex_if ?_ | refine ex_return ?_ | fail "none"))
  (repeat' (first | (first | (with_reducible first | refine ev_bin ?_ | refine ev_int ?_ | refine ev_str ?_ | refine ev_bool ?_ | refine ev_none ?_ | walk_at "name" | walk_at "fn" | refine ev_sub ?_ | refine ev_slice ?_ | refine evo_none ?_ | refine evo_some ?_ | refine ev_tuple ?_ | refine ev_list ?_ | refine evl_nil ?_ | refine op_add ?_ | refine op_sub ?_ | refine op_lt ?_ | refine op_gt ?_ | refine op_le ?_ | refine op_eq ?_ | refine op_ne ?_ | refine op_eq_str ?_ | refine op_ne_str ?_ | refine op_max ?_ | refine op_min ?_ | refine op_abs ?_ | refine op_mod (by first | decide | walk_at "om") ?_ | refine op_div (by first | decide | walk_at "om") (by first | decide | walk_at "om") ?_ | refine op_len_str (by first | decide | walk_at "om") ?_ | refine op_cat (by first | decide | walk_at "om") ?_ | refine truth_bool ?_ | refine tst_cmp (by kernel_rfl) ?_ | refine ev_cmp (by kernel_rfl) ?_ | refine tst_not ?_ | fail "none") | ((with_reducible show EvL _ _ _ _ (_ :: _) _); refine evl_cons ?_) | ((with_reducible show Ev _ _ _ (.Call (.Attribute _ _ _) _ [] _) _); refine ev_meth ?_) | fail "none") | ((with_reducible show List.length _ ≤ 1000 ∧ _); refine And.intro (Nat.le_of_ble_eq_true rfl) ?_) | fail "none"))
  intro rl
  refine ⟨_, _, by (first | ((with_reducible refine StoreTo.cel (x := "following") (by kernel_rfl) (by with_unfolding_all rfl) (by walk_at "has"))) | ((refine StoreTo.loc (by kernel_rfl) (by (repeat (first | with_reducible exact SetL.here | with_reducible exact SetL.new | (with_reducible apply SetL.there; (focus (dsimp only; decide)))))))) | fail "none"), ?_⟩
  -- the deeds
  refine exs_cons ?_
  refine ex_forI rfl (fun _ => rfl) (it_list ?_)
  (repeat' ((first | (with_reducible first | refine ev_bin ?_ | refine ev_int ?_ | refine ev_str ?_ | refine ev_bool ?_ | refine ev_none ?_ | walk_at "name" | walk_at "fn" | refine ev_sub ?_ | refine ev_slice ?_ | refine evo_none ?_ | refine evo_some ?_ | refine ev_tuple ?_ | refine ev_list ?_ | refine evl_nil ?_ | refine op_add ?_ | refine op_sub ?_ | refine op_lt ?_ | refine op_gt ?_ | refine op_le ?_ | refine op_eq ?_ | refine op_ne ?_ | refine op_eq_str ?_ | refine op_ne_str ?_ | refine op_max ?_ | refine op_min ?_ | refine op_abs ?_ | refine op_mod (by first | decide | walk_at "om") ?_ | refine op_div (by first | decide | walk_at "om") (by first | decide | walk_at "om") ?_ | refine op_len_str (by first | decide | walk_at "om") ?_ | refine op_cat (by first | decide | walk_at "om") ?_ | refine truth_bool ?_ | refine tst_cmp (by kernel_rfl) ?_ | refine ev_cmp (by kernel_rfl) ?_ | refine tst_not ?_ | fail "none") | ((with_reducible show EvL _ _ _ _ (_ :: _) _); refine evl_cons ?_) | ((with_reducible show Ev _ _ _ (.Call (.Attribute _ _ _) _ [] _) _); refine ev_meth ?_) | fail "none")))
  intro s3
  refine sub_fix_slice (ds := ns.map .int) (by walk_at "has") .here .none (.int _) .none (by decide) (by simp; omega) fun l3 => ?_
  rw [pickL_map', show (40 : Int) = ((40 : Nat) : Int) from rfl, pickL_upto]
  have hm : (ns.take 40).length ≤ 40 := by rw [List.length_take]; omega
  generalize ns.take 40 = ms at hm
  refine ⟨l3, ms.map .int, rfl, by walk_at "has", fun j loc own => ∃ rl sz row, Good08 j sz row ∧ (loc08 sc0 x rl sz []).Sublist loc ∧ Pk (own08 w L x d rl fd sz row row [(sc0, .fix o0 (ns.map .int)), (l3, .list (ms.map .int))]) own,
    ⟨rl, 1 + z, [], ⟨by omega, by omega, Nat.le_refl _, fun p hp => nomatch hp⟩, by (repeat (first | with_reducible exact List.Sublist.refl _ | with_reducible apply List.Sublist.cons_cons | with_reducible apply List.Sublist.cons | exact List.nil_sublist _)), ?_⟩, ?_, ?_, ?_⟩
  · exact ⟨[3, 4, 9, 10, 11, 8, 7, 2, 12, 0], by decide, rfl⟩
  · rintro j loc own ⟨rl, sz, row, hg, sl, so⟩
    exact so.has (by walk_at "has")
  · rintro j dv loc own hd ⟨rl, sz, row, hg, sl, so⟩
    rw [List.getElem?_map] at hd
    cases hx : ms[j]? with
    | none => rw [hx] at hd; cases hd
    | some v =>
      rw [hx] at hd
      cases hd
      have hj : j < ms.length := (List.getElem?_eq_some_iff.mp hx).1
      intro _
      refine as_pk sl so ?_
      refine as_name (by kernel_rfl) (by (repeat (first | with_reducible exact SetL.here | with_reducible exact SetL.new | (with_reducible apply SetL.there; (focus (dsimp only; decide)))))) ?_
      refine exs_mono' (turn08 hsm hg (by omega)) fun fl loc own q => ?_
      obtain ⟨rfl, h⟩ := q
      exact h
  rintro loc own ⟨rl, sz, row, hg, sl, so⟩
  rw [List.length_map] at hg
  refine exs_nil (exs_pk sl so ?_)
  exact end08 hg hm

end Mine
end
open PySem PySem.W PyProof.Rows
set_option maxRecDepth 100000 in
set_option maxHeartbeats 8000000 in
theorem PySem.Challenge.cw_dm0090_08_holds : PySem.Challenge.rw_dm0090_08.Holds := by
  letI hI : Membership Nat Unit := ⟨fun _ _ => False⟩
  refine Mine.hd08 ?_
  intro w s₀ s₁ mg mb G Y fa o pm cd doc dV kV ho hd hcd hD hmg hg args vals as hpre hlay hrd hwl hlo
  have KX : (Mine.K08 w.params).In s₁.heap := km_in_of Y
  have hTabs := km_tabs_of Y
  refine Ground.open G ?_
  intro T B D TE TW
  try (refine guard_noD D (by decide +kernel) ?_; clear D)
  have hM := bmod_of_top T
  have he9 : cd = PySem.Value.ref 108 := law_code (x := PySem.Str.ofString "law") (c := 108) (P := 106) KX (Top.g T) (by kernel_rfl) hmg ho hd
  subst he9
  clear hmg
  wrow_args hpre hlay hrd hwl hlo
  first | refine callC_kw (enter_call ?_) | refine enter_call ?_ | refine callC_kw (enter_callW ?_) | refine enter_callW ?_ | w_how
  w_top on
  have he := Dflts.none hD rfl; subst he; have he := Dflts.noKw hD; subst he
  refine call_cellsN (by decide) ho (fd_plain hd) (Top.nolimit T) hcd rfl (kinds_of (by kinds_ok)) (by decide) fun h₁ tk₁ cells F N0 X0 => ?_
  have hTab0 : s₁.heap.TableAt 66 62 #[] := ⟨⟨_, _, KX 66 _ rfl, rfl, rfl, rfl⟩, hTabs 62 (by simp)⟩
  have hTab1 : s₁.heap.TableAt 73 69 #[] := ⟨⟨_, _, KX 73 _ rfl, rfl, rfl, rfl⟩, hTabs 69 (by simp)⟩
  have hTab2 : s₁.heap.TableAt 108 106 #[] := ⟨⟨_, _, KX 108 _ rfl, rfl, rfl, rfl⟩, hTabs 106 (by simp)⟩
  refine Mine.law_joinC (K := Mine.K08 w.params) (tabs := [(66, 62), (73, 69), (108, 106)]) (hk := rfl) F N0 X0 (fun _ => rfl) (by first | (simp [cellsFrom]; done) | (simp [cellsFrom]; omega)) rfl KX T.b T.builtins ⟨_, hM⟩ (by assumption) (by assumption) (fun p hp => ?_) (by simp) (fun p hp => ?_) ?_ hg (Mine.mk0 0) Mine.mk0_ok (fun _ z => z) (fun _ => rfl) ?_ fun o => ?_
  · simp only [List.mem_cons, List.not_mem_nil, or_false] at hp
    rcases hp with rfl | rfl | rfl
    · exact hTab0
    · exact hTab1
    · exact hTab2
  · simp only [List.mem_cons, List.not_mem_nil, or_false] at hp
    rcases hp with rfl | rfl | rfl <;> kernel_rfl
  · exact Mine.noList_of (by kernel_rfl)
  · first | rfl | wrow_post
  · refine Mine.law08 ?_
    omega
