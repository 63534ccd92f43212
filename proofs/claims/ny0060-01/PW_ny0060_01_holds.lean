import PyProof.Rows.All
import Wide.All
import OpenK.AllK
import Wide.FinOn
import PySem.Challenge.RW_ny0060_01
set_option Elab.async false
set_option maxRecDepth 100000
set_option linter.all false

section
set_option maxHeartbeats 4000000
namespace Mine
open PySem PySem.W PyProof.Rows PySem.Builtin PySem.Builtin.ObjectAttr

theorem hid {G : Prop} (k : ∀ P : Prop, (G → P) → P) : G := k G id
theorem fn_slot_get : Slot "function" "__getattribute__" "object.__getattribute__" :=
  .of (owner := "object") (n := "__getattribute__") (by rw [typeLookup_type, builtinLookup_eq_fast]; kernel_rfl) (by kernel_rfl) (by kernel_rfl) (by kernel_rfl) (by left; kernel_rfl) (by rw [isSubtype_type]; kernel_rfl)
theorem fn_slot_set : Slot "function" "__setattr__" "object.__setattr__" :=
  .of (owner := "object") (n := "__setattr__") (by rw [typeLookup_type, builtinLookup_eq_fast]; kernel_rfl) (by kernel_rfl) (by kernel_rfl) (by kernel_rfl) (by left; kernel_rfl) (by rw [isSubtype_type]; kernel_rfl)
theorem fn_no_getattr : typeLookup (.type "function") "__getattr__" = pure none := by rw [typeLookup_type, builtinLookup_eq_fast]; kernel_rfl
theorem fn_no_search : typeLookup (.type "function") "search" = pure none := by rw [typeLookup_type, builtinLookup_eq_fast]; kernel_rfl
theorem fn_no_span : typeLookup (.type "function") "span" = pure none := by rw [typeLookup_type, builtinLookup_eq_fast]; kernel_rfl
theorem fn_no_bool : typeLookup (.type "function") "__bool__" = pure none := by rw [typeLookup_type, builtinLookup_eq_fast]; kernel_rfl
theorem fn_no_len : typeLookup (.type "function") "__len__" = pure none := by rw [typeLookup_type, builtinLookup_eq_fast]; kernel_rfl
end Mine
end

section
set_option maxHeartbeats 4000000
namespace Mine
open PySem PySem.W PyProof.Rows PySem.Builtin PySem.Builtin.ObjectAttr

section
variable {prog : Program} {w : World} {A : Around} {E : Value → Shared → Prop} {s : Shared}

/- a function object that bears a dict of its own -/
noncomputable def FnDict (h : Heap) (x d : Addr) (fd : FuncData) (md : Str → Option Value) : Prop :=
  (∃ sl, h.get? x = some ⟨.type "function", some d, .func fd, sl⟩) ∧ h.Ns d md

theorem fn_get_entry {x d : Addr} {fd : FuncData} {md : Str → Option Value} {name : Str} {u : Tok} {v : Value} {Q : Fin → Shared → Prop}
    (hx : FnDict s.heap x d fd md) (hno : typeLookup (.type "function") name = pure none) (hv : md name = some v) (h : Q (.done (.ret v)) s) :
    wpAny (model prog w) A (Builtin.«object.__getattribute__» ⟨[.ref x, .str name u], []⟩) Q E s := by
  refine hid fun Gx hGx => ?_
  obtain ⟨⟨sl, ho⟩, hn⟩ := hx
  obtain ⟨hp, g, dr, tk, os⟩ := s
  refine hGx ?_
  clear hGx Gx
  dsimp only at ho hn
  have hT : (⟨hp, g, dr, tk, os⟩ : Shared).TypeIs (.ref x) "function" := ⟨_, ho, rfl⟩
  unfold Builtin.«object.__getattribute__»
  repeat (any_goals (first | assumption | (with_reducible refine wpAny_nsGet hn ?_; rw [hv]) | wp_step))

theorem fn_getAttr {x d : Addr} {fd : FuncData} {md : Str → Option Value} {name : Str} {v : Addr} {b : Bool} {Q : Value → Shared → Prop}
    (hx : FnDict s.heap x d fd md) (hno : typeLookup (.type "function") name = pure none) (hv : md name = some (.ref v)) (h : ∀ tk, Q (.ref v) { s with toks := tk }) :
    wpAny (model prog w) A (getAttr (.ref x) name b) Q E s := by
  refine hid fun Gx hGx => ?_
  obtain ⟨⟨sl, ho⟩, hn⟩ := id hx
  obtain ⟨hp, g, dr, tk, os⟩ := s
  refine hGx ?_
  clear hGx Gx
  dsimp only at ho hn h
  have hT : ∀ tk', (⟨hp, g, dr, tk', os⟩ : Shared).TypeIs (.ref x) "function" := fun _ => ⟨_, ho, rfl⟩
  have f3 := fn_slot_get.lookup
  have f4 := fn_slot_get.bind (.ref x)
  have f5 := fn_no_getattr
  unfold getAttr getAttrBy
  repeat (any_goals (first | assumption | (with_reducible refine wpAny_typeOf (hT _) ?_) | ((with_reducible show wpAny _ _ (call (Value.builtin "object.__getattribute__") _ _) _ _ _); refine wpAny_call_entry fn_slot_get (hT _) F.entry_object_getattribute (fn_get_entry hx hno hv ?_) (F.args_object_getattribute_2 _ _)) | wp_step))
  rw [show (b && onTheHeap (Value.builtin "object.__getattribute__")) = false from by cases b <;> rfl]
  simp only [Bool.false_eq_true, if_false]
  unfold boundAndCalled
  repeat (any_goals (first | assumption | (with_reducible refine wpAny_typeOf (hT _) ?_) | ((with_reducible show wpAny _ _ (call (Value.builtin "object.__getattribute__") _ _) _ _ _); refine wpAny_call_entry fn_slot_get (hT _) F.entry_object_getattribute (fn_get_entry hx hno hv ?_) (F.args_object_getattribute_2 _ _)) | wp_step))
  refine ⟨_, rfl, ?_⟩
  exact wpAny_pure (h _)

theorem fn_getMethod {x d : Addr} {fd : FuncData} {md : Str → Option Value} {name : Str} {v : Addr} {pl : Sem Bool} {Q : Value × List Value → Shared → Prop}
    (hx : FnDict s.heap x d fd md) (hno : typeLookup (.type "function") name = pure none) (hv : md name = some (.ref v)) (h : ∀ tk, Q (.ref v, []) { s with toks := tk }) :
    wpAny (model prog w) A (getMethod (.ref x) name pl) Q E s := by
  refine hid fun Gx hGx => ?_
  obtain ⟨⟨sl, ho⟩, hn⟩ := id hx
  obtain ⟨hp, g, dr, tk, os⟩ := s
  refine hGx ?_
  clear hGx Gx
  dsimp only at ho hn h
  have hT : ∀ tk', (⟨hp, g, dr, tk', os⟩ : Shared).TypeIs (.ref x) "function" := fun _ => ⟨_, ho, rfl⟩
  have f3 := fn_slot_get.lookup
  have f5 := fn_no_getattr
  unfold getMethod
  repeat (any_goals (first | assumption | (with_reducible refine wpAny_specialOf (hT _) f3 ?_) | (with_reducible refine wpAny_specialOf (hT _) f5 ?_) | (with_reducible refine wpAny_specialOf (hT _) hno ?_) | ((with_reducible show wpAny _ _ (getAttr _ _ _) _ _ _); refine fn_getAttr hx hno hv ?_; intro tk') | wp_step))
  exact h _

theorem fn_truthy {x : Addr} {o : Obj} {Q : Bool → Shared → Prop} (hx : s.heap.get? x = some o) (hc : o.cls = .type "function") (h : Q true s) :
    wpAny (model prog w) A (truthy (.ref x)) Q E s := by
  refine hid fun Gx hGx => ?_
  obtain ⟨hp, g, dr, tk, os⟩ := s
  refine hGx ?_
  clear hGx Gx
  have hT : ∀ tk', (⟨hp, g, dr, tk', os⟩ : Shared).TypeIs (.ref x) "function" := fun _ => ⟨_, hx, hc⟩
  unfold truthy callSpecial?
  repeat (any_goals (first | assumption | (with_reducible refine wpAny_specialOf (hT _) fn_no_bool ?_) | (with_reducible refine wpAny_specialOf (hT _) fn_no_len ?_) | wp_step))

theorem fn_refuse (self : Value) : refuseLoop self "__setattr__" [.type "function", .type "object"] = pure () := by
  unfold refuseLoop
  kernel_rfl
theorem fn_entry_set : entryFor table "object.__setattr__" = some Builtin.«object.__setattr__» := entryFor_of_tree (by kernel_rfl)
theorem fn_args_set (a b c : Value) : argsOk "object.__setattr__" ⟨[a, b, c], []⟩ := by kernel_rfl
theorem fn_mro : mroOf (.type "function") = pure [.type "function", .type "object"] := by kernel_rfl

theorem fn_store_new {d : Addr} {name : Str} {u : Tok} {v : Value} {Q : Fin → Shared → Prop} (hn : s.heap.Ns d (fun _ => none))
    (h : ∀ h' tk, h'.Ns d (fun y => if y = name then some v else none) → Heap.SameBut d s.heap h' → Q (.done (.ret .none)) { s with heap := h', toks := tk }) :
    wpAny (model prog w) A (storeInDict d (.str name u) name v) Q E s := by
  refine hid fun Gx hGx => ?_
  obtain ⟨hp, g, dr, tk, os⟩ := s
  refine hGx ?_
  clear hGx Gx
  unfold storeInDict newKeyGuard
  refine wpAny_bind (wpAny_pure (wpAny_bind (wpAny_nsSet1 (Heap.Ns1.of_empty hn) fun h' hn' hs => ?_)))
  refine hid fun Gx hGx => ?_
  obtain ⟨oD, esD, epD, hoD, hdD, hcD⟩ := hn'.count (Within.cons name v Within.nil)
  refine hGx ?_
  clear hGx Gx
  refine wpAny_bind (wpAny_lookBehind hoD (by rw [hdD]; exact pastItsLine_dict (Nat.le_trans hcD (by rw [List.length_cons, List.length_nil, sizeLine_eq]; lia))) ?_)
  wp_walk
  refine hid fun Gx hGx => ?_
  obtain ⟨o', es, ep, e1, e2, e3, eu, e4⟩ := hn'
  refine hGx ?_
  clear hGx Gx
  exact h h' _ ⟨o', es, ep, e1, e2, e3, e4⟩ hs

theorem fn_set_entry {x : Addr} {fd : FuncData} {sl : Array (Option Value)} {name : Str} {u : Tok} {v : Value} {Q : Fin → Shared → Prop}
    (hx : s.heap.get? x = some ⟨.type "function", none, .func fd, sl⟩) (hno : typeLookup (.type "function") name = pure none)
    (h : ∀ h' tk, h'.get? x = some ⟨.type "function", some s.heap.objs.size, .func fd, sl⟩ → h'.Ns s.heap.objs.size (fun y => if y = name then some v else none) →
      (∀ b o, b ≠ x → s.heap.get? b = some o → h'.get? b = some o) → Q (.done (.ret .none)) { s with heap := h', toks := tk }) :
    wpAny (model prog w) A (Builtin.«object.__setattr__» ⟨[.ref x, .str name u, v], []⟩) Q E s := by
  refine hid fun Gx hGx => ?_
  obtain ⟨hp, g, dr, tk, os⟩ := s
  refine hGx ?_
  clear hGx Gx
  dsimp only at hx h
  have hT : ∀ tk', (⟨hp, g, dr, tk', os⟩ : Shared).TypeIs (.ref x) "function" := fun _ => ⟨_, hx, rfl⟩
  have hpass := fn_refuse (.ref x)
  have hm := fn_mro
  have hxs : x ≠ hp.objs.size := Nat.ne_of_lt (Heap.lt_size hx)
  have hx₁ : (hp.push { cls := .type "dict", data := .dict #[] }).get? x = some ⟨.type "function", none, .func fd, sl⟩ := Heap.get?_push_of_some _ hx
  have hgd : ((hp.push { cls := .type "dict", data := .dict #[] }).update x fun o => { cls := o.cls, dict := some hp.objs.size, data := o.data, slots := o.slots }).get? hp.objs.size
      = some { cls := .type "dict", data := .dict #[] } := (Heap.get?_update_ne _ _ _ _ hxs.symm).trans (Heap.get?_push_at rfl rfl)
  have hnd : ((hp.push { cls := .type "dict", data := .dict #[] }).update x fun o => { cls := o.cls, dict := some hp.objs.size, data := o.data, slots := o.slots }).Ns hp.objs.size (fun _ => none) :=
    ⟨_, #[], _, hgd, rfl, fun e he => absurd he (by simp), fun _ => rfl⟩
  unfold Builtin.«object.__setattr__»
  repeat (any_goals (first | assumption | rw [refuse_eq] | (rw [hpass]) | (with_reducible refine wpAny_typeOf (hT _) ?_) | ((with_reducible show wpAny _ _ (storeInDict _ _ _ _) _ _ _); refine fn_store_new hnd ?_; intro h' tk' hn' hs) | wp_step))
  refine h h' tk' ((hs.2 x hxs).trans (Heap.get?_update_self _ hx₁ rfl)) hn' fun b ob hbx hb => ?_
  exact (hs.2 b (Nat.ne_of_lt (Heap.lt_size hb))).trans ((Heap.get?_update_ne _ _ _ _ hbx).trans (Heap.get?_push_of_some _ hb))

theorem fn_setAttr {x : Addr} {fd : FuncData} {sl : Array (Option Value)} {name : Str} {v : Value} {Q : Unit → Shared → Prop}
    (hx : s.heap.get? x = some ⟨.type "function", none, .func fd, sl⟩) (hno : typeLookup (.type "function") name = pure none)
    (h : ∀ h' tk, h'.get? x = some ⟨.type "function", some s.heap.objs.size, .func fd, sl⟩ → h'.Ns s.heap.objs.size (fun y => if y = name then some v else none) →
      (∀ b o, b ≠ x → s.heap.get? b = some o → h'.get? b = some o) → Q () { s with heap := h', toks := tk }) :
    wpAny (model prog w) A (setAttr (.ref x) name v) Q E s := by
  refine hid fun Gx hGx => ?_
  obtain ⟨hp, g, dr, tk, os⟩ := s
  refine hGx ?_
  clear hGx Gx
  dsimp only at hx h
  have hT : ∀ tk', (⟨hp, g, dr, tk', os⟩ : Shared).TypeIs (.ref x) "function" := fun _ => ⟨_, hx, rfl⟩
  unfold setAttr
  refine wpAny_bind (wpAny_mkText ?_)
  refine wpAny_bind (wpAny_callSpecial?_slot (hT _) fn_slot_set ?_)
  refine wpAny_call_entry fn_slot_set (hT _) fn_entry_set (fn_set_entry hx hno fun h' tk' e1 e2 e3 => ?_) (fn_args_set _ _ _)
  exact ⟨_, rfl, wpAny_pure (h h' tk' e1 e2 e3)⟩
end
end Mine
end

section
set_option maxHeartbeats 4000000
namespace Mine
open PySem PySem.W PyProof.Rows PySem.Builtin PySem.Builtin.ObjectAttr

theorem codeAmong_more {pos q : Pos} {c : Value} : ∀ (l : List Value), TriplesOk l → ∀ {cv : Value}, codeAmong q (l ++ [rawInt pos.line, rawInt pos.col, c]) = some cv →
    codeAmong q l = some cv ∨ (codeAmong q l = none ∧ pos.line = q.line ∧ pos.col = q.col ∧ cv = c) := by
  intro l h
  fun_induction TriplesOk l with
  | case1 =>
    intro cv hc
    simp only [List.nil_append, codeAmong, rawInt] at hc
    split at hc
    · rename_i h1
      simp only [Bool.and_eq_true, beq_iff_eq] at h1
      refine .inr ⟨rfl, ?_, ?_, (Option.some.inj hc).symm⟩
      · exact_mod_cast h1.1
      · exact_mod_cast h1.2
    · cases hc
  | case2 a t b u x rest ih =>
    intro cv hc
    simp only [List.cons_append, codeAmong] at hc ⊢
    split at hc
    · rename_i h1; rw [if_pos h1]; exact .inl hc
    · rename_i h1; rw [if_neg h1]; exact ih h hc
  | case3 l h1 h2 => exact h.elim

/- what a function made has, by way of its code -/
inductive CodeMade (h h' : Heap) (pos : Pos) (qual : Str) (ps ps' : Array Value) (cv : Value) : Prop
  | hit : codeAmong pos ps.toList = some cv → ps' = ps → CodeMade h h' pos qual ps ps' cv
  | new {c' P' : Addr} : codeAmong pos ps.toList = none → ps' = ps ++ #[rawInt pos.line, rawInt pos.col, cv] → cv = .ref c' → h'.CodeRec cv qual → CodeHd h' c' P' → h'.get? P' = some (tabObj #[]) → h.objs.size ≤ P' →
      CodeMade h h' pos qual ps ps' cv

noncomputable abbrev fnAny (name qual : Str) (params : Arguments) (body : FuncBody) (scope : Scope) (cl : List (Str × Addr)) (dV doc pm cdv ct : Value) : FuncData :=
  { name, qualname := qual, params, body, scope, globals := mainGlobals, closure := cl, defaults := dV, kwdefaults := .none, doc, pyModule := pm, annotations := none, code := cdv, closureTuple := ct, builtins := builtinsNs }
noncomputable abbrev fnObj (fd : FuncData) : Obj := { cls := .type "function", data := .func fd }

noncomputable def docV (body : FuncBody) : Sem Value := match body with
  | .stmts b => (match docOf b with | some s => mkText s | none => pure .none)
  | .expr _ => pure .none
theorem docV_none {body : FuncBody} (hdoc : ∀ b, body = .stmts b → docOf b = none) : docV body = pure .none := by
  cases body with
  | stmts b => simp only [docV, hdoc b rfl]
  | expr e => rfl

section
variable {M : Model} {A : Around} {E : Value → Shared → Prop} {s : Shared} {name qual : Str} {params : Arguments} {body : FuncBody} {scope : Scope} {env : Env} {c P : Addr} {ps : Array Value} {pos : Pos} {firstLine : Nat} {mg : Str → Option Value}
  {clos : List (Str × Addr)} {dV : Value} {Q : Value → Shared → Prop}

theorem makeTail_any (hcl : closureFor scope env = pure clos) (hge0 : env.globals = mainGlobals) (hg : s.heap.Ns mainGlobals mg) (hcode : env.code = .ref c) (C : CodeHd s.heap c P) (hP : s.heap.get? P = some (tabObj ps)) (ht : TriplesOk ps.toList)
    (hgP : mainGlobals ≠ P) (hb : s.heap.BuiltinsAt mg P) (hdoc : ∀ b, body = .stmts b → docOf b = none)
    (h : ∀ cv ctv h' tk ps', (∀ b o, b ≠ P → s.heap.get? b = some o → h'.get? b = some o) → s.heap.objs.size ≤ h'.objs.size → h'.get? P = some (tabObj ps') → TriplesOk ps'.toList → CodeMade s.heap h' pos qual ps ps' cv →
      Q (.ref h'.objs.size) { s with heap := h'.push (fnObj (fnAny name qual params body scope clos dV .none ((mg "__name__").getD .none) cv ctv)), toks := tk }) :
    wpAny M A (makeTail name qual params body scope env dV .none none pos firstLine) Q E s := by
  refine hid fun Gx hGx => ?_
  obtain ⟨bm, ob, hbm, hne0, _, hneP, hbo, hcls, hdict, hdata⟩ := hb
  refine hGx ?_
  clear hGx Gx
  have tailOk : ∀ (ctv : Value) (h₁ : Heap), (∀ b o, s.heap.get? b = some o → h₁.get? b = some o) → s.heap.objs.size ≤ h₁.objs.size →
      wpAny M A (do
        let cd ← functionCode env pos firstLine name qual params scope body
        let bl ← builtinsFor mainGlobals env.builtins
        let nm ← nsGet mainGlobals "__name__"
        let dc ← docV body
        newObj (.type "function") (.func { name, qualname := qual, params, body, scope, globals := mainGlobals, closure := clos, closureTuple := ctv, code := cd, builtins := bl, defaults := dV, kwdefaults := .none, annotations := none, pyModule := nm.getD .none, doc := dc })) Q E { s with heap := h₁ } := by
    intro ctv h₁ hk hsz
    have hP₁ := hk _ _ hP
    have C₁ := C.keeps hk
    have hg₁ := hg.keeps hk
    have fin : ∀ (cv : Value) (h' : Heap) (tk : Nat), h'.Ns mainGlobals mg → h'.get? bm = some ob →
        Q (.ref h'.objs.size) { s with heap := h'.push (fnObj (fnAny name qual params body scope clos dV .none ((mg "__name__").getD .none) cv ctv)), toks := tk } →
        wpAny M A (do
          let bl ← builtinsFor mainGlobals env.builtins
          let nm ← nsGet mainGlobals "__name__"
          let dc ← docV body
          newObj (.type "function") (.func { name, qualname := qual, params, body, scope, globals := mainGlobals, closure := clos, closureTuple := ctv, code := cv, builtins := bl, defaults := dV, kwdefaults := .none, annotations := none, pyModule := nm.getD .none, doc := dc })) Q E { s with heap := h', toks := tk } := by
      intro cv h' tk hg' hbo' hq
      refine wpAny_bind (wpAny_builtinsFor hg' hbm hne0 hbo' hcls hdict hdata ?_)
      refine wpAny_bind (wpAny_nsGet hg' ?_)
      have hd : docV body = pure .none := docV_none hdoc
      rw [hd]
      exact wpAny_bind (wpAny_pure (wpAny_newObj_type hq (by size_fits)))
    cases hf : codeAmong pos ps.toList with
    | some cv =>
      refine wpAny_bind (wpAny_functionCode_hit hcode (C₁.code hP₁ ht) hf ?_)
      exact fin cv h₁ s.toks hg₁ (hk _ _ hbo) (h cv ctv h₁ s.toks ps (fun b o _ e => hk b o e) hsz hP₁ ht (.hit hf rfl))
    | none =>
      refine wpAny_bind (wpAny_functionCodeX hcode (C₁.code hP₁ ht) (C₁.tab hP₁) hf fun c' h' tk hx hge hlt hok hrec htb hnew => ?_)
      refine hid fun Gx hGx => ?_
      obtain ⟨P', hP', hi, ht'⟩ := hnew
      refine hGx ?_
      clear hGx Gx
      refine fin (.ref c') h' tk (hg₁.extBut hx hgP) (hx _ _ hneP (hk _ _ hbo)) (h (.ref c') ctv h' tk _ (fun b o hb' e => hx b o hb' (hk b o e)) (Nat.le_trans hsz (Nat.le_trans hge (Nat.le_of_lt hlt))) htb.2 ?_
        (.new hf rfl rfl hrec (CodeHd.of hi ht') ht'.2 (Nat.le_trans hsz hP')))
      rw [Array.toList_append]
      exact TriplesOk_snoc _ _ _ _ ht
  unfold makeTail
  rw [hcl, hge0]
  refine wpAny_bind (wpAny_pure ?_)
  cases clos with
  | nil =>
    simp only [List.isEmpty_nil, if_true]
    have key := tailOk .none s.heap (fun _ _ e => e) (Nat.le_refl _)
    refine wpAny_bind (wpAny_pure ?_)
    cases body <;> exact key
  | cons q r =>
    simp only [List.isEmpty_cons, Bool.false_eq_true, if_false]
    refine wpAny_bind (wpAny_newTextTuple ?_)
    have key := tailOk (.ref s.heap.objs.size) (s.heap.push { cls := .type "tuple", data := .seq (List.map (fun x => Value.ref x.2) ((q :: r).mergeSort fun a b => decide (a.1.cps.toList ≤ b.1.cps.toList))).toArray }) (fun b o e => Heap.get?_push_of_some _ e) (by rw [Heap.size_push]; lia)
    cases body <;> exact key

theorem makeFn_plain (hcl : closureFor scope env = pure clos) (hge0 : env.globals = mainGlobals) (hg : s.heap.Ns mainGlobals mg) (hcode : env.code = .ref c) (C : CodeHd s.heap c P) (hP : s.heap.get? P = some (tabObj ps)) (ht : TriplesOk ps.toList)
    (hgP : mainGlobals ≠ P) (hb : s.heap.BuiltinsAt mg P) (hdoc : ∀ b, body = .stmts b → docOf b = none)
    (h : ∀ cv ctv h' tk ps', (∀ b o, b ≠ P → s.heap.get? b = some o → h'.get? b = some o) → s.heap.objs.size ≤ h'.objs.size → h'.get? P = some (tabObj ps') → TriplesOk ps'.toList → CodeMade s.heap h' pos qual ps ps' cv →
      Q (.ref h'.objs.size) { s with heap := h'.push (fnObj (fnAny name qual params body scope clos .none .none ((mg "__name__").getD .none) cv ctv)), toks := tk }) :
    wpAny M A (makeFunction name qual params body scope env [] [] [] pos firstLine) Q E s := by
  rw [makeFunction_eq]
  simp only [List.zip_nil_right, List.filterMap_nil, List.isEmpty_nil, if_true, pure_bind]
  exact makeTail_any hcl hge0 hg hcode C hP ht hgP hb hdoc h

theorem makeFn_dflt {v0 : Value} (hcl : closureFor scope env = pure clos) (hge0 : env.globals = mainGlobals) (hg : s.heap.Ns mainGlobals mg) (hcode : env.code = .ref c) (C : CodeHd s.heap c P) (hP : s.heap.get? P = some (tabObj ps)) (ht : TriplesOk ps.toList)
    (hgP : mainGlobals ≠ P) (hb : s.heap.BuiltinsAt mg P) (hdoc : ∀ b, body = .stmts b → docOf b = none)
    (h : ∀ cv ctv dt h' tk ps', (∀ b o, b ≠ P → s.heap.get? b = some o → h'.get? b = some o) → s.heap.objs.size ≤ h'.objs.size → h'.get? P = some (tabObj ps') → TriplesOk ps'.toList → CodeMade s.heap h' pos qual ps ps' cv →
      s.heap.objs.size ≤ dt → h'.get? dt = some { cls := .type "tuple", data := .seq #[v0] } →
      Q (.ref h'.objs.size) { s with heap := h'.push (fnObj (fnAny name qual params body scope clos (.ref dt) .none ((mg "__name__").getD .none) cv ctv)), toks := tk }) :
    wpAny M A (makeFunction name qual params body scope env [v0] [] [] pos firstLine) Q E s := by
  rw [makeFunction_eq]
  simp only [List.zip_nil_right, List.filterMap_nil, List.isEmpty_nil, List.isEmpty_cons, Bool.false_eq_true, if_true, if_false, pure_bind]
  have hk : ∀ b o, s.heap.get? b = some o → (s.heap.push { cls := .type "tuple", data := .seq #[v0] }).get? b = some o := fun b o e => Heap.get?_push_of_some _ e
  have hPlt := Heap.lt_size hP
  refine hid fun Gx hGx => ?_
  obtain ⟨bm, ob, hbm, hne0, hneg, hneP, hbo, hr⟩ := hb
  refine hGx ?_
  clear hGx Gx
  refine wpAny_bind (wpAny_newTextTuple (makeTail_any hcl hge0 (hg.keeps hk) hcode (C.keeps hk) (hk _ _ hP) ht hgP ⟨bm, ob, hbm, hne0, hneg, hneP, hk _ _ hbo, hr⟩ hdoc fun cv ctv h' tk ps' h1 h2 h3 h4 h5 => ?_))
  refine h cv ctv s.heap.objs.size h' tk ps' (fun b o hb' e => h1 b o hb' (hk b o e)) (Nat.le_trans (by rw [Heap.size_push]; lia) h2) h3 h4 ?_ (Nat.le_refl _) (h1 _ _ (Nat.ne_of_gt hPlt) (Heap.get?_push_size _ rfl))
  cases h5 with
  | hit e1 e2 => exact .hit e1 e2
  | new e1 e2 e3 e4 e5 e6 e7 => exact .new e1 e2 e3 e4 e5 e6 (Nat.le_trans (by rw [Heap.size_push]; lia) e7)
end
end Mine
end

section
set_option maxHeartbeats 4000000
namespace Mine
open PySem PySem.W PyProof.Rows

/-! the program's parts, by projection -/
noncomputable def pB : List Stmt := Challenge.pw_ny0060_01.main.body
structure DefP where
  params : Arguments
  body : List Stmt
  scope : Scope
  pos : Pos
noncomputable def noStmt : Stmt := .Pass ⟨0, 0, 0, 0⟩
noncomputable def noExpr : PySem.Expr := .Constant .none 0 ⟨0, 0, 0, 0⟩
noncomputable def defOf : Stmt → DefP
  | .FunctionDef _ args body _ _ _ scope _ _ pos => ⟨args, body, scope, pos⟩
  | _ => ⟨⟨[], [], none, [], [], none, []⟩, [], ⟨.function, [], false, false, []⟩, ⟨0, 0, 0, 0⟩⟩
noncomputable def stAt (b : List Stmt) (i : Nat) : Stmt := b.getD i noStmt
noncomputable def valOf : Stmt → PySem.Expr
  | .Assign _ v _ => v
  | _ => noExpr
structure LamP where
  params : Arguments
  body : PySem.Expr
  scope : Scope
  pos : Pos
noncomputable def lamOf : PySem.Expr → LamP
  | .Lambda a b s p => ⟨a, b, s, p⟩
  | _ => ⟨⟨[], [], none, [], [], none, []⟩, noExpr, ⟨.function, [], false, false, []⟩, ⟨0, 0, 0, 0⟩⟩
noncomputable def dSR : DefP := defOf (stAt pB 1)
noncomputable def dLP : DefP := defOf (stAt pB 8)
noncomputable def dSearch : DefP := defOf (stAt dLP.body 0)
noncomputable def lProg : LamP := lamOf (valOf (stAt dLP.body 1))
noncomputable def lHit : LamP := lamOf (valOf (stAt dSearch.body 2))
noncomputable def lSpan : LamP := lamOf (valOf (stAt dSearch.body 3))
noncomputable def qLP : Str := "_law_prog"
noncomputable def qSearch : Str := qLP ++ ".<locals>." ++ "search"
noncomputable def qProg : Str := qLP ++ ".<locals>." ++ "<lambda>"
noncomputable def qHit : Str := qSearch ++ ".<locals>." ++ "<lambda>"
noncomputable def cBody : Stmt → List Stmt
  | .ClassDef _ _ _ body _ _ _ _ _ _ _ => body
  | _ => []
noncomputable def dInit : DefP := defOf (stAt (cBody (stAt pB 3)) 0)
noncomputable def dCmp : DefP := defOf (stAt (cBody (stAt pB 3)) 1)
noncomputable def dAFS : DefP := defOf (stAt pB 4)
noncomputable def dAC : DefP := defOf (stAt pB 5)
noncomputable def dCC : DefP := defOf (stAt pB 6)
noncomputable def dWalk : DefP := defOf (stAt pB 9)
noncomputable def dMrg : DefP := defOf (stAt pB 10)
noncomputable def dSum : DefP := defOf (stAt pB 11)
noncomputable def dScan : DefP := defOf (stAt pB 12)
noncomputable def dLaw : DefP := defOf (stAt pB 13)

/-! what the walk needs of the heap behind the top -/
noncomputable def cO (n q : Str) (t : Nat) (l c : Int) (d : Addr) (x y z : Value) (k : Nat) : Obj :=
  { cls := .type "code", data := .fields #[.str n t, .str q (t + 1), .str "/claim/cut.py" (t + 2), .int l 0, .int c 0, .int 0 0, .int 0 0, .int 3 0, .ref d, .bool true, .int 181 0, .ref (d + 1), .none, x, y, z, .int k 0, .int l 0, .str "/claim/cut.py" (k + 1)] }
noncomputable def fO (d : DefP) (n q m : Str) (t : Nat) (c : Addr) : Obj := fnObj (fnAny n q d.params (.stmts d.body) d.scope [] .none .none (.str m t) (.ref c) .none)
noncomputable def dE (P : Params) (x : Str) (t : Nat) (v : Value) : DictEntry := ⟨PyData.keyHash P x, .str x t, v⟩
noncomputable def KF (P : Params) : Frag := [
  (nat_lit 3, { cls := .type "dict", data := .dict #[dE P "__name__" 165 (.str "law_ny0060_01" 284), dE P "__doc__" 166 (.none), dE P "__package__" 167 (.none), dE P "__loader__" 168 (.builtin "__main__.__loader__#opaque"), dE P "__spec__" 169 (.none), dE P "__annotations__" 170 (.ref 6), dE P "__builtins__" 171 (.ref 4), dE P "__file__" 173 (.str "/claim/cut.py" 172), dE P "__cached__" 174 (.none), dE P "search_reverse" 201 (.ref 21), dE P "TupleComp" 245 (.ref 45), dE P "add_func_stats" 263 (.ref 56), dE P "add_callers" 274 (.ref 63), dE P "count_calls" 283 (.ref 70), dE P "_law_prog" 295 (.ref 77), dE P "_law_walk" 310 (.ref 84), dE P "_law_merge" 320 (.ref 91), dE P "_law_summed" 333 (.ref 98), dE P "_law_scan" 339 (.ref 103), dE P "law" 345 (.ref 108)] 20 }),
  (nat_lit 20, cO "search_reverse" "search_reverse" 189 2 3 15 (.ref 17) (.ref 18) (.ref 19) 199),
  (nat_lit 21, fO dSR "search_reverse" "search_reverse" "cpy313.idlelib.searchengine" 187 20),
  (nat_lit 34, cO "__init__" "TupleComp.__init__" 216 20 2 29 (.ref 31) (.ref 32) (.ref 33) 221),
  (nat_lit 35, fO dInit "__init__" "TupleComp.__init__" "cpy313.pstats" 202 34),
  (nat_lit 41, cO "compare" "TupleComp.compare" 224 23 3 36 (.ref 38) (.ref 39) (.ref 40) 234),
  (nat_lit 42, fO dCmp "compare" "TupleComp.compare" "cpy313.pstats" 202 41),
  (nat_lit 44, { cls := .type "dict", data := .dict #[dE P "__module__" 211 (.str "cpy313.pstats" 202), dE P "__firstlineno__" 215 (.int 18 214), dE P "__init__" 223 (.ref 35), dE P "compare" 236 (.ref 42), dE P "__static_attributes__" 238 (.ref 43), dE P "__dict__" 240 (.ref 46), dE P "__weakref__" 242 (.ref 47), dE P "__doc__" 243 (.none)] 4 }),
  (nat_lit 45, { cls := .type "type", data := .cls { name := "TupleComp", bases := [.type "object"], mro := [.ref 45, .type "object"], ns := 44, qualname := "TupleComp" }, slots := #[none, none, some (.str "TupleComp" 204), some (.str "TupleComp" 212), some (.builtin "object.__new__"), some (.bool true)] }),
  (nat_lit 55, cO "add_func_stats" "add_func_stats" 246 32 2 50 (.ref 52) (.ref 53) (.ref 54) 261),
  (nat_lit 56, fO dAFS "add_func_stats" "add_func_stats" "cpy313.pstats" 202 55),
  (nat_lit 62, cO "add_callers" "add_callers" 264 36 2 57 (.ref 59) (.ref 60) (.ref 61) 272),
  (nat_lit 63, fO dAC "add_callers" "add_callers" "cpy313.pstats" 202 62),
  (nat_lit 69, cO "count_calls" "count_calls" 275 49 1 64 (.ref 66) (.ref 67) (.ref 68) 281),
  (nat_lit 70, fO dCC "count_calls" "count_calls" "cpy313.pstats" 202 69),
  (nat_lit 76, cO "_law_prog" "_law_prog" 286 55 1 71 (.ref 73) (.ref 74) (.ref 75) 293),
  (nat_lit 77, fO dLP "_law_prog" "_law_prog" "law_ny0060_01" 284 76),
  (nat_lit 83, cO "_law_walk" "_law_walk" 296 67 3 78 (.ref 80) (.ref 81) (.ref 82) 308),
  (nat_lit 84, fO dWalk "_law_walk" "_law_walk" "law_ny0060_01" 284 83),
  (nat_lit 90, cO "_law_merge" "_law_merge" 311 77 2 85 (.ref 87) (.ref 88) (.ref 89) 318),
  (nat_lit 91, fO dMrg "_law_merge" "_law_merge" "law_ny0060_01" 284 90),
  (nat_lit 97, cO "_law_summed" "_law_summed" 321 88 2 92 (.ref 94) (.ref 95) (.ref 96) 331),
  (nat_lit 98, fO dSum "_law_summed" "_law_summed" "law_ny0060_01" 284 97),
  (nat_lit 102, cO "_law_scan" "_law_scan" 334 93 2 99 .none .none (.ref 101) 337),
  (nat_lit 103, fO dScan "_law_scan" "_law_scan" "law_ny0060_01" 284 102),
  (nat_lit 107, cO "law" "law" 340 103 1 104 .none .none (.ref 106) 343),
  (nat_lit 108, fO dLaw "law" "law" "law_ny0060_01" 284 107)]
end Mine
end

section
set_option maxHeartbeats 4000000
namespace Mine
open PySem PySem.W PyProof.Rows

section
variable {M : Model} {A : Around} {E : Value → Shared → Prop} {s : Shared}

/- a frame with cells of its own and a closure; every argument is a plain local -/
theorem newFnEnv_clos {scope : Scope} {globals : Addr} {clos : List (Str × Addr)} {binds : List (Str × Value)} {qual : Str} {func : Option Addr} {code : Value} {builtins : Addr} {Q : Env → Shared → Prop}
    (hk : scope.kind = .function) (hl : ∀ x ∈ binds, scope.names.lookup x.1 = some .local)
    (h : ∀ h', h'.Ns s.heap.objs.size (fun x => binds.reverse.lookup x) → (∀ b o, s.heap.get? b = some o → h'.get? b = some o) →
      (∀ n c, (n, c) ∈ cellsFrom (s.heap.objs.size + 1) scope.names [] → h'.IsCell c none ∧ s.heap.objs.size < c) →
      Q (newEnv scope s.heap.objs.size globals (cellsFrom (s.heap.objs.size + 1) scope.names clos) qual func code none builtins) { s with heap := h', toks := s.toks + binds.length }) :
    wpAny M A (newFunctionEnv scope globals clos binds qual func code none builtins) Q E s := by
  simp only [newFunctionEnv, Option.isSome_none, Bool.false_eq_true, if_false]
  refine wpAny_bind (wpAny_alloc ?_)
  refine wpAny_bind (wpAny_layCells _ (fun name kind cells => by cases hkc : kind == NameKind.cell <;> simp [hkc]) _ _ _ _ ?_)
  have ok := cellsFrom_ok scope.names (s.heap.push { cls := .type "frame", data := .dict #[] }) (s.heap.objs.size + 1) [] ⟨fun _ _ hm => (nomatch hm), List.Pairwise.nil⟩ (by rw [Heap.size_push]; exact Nat.le_refl _)
  rw [Heap.size_push] at ok
  rw [show ({ s with heap := s.heap.push { cls := .type "frame", data := .dict #[] } } : Shared).heap.objs.size = s.heap.objs.size + 1 from Heap.size_push ..]
  refine wpAny_bind ?_
  refine wpAny_forIn_list _
      (fun rest _ s' => ∃ done h', binds = done ++ rest ∧ s' = { s with heap := h', toks := s.toks + done.length } ∧
        h'.Ns s.heap.objs.size (fun x => done.reverse.lookup x) ∧
        Heap.SameBut s.heap.objs.size (pushCells (s.heap.push { cls := .type "frame", data := .dict #[] }) scope.names) h') _ ?_ ?_ binds _
      ⟨[], _, rfl, rfl, (Heap.Ns.new s.heap (.type "frame")).keeps (pushCells_keeps _ _), Heap.SameBut.refl ..⟩
  · rintro ⟨name, v⟩ rest _ s' invX
    refine hid fun Gx hGx => ?_
    obtain ⟨done, h', hb, rfl, hns, hsb⟩ := invX
    refine hGx ?_
    clear hGx Gx
    have hk' : Env.kindOf (newEnv scope s.heap.objs.size globals (cellsFrom (s.heap.objs.size + 1) scope.names clos) qual func code none builtins) name = some .local := hl (name, v) (by rw [hb]; simp)
    have hp : ((newEnv scope s.heap.objs.size globals (cellsFrom (s.heap.objs.size + 1) scope.names clos) qual func code none builtins).scope.kind == .class || ((newEnv scope s.heap.objs.size globals (cellsFrom (s.heap.objs.size + 1) scope.names clos) qual func code none builtins).scope.kind == .module &&
        (newEnv scope s.heap.objs.size globals (cellsFrom (s.heap.objs.size + 1) scope.names clos) qual func code none builtins).locals != (newEnv scope s.heap.objs.size globals (cellsFrom (s.heap.objs.size + 1) scope.names clos) qual func code none builtins).globals)) = false := by
      show (scope.kind == .class || (scope.kind == .module && _)) = false
      rw [hk]; rfl
    show wpAny M A (storeName (newEnv scope s.heap.objs.size globals (cellsFrom (s.heap.objs.size + 1) scope.names clos) qual func code none builtins) name v >>= _) _ _ _
    refine wpAny_bind (wpAny_storeName_local hk' hns (fun h'' hns' hsb' => wpAny_pure ⟨done ++ [(name, v)], h'', by simp [hb], ?_, ?_, hsb.trans hsb'⟩) hp)
    · simp [Nat.add_assoc]
    · rw [lookup_reverse_snoc]; exact hns'
  · rintro _ s' invX
    refine hid fun Gx hGx => ?_
    obtain ⟨done, h', hb, rfl, hns, hsb⟩ := invX
    refine hGx ?_
    clear hGx Gx
    rw [List.append_nil] at hb; subst hb
    refine wpAny_pure (h h' hns (fun b o e => ?_) fun n c hm => ?_)
    · exact (hsb.2 b (Nat.ne_of_lt (Heap.lt_size e))).trans (pushCells_keeps _ _ b o (Heap.get?_push_of_some _ e))
    · have := ok.empty n c hm
      exact ⟨this.1.sameBut hsb (Nat.ne_of_gt this.2), this.2⟩
end
end Mine
end

section
set_option maxHeartbeats 4000000
namespace Mine
open PySem PySem.W PyProof.Rows

/-! code tables -/
noncomputable def IsTab (o : Obj) : Prop := ∃ ps, o = tabObj ps
theorem not_tab {o : Obj} (h : o.cls ≠ .none) : ¬ IsTab o := fun ⟨ps, e⟩ => h (by rw [e])
theorem not_tab_dict {o : Obj} {es : Array DictEntry} {n : Nat} (h : o.data = .dict es n) : ¬ IsTab o := fun ⟨ps, e⟩ => by rw [e] at h; cases h
/- a code object of that qualified name, with its table -/
noncomputable def CodeK (h : Heap) (c P : Addr) (q : Str) : Prop := h.CodeRec (.ref c) q ∧ CodeHd h c P
/- the table of search's code -/
noncomputable def Leaf0 (h : Heap) (P : Addr) : Prop := ∃ ps, h.get? P = some (tabObj ps) ∧ TriplesOk ps.toList ∧
  (∀ cv, codeAmong lHit.pos ps.toList = some cv → ∃ c P', cv = .ref c ∧ CodeK h c P' qHit) ∧ (∀ cv, codeAmong lSpan.pos ps.toList = some cv → ∃ c P', cv = .ref c ∧ CodeK h c P' qHit)
/- P is the table of the code that table 72 names for search -/
noncomputable def AtRoot (h : Heap) (P : Addr) : Prop := ∃ c ps, h.get? 72 = some (tabObj ps) ∧ TriplesOk ps.toList ∧ codeAmong dSearch.pos ps.toList = some (.ref c) ∧ CodeK h c P qSearch
noncomputable def Leaf (h : Heap) (P : Addr) : Prop := Leaf0 h P ∧ AtRoot h P
/- what table 72 names for search lies outside B -/
noncomputable def RootB (h : Heap) (B : Addr → Prop) : Prop := ∃ ps, h.get? 72 = some (tabObj ps) ∧ ∀ cv, codeAmong dSearch.pos ps.toList = some cv → ∃ c P, cv = .ref c ∧ CodeK h c P qSearch ∧ ¬ B P
theorem CodeHd.uniq {h : Heap} {c P P' : Addr} (x : CodeHd h c P) (y : CodeHd h c P') : P = P' := by
  refine hid fun Gx hGx => ?_
  obtain ⟨o, vs, _, _, _, _, _, _, _, e, _, hd, hv, _⟩ := x
  obtain ⟨o', vs', _, _, _, _, _, _, _, e', _, hd', hv', _⟩ := y
  refine hGx ?_
  clear hGx Gx
  rw [e] at e'; cases e'
  rw [hd] at hd'; cases hd'
  rw [hv] at hv'; cases hv'
  rfl
theorem AtRoot.out {h : Heap} {P : Addr} {B : Addr → Prop} (x : AtRoot h P) (r : RootB h B) : ¬ B P := by
  refine hid fun Gx hGx => ?_
  obtain ⟨c, ps, e, _, hc, k⟩ := x
  obtain ⟨ps', e', H⟩ := r
  refine hGx ?_
  clear hGx Gx
  rw [e] at e'; cases e'
  refine hid fun Gx hGx => ?_
  obtain ⟨c', P', q, k', nb⟩ := H _ hc
  refine hGx ?_
  clear hGx Gx
  cases q
  rw [CodeHd.uniq k.2 k'.2]
  exact nb
noncomputable def Root (h : Heap) : Prop := ∃ ps, h.get? 72 = some (tabObj ps) ∧ TriplesOk ps.toList ∧
  (∀ cv, codeAmong lProg.pos ps.toList = some cv → ∃ c P', cv = .ref c ∧ CodeK h c P' qProg) ∧
  (∀ cv, codeAmong dSearch.pos ps.toList = some cv → ∃ c P, cv = .ref c ∧ CodeK h c P qSearch ∧ Leaf h P)

/- all that is no code table stays -/
noncomputable def Stay (h h' : Heap) : Prop := ∀ b o, h.get? b = some o → ¬ IsTab o → h'.get? b = some o
structure Ev (h h' : Heap) : Prop where
  keep : Stay h h'
  leaf : ∀ P, Leaf h P → Leaf h' P
  root : Root h → Root h'
  tab : ∀ b ps, h.get? b = some (tabObj ps) → ∃ ps', h'.get? b = some (tabObj ps')
  old : ∀ B : Addr → Prop, (∀ b, B b → ∃ o, h.get? b = some o) → RootB h B → RootB h' B ∧ ∀ b ps, B b → b ≠ 72 → h.get? b = some (tabObj ps) → h'.get? b = some (tabObj ps)

theorem Ev.refl (h : Heap) : Ev h h := ⟨fun _ _ e _ => e, fun _ x => x, fun x => x, fun _ ps e => ⟨ps, e⟩, fun _ _ r => ⟨r, fun _ _ _ _ e => e⟩⟩
theorem Ev.ex {h h' : Heap} (x : Ev h h') {b : Addr} (e : ∃ o, h.get? b = some o) : ∃ o, h'.get? b = some o := by
  obtain ⟨o, e⟩ := e
  by_cases ht : IsTab o
  · obtain ⟨ps, rfl⟩ := ht
    obtain ⟨ps', e'⟩ := x.tab _ _ e
    exact ⟨_, e'⟩
  · exact ⟨o, x.keep _ _ e ht⟩
theorem Ev.trans {a b c : Heap} (x : Ev a b) (y : Ev b c) : Ev a c := by
  refine ⟨fun k o e n => y.keep k o (x.keep k o e n) n, fun P l => y.leaf P (x.leaf P l), fun r => y.root (x.root r), fun b ps e => ?_, fun B hB r => ?_⟩
  · obtain ⟨ps', e'⟩ := x.tab b ps e
    exact y.tab b ps' e'
  · have h1 := x.old B hB r
    have h2 := y.old B (fun b hb => x.ex (hB b hb)) h1.1
    exact ⟨h2.1, fun b ps hb hn e => h2.2 b ps hb hn (h1.2 b ps hb hn e)⟩
theorem Ev.fresh {h₀ h : Heap} (x : Ev h₀ h) {n : Nat} (hn : h.objs.size ≤ n) : h₀.get? n = none := by
  cases q : h₀.get? n with
  | none => rfl
  | some o =>
    have : n < h.objs.size := by
      by_cases ht : IsTab o
      · obtain ⟨ps, rfl⟩ := ht
        obtain ⟨ps', e'⟩ := x.tab _ _ q
        exact Heap.lt_size e'
      · exact Heap.lt_size (x.keep _ _ q ht)
    lia

theorem CodeHd.stay {h h' : Heap} (k : Stay h h') {c P : Addr} (x : CodeHd h c P) : CodeHd h' c P := by
  refine hid fun Gx hGx => ?_
  obtain ⟨o, vs, file, tf, flags, tg, inF, text, tt, e, hc, r⟩ := x
  refine hGx ?_
  clear hGx Gx
  exact ⟨o, vs, file, tf, flags, tg, inF, text, tt, k _ _ e (not_tab (by rw [hc]; nofun)), hc, r⟩
theorem CodeK.stay {h h' : Heap} (k : Stay h h') {c P : Addr} {q : Str} (x : CodeK h c P q) : CodeK h' c P q := by
  refine ⟨?_, CodeHd.stay k x.2⟩
  refine hid fun Gx hGx => ?_
  obtain ⟨c', o, vs, t, e, ho, r⟩ := x.1
  refine hGx ?_
  clear hGx Gx
  cases e
  refine hid fun Gx hGx => ?_
  obtain ⟨o', _, _, _, _, _, _, _, _, e', hc, _⟩ := x.2
  refine hGx ?_
  clear hGx Gx
  rw [ho] at e'; cases e'
  exact ⟨c, o, vs, t, rfl, k _ _ ho (not_tab (by rw [hc]; nofun)), r⟩
theorem leaf0_of {h h' : Heap} (hk : ∀ c P q, CodeK h c P q → CodeK h' c P q) (ht : ∀ b ps, h.get? b = some (tabObj ps) → h'.get? b = some (tabObj ps)) {P : Addr} (l : Leaf h P) : Leaf h' P := by
  refine hid fun Gx hGx => ?_
  obtain ⟨⟨ps, e, t, a, b⟩, c, ps', e', t', hc, k⟩ := l
  refine hGx ?_
  clear hGx Gx
  refine ⟨⟨ps, ht _ _ e, t, fun cv q => ?_, fun cv q => ?_⟩, c, ps', ht _ _ e', t', hc, hk _ _ _ k⟩
  · obtain ⟨c, P', e, x⟩ := a cv q; exact ⟨c, P', e, hk _ _ _ x⟩
  · obtain ⟨c, P', e, x⟩ := b cv q; exact ⟨c, P', e, hk _ _ _ x⟩
theorem root_of {h h' : Heap} (hk : ∀ c P q, CodeK h c P q → CodeK h' c P q) (ht : ∀ b ps, h.get? b = some (tabObj ps) → h'.get? b = some (tabObj ps)) (r : Root h) : Root h' := by
  refine hid fun Gx hGx => ?_
  obtain ⟨ps, e, t, a, b⟩ := r
  refine hGx ?_
  clear hGx Gx
  refine ⟨ps, ht _ _ e, t, fun cv q => ?_, fun cv q => ?_⟩
  · obtain ⟨c, P', e, x⟩ := a cv q; exact ⟨c, P', e, hk _ _ _ x⟩
  · obtain ⟨c, P', e, x, l⟩ := b cv q; exact ⟨c, P', e, hk _ _ _ x, leaf0_of hk ht l⟩
theorem rootB_of {h h' : Heap} (hk : ∀ c P q, CodeK h c P q → CodeK h' c P q) (ht : ∀ b ps, h.get? b = some (tabObj ps) → h'.get? b = some (tabObj ps)) {B : Addr → Prop} (r : RootB h B) : RootB h' B := by
  obtain ⟨ps, e, a⟩ := r
  refine ⟨ps, ht _ _ e, fun cv q => ?_⟩
  obtain ⟨c, P', e, x, nb⟩ := a cv q; exact ⟨c, P', e, hk _ _ _ x, nb⟩
/- a change that leaves the tables alone -/
theorem Ev.of_tabs {h h' : Heap} (k : Stay h h') (ht : ∀ b ps, h.get? b = some (tabObj ps) → h'.get? b = some (tabObj ps)) : Ev h h' := by
  have hk : ∀ c P q, CodeK h c P q → CodeK h' c P q := fun _ _ _ x => x.stay k
  exact ⟨k, fun _ l => leaf0_of hk ht l, root_of hk ht, fun b ps e => ⟨ps, ht b ps e⟩, fun _ _ r => ⟨rootB_of hk ht r, fun b ps _ _ e => ht b ps e⟩⟩
theorem Ev.of_keeps {h h' : Heap} (k : ∀ b o, h.get? b = some o → h'.get? b = some o) : Ev h h' := .of_tabs (fun b o e _ => k b o e) fun b ps e => k b _ e
theorem Ev.push {h : Heap} (o : Obj) : Ev h (h.push o) := .of_keeps fun _ _ e => Heap.get?_push_of_some _ e

/-! what stands at every time -/
structure Stat (w : World) (mg mb : Str → Option Value) (h : Heap) : Prop where
  K : (KF w.params).In h
  g : h.Ns mainGlobals mg
  b : h.Ns builtinsNs mb
  nl : h.NoLimit
  bt : ∀ x : Str, x ≠ "__name__" → mb x = bootBuiltins x
  bm : ∃ bm ob, mg "__builtins__" = some (.ref bm) ∧ bm ≠ builtinsNs ∧ h.get? bm = some ob ∧ ob.cls = .type "module" ∧ ob.dict = some builtinsNs ∧ ob.data = .plain

theorem Ns.stay {h h' : Heap} (k : Stay h h') {a : Addr} {m : Str → Option Value} (x : h.Ns a m) : h'.Ns a m := by
  refine hid fun Gx hGx => ?_
  obtain ⟨o, es, ep, e, hd, r⟩ := x
  refine hGx ?_
  clear hGx Gx
  exact ⟨o, es, ep, k _ _ e (not_tab_dict hd), hd, r⟩
noncomputable def noTabs (K : Frag) : Bool := K.all fun p => match p.2.cls, p.2.data with
  | .none, .fields _ => false
  | _, _ => true
theorem KF_noTabs (P : Params) : noTabs (KF P) = true := by kernel_rfl
theorem K.stay {h h' : Heap} (k : Stay h h') {P : Params} (x : (KF P).In h) : (KF P).In h' := fun a o e => by
  refine k a o (x a o e) fun ⟨ps, q⟩ => ?_
  have h2 := List.all_eq_true.mp (KF_noTabs P) (a, o) (mem_of_lookupK e)
  subst q
  exact absurd (show false = true from h2) Bool.false_ne_true
theorem Stat.stay {w : World} {mg mb : Str → Option Value} {h h' : Heap} (k : Stay h h') (S : Stat w mg mb h) : Stat w mg mb h' where
  K := K.stay k S.K
  g := Ns.stay k S.g
  b := Ns.stay k S.b
  nl := (by obtain ⟨mc, a, r⟩ := S.nl; exact ⟨mc, Ns.stay k a, r⟩)
  bt := S.bt
  bm := (by obtain ⟨bm, ob, a1, a2, a3, a4, r⟩ := S.bm; exact ⟨bm, ob, a1, a2, k _ _ a3 (not_tab (by rw [a4]; nofun)), a4, r⟩)
end Mine
end

section
set_option maxHeartbeats 4000000
namespace Mine
open PySem PySem.W PyProof.Rows

/- neither a code table nor a code object -/
noncomputable def Plain (o : Obj) : Prop := ¬ IsTab o ∧ (o.cls = .type "code" → ∀ vs, o.data ≠ .fields vs)
theorem Plain.of_data {o : Obj} (h : ∀ vs, o.data ≠ .fields vs) : Plain o := ⟨fun ⟨ps, e⟩ => h ps (by rw [e]), fun _ => h⟩
theorem Plain.of_cls {o : Obj} (h1 : o.cls ≠ .none) (h2 : o.cls ≠ .type "code") : Plain o := ⟨not_tab h1, fun e => absurd e h2⟩
theorem Plain.ns {h : Heap} {a : Addr} {m : Str → Option Value} (x : h.Ns a m) : ∃ o, h.get? a = some o ∧ Plain o := by
  refine hid fun Gx hGx => ?_
  obtain ⟨o, es, ep, e, hd, _⟩ := x
  refine hGx ?_
  clear hGx Gx
  exact ⟨o, e, .of_data fun vs => by rw [hd]; nofun⟩

theorem CodeHd.but {h h' : Heap} {a : Addr} {o : Obj} (ho : h.get? a = some o) (hp : Plain o) (k : ∀ b o, b ≠ a → h.get? b = some o → h'.get? b = some o) {c P : Addr} (x : CodeHd h c P) : CodeHd h' c P := by
  refine hid fun Gx hGx => ?_
  obtain ⟨oc, vs, file, tf, flags, tg, inF, text, tt, e, hc, hd, r⟩ := x
  refine hGx ?_
  clear hGx Gx
  have : c ≠ a := fun q => by rw [q, ho] at e; cases e; exact hp.2 hc vs hd
  exact ⟨oc, vs, file, tf, flags, tg, inF, text, tt, k _ _ this e, hc, hd, r⟩
theorem CodeK.but {h h' : Heap} {a : Addr} {o : Obj} (ho : h.get? a = some o) (hp : Plain o) (k : ∀ b o, b ≠ a → h.get? b = some o → h'.get? b = some o) {c P : Addr} {q : Str} (x : CodeK h c P q) : CodeK h' c P q := by
  refine ⟨?_, CodeHd.but ho hp k x.2⟩
  refine hid fun Gx hGx => ?_
  obtain ⟨c', oc, vs, t, e, he, r⟩ := x.1
  refine hGx ?_
  clear hGx Gx
  cases e
  refine hid fun Gx hGx => ?_
  obtain ⟨o', vs', _, _, _, _, _, _, _, e', hc, hd, _⟩ := x.2
  refine hGx ?_
  clear hGx Gx
  rw [he] at e'; cases e'
  have : c ≠ a := fun q => by rw [q, ho] at he; cases he; exact hp.2 hc vs' hd
  exact ⟨c, oc, vs, t, rfl, k _ _ this he, r⟩

/- tables and code objects as they were -/
structure TabEv (h h' : Heap) : Prop where
  leaf : ∀ P, Leaf h P → Leaf h' P
  root : Root h → Root h'
theorem TabEv.of {h h' : Heap} (hk : ∀ c P q, CodeK h c P q → CodeK h' c P q) (ht : ∀ b ps, h.get? b = some (tabObj ps) → h'.get? b = some (tabObj ps)) : TabEv h h' := ⟨fun _ l => leaf0_of hk ht l, root_of hk ht⟩
theorem TabEv.but {h h' : Heap} {a : Addr} {o : Obj} (ho : h.get? a = some o) (hp : Plain o) (k : ∀ b o, b ≠ a → h.get? b = some o → h'.get? b = some o) : TabEv h h' :=
  .of (fun _ _ _ x => x.but ho hp k) fun b ps e => k b _ (fun q => by rw [q, ho] at e; cases e; exact hp.1 ⟨ps, rfl⟩) e

/- one object of one's own is changed -/
theorem Ev.set {h₀ h h' : Heap} {a : Addr} {o : Obj} (x : Ev h₀ h) (ho : h.get? a = some o) (hp : Plain o) (hn : h₀.get? a = none) (k : ∀ b o, b ≠ a → h.get? b = some o → h'.get? b = some o) : Ev h₀ h' := by
  have hk : ∀ c P q, CodeK h c P q → CodeK h' c P q := fun _ _ _ x => x.but ho hp k
  have ht : ∀ b ps, h.get? b = some (tabObj ps) → h'.get? b = some (tabObj ps) := fun b ps e => k b _ (fun q => by rw [q, ho] at e; cases e; exact hp.1 ⟨ps, rfl⟩) e
  refine ⟨fun b ob e nt => k b ob (fun q => by rw [q, hn] at e; cases e) (x.keep b ob e nt), fun P l => leaf0_of hk ht (x.leaf P l), fun r => root_of hk ht (x.root r), fun b ps e => ?_, fun B hB r => ?_⟩
  · obtain ⟨ps', e'⟩ := x.tab b ps e
    exact ⟨ps', ht b ps' e'⟩
  · have h1 := x.old B hB r
    exact ⟨rootB_of hk ht h1.1, fun b ps hb hn e => ht b ps (h1.2 b ps hb hn e)⟩
theorem Ev.setNs {h₀ h h' : Heap} {a : Addr} {m : Str → Option Value} (x : Ev h₀ h) (ho : h.Ns a m) (hn : h₀.get? a = none) (k : Heap.SameBut a h h') : Ev h₀ h' := by
  obtain ⟨o, e, p⟩ := Plain.ns ho
  exact x.set e p hn fun b ob hb e => (k.2 b hb).trans e
theorem Ev.keeps {h₀ h h' : Heap} (x : Ev h₀ h) (k : ∀ b o, h.get? b = some o → h'.get? b = some o) : Ev h₀ h' := x.trans (.of_keeps k)

/- what a new entry of a table must bear -/
structure Entry (h : Heap) (pos : Pos) (c P : Addr) : Prop where
  hit : pos.line = lHit.pos.line → pos.col = lHit.pos.col → CodeK h c P qHit
  span : pos.line = lSpan.pos.line → pos.col = lSpan.pos.col → CodeK h c P qHit
  prog : pos.line = lProg.pos.line → pos.col = lProg.pos.col → CodeK h c P qProg
  search : pos.line = dSearch.pos.line → pos.col = dSearch.pos.col → CodeK h c P qSearch ∧ Leaf h P

theorem leaf_nil {h : Heap} {P : Addr} (e : h.get? P = some (tabObj #[])) : Leaf0 h P := by
  refine ⟨#[], e, trivial, ?_, ?_⟩
  · intro cv q; exact absurd (show (none : Option Value) = some cv from q) nofun
  · intro cv q; exact absurd (show (none : Option Value) = some cv from q) nofun

theorem stay_but {h h' : Heap} {P : Addr} {ps : Array Value} (e : h.get? P = some (tabObj ps)) (k : ∀ b o, b ≠ P → h.get? b = some o → h'.get? b = some o) : Stay h h' := fun b o eb nt => k b o (fun q => by rw [q, e] at eb; cases eb; exact nt ⟨ps, rfl⟩) eb

theorem codeAmong_keep {q : Pos} {cv : Value} {t : List Value} : ∀ (l : List Value), TriplesOk l → codeAmong q l = some cv → codeAmong q (l ++ t) = some cv := by
  intro l h
  fun_induction TriplesOk l with
  | case1 => intro hc; cases hc
  | case2 a t b u x rest ih =>
    intro hc
    simp only [List.cons_append, codeAmong] at hc ⊢
    split at hc
    · rename_i h1; rw [if_pos h1]; exact hc
    · rename_i h1; rw [if_neg h1]; exact ih h hc
  | case3 l h1 h2 => exact h.elim
theorem codeAmong_last {q : Pos} {c : Value} : ∀ (l : List Value), TriplesOk l → codeAmong q l = none → codeAmong q (l ++ [rawInt q.line, rawInt q.col, c]) = some c := by
  intro l h
  fun_induction TriplesOk l with
  | case1 => intro _; simp [codeAmong, rawInt]
  | case2 a t b u x rest ih =>
    intro hc
    simp only [List.cons_append, codeAmong] at hc ⊢
    split at hc
    · cases hc
    · rename_i h1; rw [if_neg h1]; exact ih h hc
  | case3 l h1 h2 => exact h.elim
theorem leaf_new {h : Heap} {c P : Addr} {ps : Array Value} (t : TriplesOk ps.toList) (hn : codeAmong dSearch.pos ps.toList = none) (e : h.get? 72 = some (tabObj (ps ++ #[rawInt dSearch.pos.line, rawInt dSearch.pos.col, .ref c]))) (x : CodeK h c P qSearch) (l : Leaf0 h P) : Leaf h P :=
  ⟨l, c, _, e, by rw [Array.toList_append]; exact TriplesOk_snoc _ _ _ _ t, by rw [Array.toList_append]; exact codeAmong_last _ t hn, x⟩

theorem grow_one {ps : Array Value} {pos q : Pos} {c' : Addr} {cv : Value} (ht : TriplesOk ps.toList) (hc : codeAmong q (ps ++ #[rawInt pos.line, rawInt pos.col, Value.ref c']).toList = some cv) : codeAmong q ps.toList = some cv ∨ (pos.line = q.line ∧ pos.col = q.col ∧ cv = .ref c') := by
  rw [Array.toList_append] at hc
  rcases codeAmong_more _ ht hc with h1 | ⟨_, h1, h2, h3⟩
  · exact .inl h1
  · exact .inr ⟨h1, h2, h3⟩
theorem TabEv.grow {h h' : Heap} {P c' P' : Addr} {ps : Array Value} {pos : Pos} (e : h.get? P = some (tabObj ps)) (k : ∀ b o, b ≠ P → h.get? b = some o → h'.get? b = some o)
    (e' : h'.get? P = some (tabObj (ps ++ #[rawInt pos.line, rawInt pos.col, .ref c']))) (X : Entry h' pos c' P') : TabEv h h' := by
  have st := stay_but e k
  have lf : ∀ Q, Leaf h Q → Leaf h' Q := by
    rintro Q invX
    refine hid fun Gx hGx => ?_
    obtain ⟨⟨qs, eq, t, a, b⟩, c, rs, er, tr, hc, kc⟩ := invX
    refine hGx ?_
    clear hGx Gx
    have ar : AtRoot h' Q := by
      by_cases hq : 72 = P
      · subst hq
        rw [e] at er; cases er
        exact ⟨c, _, e', by rw [Array.toList_append]; exact TriplesOk_snoc _ _ _ _ tr, by rw [Array.toList_append]; exact codeAmong_keep _ tr hc, kc.stay st⟩
      · exact ⟨c, rs, k _ _ hq er, tr, hc, kc.stay st⟩
    refine ⟨?_, ar⟩
    by_cases hq : Q = P
    · subst hq
      rw [e] at eq; cases eq
      refine ⟨_, e', by rw [Array.toList_append]; exact TriplesOk_snoc _ _ _ _ t, fun cv hc => ?_, fun cv hc => ?_⟩
      · rcases grow_one t hc with hc | ⟨h1, h2, rfl⟩
        · obtain ⟨c, P₁, e1, x⟩ := a cv hc; exact ⟨c, P₁, e1, x.stay st⟩
        · exact ⟨c', P', rfl, X.hit h1 h2⟩
      · rcases grow_one t hc with hc | ⟨h1, h2, rfl⟩
        · obtain ⟨c, P₁, e1, x⟩ := b cv hc; exact ⟨c, P₁, e1, x.stay st⟩
        · exact ⟨c', P', rfl, X.span h1 h2⟩
    · refine ⟨qs, k _ _ hq eq, t, fun cv hc => ?_, fun cv hc => ?_⟩
      · obtain ⟨c, P₁, e1, x⟩ := a cv hc; exact ⟨c, P₁, e1, x.stay st⟩
      · obtain ⟨c, P₁, e1, x⟩ := b cv hc; exact ⟨c, P₁, e1, x.stay st⟩
  refine ⟨lf, ?_⟩
  rintro invX
  refine hid fun Gx hGx => ?_
  obtain ⟨qs, eq, t, a, b⟩ := invX
  refine hGx ?_
  clear hGx Gx
  by_cases hq : 72 = P
  · subst hq
    rw [e] at eq; cases eq
    refine ⟨_, e', by rw [Array.toList_append]; exact TriplesOk_snoc _ _ _ _ t, fun cv hc => ?_, fun cv hc => ?_⟩
    · rcases grow_one t hc with hc | ⟨h1, h2, rfl⟩
      · obtain ⟨c, P₁, e1, x⟩ := a cv hc; exact ⟨c, P₁, e1, x.stay st⟩
      · exact ⟨c', P', rfl, X.prog h1 h2⟩
    · rcases grow_one t hc with hc | ⟨h1, h2, rfl⟩
      · obtain ⟨c, P₁, e1, x, l⟩ := b cv hc; exact ⟨c, P₁, e1, x.stay st, lf _ l⟩
      · exact ⟨c', P', rfl, X.search h1 h2⟩
  · refine ⟨qs, k _ _ hq eq, t, fun cv hc => ?_, fun cv hc => ?_⟩
    · obtain ⟨c, P₁, e1, x⟩ := a cv hc; exact ⟨c, P₁, e1, x.stay st⟩
    · obtain ⟨c, P₁, e1, x, l⟩ := b cv hc; exact ⟨c, P₁, e1, x.stay st, lf _ l⟩

/- a function was made -/
theorem Ev.made {h₀ h h' : Heap} {P : Addr} {ps ps' : Array Value} {pos : Pos} {q : Str} {cv : Value} (x : Ev h₀ h) (e : h.get? P = some (tabObj ps)) (ht : TriplesOk ps.toList) (hw : P = 72 ∨ AtRoot h P) (k : ∀ b o, b ≠ P → h.get? b = some o → h'.get? b = some o)
    (e' : h'.get? P = some (tabObj ps')) (M : CodeMade h h' pos q ps ps' cv) (X : ∀ c' P', CodeK h' c' P' q → Leaf0 h' P' → codeAmong pos ps.toList = none → h'.get? P = some (tabObj (ps ++ #[rawInt pos.line, rawInt pos.col, .ref c'])) → Entry h' pos c' P') : Ev h₀ h' := by
  have st := stay_but e k
  cases M with
  | hit h1 h2 =>
    subst h2
    refine x.keeps fun b o eb => ?_
    by_cases hb : b = P
    · subst hb; rw [e] at eb; cases eb; exact e'
    · exact k b o hb eb
  | new h1 h2 h3 h4 h5 h6 h7 =>
    rename_i c' P'
    subst h3 h2
    have Y := X _ _ ⟨h4, h5⟩ (leaf_nil h6) h1 e'
    have T := TabEv.grow e k e' Y
    refine ⟨fun b ob eb nt => st b ob (x.keep b ob eb nt) nt, fun P l => T.leaf P (x.leaf P l), fun r => T.root (x.root r), fun b ps₁ eb => ?_, fun B hB r => ?_⟩
    · obtain ⟨ps₂, e₂⟩ := x.tab b ps₁ eb
      by_cases hb : b = P
      · subst hb; exact ⟨_, e'⟩
      · exact ⟨_, k b _ hb e₂⟩
    · obtain ⟨⟨rs, er, H⟩, h9⟩ := x.old B hB r
      have nB : ¬ B P' := fun hb => by
        obtain ⟨o, e₁⟩ := x.ex (hB _ hb)
        rw [Heap.get?_none_of_le h7] at e₁; cases e₁
      have nP : P ≠ 72 → ¬ B P := fun hne hb => (hw.resolve_left hne).out ⟨rs, er, H⟩ hb
      refine ⟨?_, fun b ps₁ hb hn eb => k b _ (fun q => nP (q ▸ hn) (q ▸ hb)) (h9 b ps₁ hb hn eb)⟩
      by_cases hq : P = 72
      · subst hq
        rw [e] at er; cases er
        refine ⟨_, e', fun cv hc => ?_⟩
        rcases grow_one ht hc with hc | ⟨q1, q2, rfl⟩
        · obtain ⟨c, P₁, e1, y, nb⟩ := H cv hc; exact ⟨c, P₁, e1, y.stay st, nb⟩
        · exact ⟨c', P', rfl, (Y.search q1 q2).1, nB⟩
      · refine ⟨rs, k _ _ (Ne.symm hq) er, fun cv hc => ?_⟩
        obtain ⟨c, P₁, e1, y, nb⟩ := H cv hc; exact ⟨c, P₁, e1, y.stay st, nb⟩
end Mine
end

section
set_option maxHeartbeats 4000000
namespace Mine
open PySem PySem.W PyProof.Rows PySem.Calls

section
variable {M : Model} {A : Around} {E : Value → Shared → Prop} {s : Shared} {env : Env} {x : Str} {pos : Pos}

theorem ldL {m : Str → Option Value} {v : Value} {Q : Value → Shared → Prop} (hn : s.heap.Ns env.locals m) (hv : m x = some v) (h : Q v s)
    (hk : env.scope.kind = .function := by rfl) (hl : env.kindOf x = some .local := by rfl) (hd : (x == ("__debug__" : Str)) = false := by decide +kernel) :
    wpAny M A (eval (.Name x pos) env) Q E s := wpAny_Name (wpAny_loadName_local hk hl hn hv h) hd
theorem ldF {c : Addr} {v : Value} {Q : Value → Shared → Prop} (hc : s.heap.IsCell c (some v)) (h : Q v s) (hcl : env.cells.lookup x = some c := by rfl)
    (hk : env.scope.kind = .function := by rfl) (hl : env.kindOf x = some .free := by rfl) (hd : (x == ("__debug__" : Str)) = false := by decide +kernel) (hn : (x == ("__classdict__" : Str)) = false := by decide +kernel) :
    wpAny M A (eval (.Name x pos) env) Q E s := wpAny_Name (wpAny_loadName_free hk hl hcl hc h hn) hd
theorem ldC {c : Addr} {v : Value} {Q : Value → Shared → Prop} (hc : s.heap.IsCell c (some v)) (h : Q v s) (hcl : env.cells.lookup x = some c := by rfl)
    (hk : env.scope.kind = .function := by rfl) (hl : env.kindOf x = some .cell := by rfl) (hd : (x == ("__debug__" : Str)) = false := by decide +kernel) :
    wpAny M A (eval (.Name x pos) env) Q E s := wpAny_Name (wpAny_loadName_cell hk hl hcl hc h) hd
theorem ldG {mg : Str → Option Value} {v : Value} {Q : Value → Shared → Prop} (hg : s.heap.Ns mainGlobals mg) (hv : mg x = some v) (h : Q v s) (he : env.globals = mainGlobals := by rfl)
    (hk : env.scope.kind = .function := by rfl) (hl : env.kindOf x = some .globalImplicit := by rfl) (hd : (x == ("__debug__" : Str)) = false := by decide +kernel) :
    wpAny M A (eval (.Name x pos) env) Q E s := Name_function_global hk hl (loadGlobal_global (he ▸ hg) hv h) hd
theorem ldB {mg mb : Str → Option Value} {v : Value} {Q : Value → Shared → Prop} (hg : s.heap.Ns mainGlobals mg) (hv : mg x = none) (hb : s.heap.Ns builtinsNs mb) (hw : mb x = some v) (h : Q v s) (he : env.globals = mainGlobals := by rfl) (heb : env.builtins = builtinsNs := by rfl)
    (hk : env.scope.kind = .function := by rfl) (hl : env.kindOf x = some .globalImplicit := by rfl) (hd : (x == ("__debug__" : Str)) = false := by decide +kernel) :
    wpAny M A (eval (.Name x pos) env) Q E s := Name_function_global hk hl (loadGlobal_builtin (he ▸ hg) hv (heb ▸ hb) hw h) hd

theorem lambda_ {params : Arguments} {body : PySem.Expr} {scope : Scope} {Q : Value → Shared → Prop} (hp : params.defaults = []) (hk : params.kw_defaults = [])
    (h : wpAny M A (makeFunction "<lambda>" (env.qual ++ "<lambda>") params (.expr body) scope env [] [] [] pos pos.line) Q E s) :
    wpAny M A (eval (.Lambda params body scope pos) env) Q E s := by
  refine hid fun Gx hGx => ?_
  obtain ⟨po, a, va, ko, kd, kw, d⟩ := params
  refine hGx ?_
  clear hGx Gx
  cases hp; cases hk
  show wpAny M A (do
    let dv ← evalAll []
    let kdv ← holding dv (evalAllOpt [])
    makeFunction "<lambda>" (env.qual ++ "<lambda>") _ (.expr body) scope env dv kdv [] pos pos.line) Q E s
  exact wpAny_bind (wpAny_evalAll_nil (wpAny_bind (wpAny_holding (wpAny_pure h))))
end

theorem szl {α : Type} {l : List α} (h : Nat.ble l.length 64 = true := by rfl) : l.length ≤ sizeLine := Nat.le_trans (Nat.le_of_ble_eq_true h) (by rw [sizeLine_eq]; lia)
theorem Stat.at {w : World} {mg mb : Str → Option Value} {h : Heap} (S : Stat w mg mb h) {P : Addr} {ps : Array Value} (hP : h.get? P = some (tabObj ps)) : mainGlobals ≠ P ∧ h.BuiltinsAt mg P := by
  refine hid fun Gx hGx => ?_
  obtain ⟨bm, ob, b1, b2, b3, b4, b5, b6⟩ := S.bm
  refine hGx ?_
  clear hGx Gx
  have hgP : mainGlobals ≠ P := fun q => by
    refine hid fun Gx hGx => ?_
    obtain ⟨o, es, ep, e, hd, _⟩ := S.g
    refine hGx ?_
    clear hGx Gx
    rw [q, hP] at e; cases e; cases hd
  have hbP : bm ≠ P := fun q => by rw [q, hP] at b3; cases b3; cases b4
  have hbG : bm ≠ mainGlobals := fun q => by
    refine hid fun Gx hGx => ?_
    obtain ⟨o, es, ep, e, hd, _⟩ := S.g
    refine hGx ?_
    clear hGx Gx
    rw [q, e] at b3; cases b3; rw [hd] at b6; cases b6
  exact ⟨hgP, bm, ob, b1, b2, hbG, hbP, b3, b4, b5, b6⟩

theorem letQ {α : Type} {M : Model} {A : Around} {c : Sem α} {Q : α → Shared → Prop} {E : Value → Shared → Prop} {s : Shared} (h : let Q' := Q; let E' := E; wpAny M A c Q' E' s) : wpAny M A c Q E s := h
/-! names of the top -/
theorem mg_none {K : Frag} {h : Heap} {mg : Str → Option Value} {n : Str} (X : K.In h) (G : h.Ns mainGlobals mg) (e : nsIn K mainGlobals n = some none) : mg n = none := by
  refine hid fun Gx hGx => ?_
  obtain ⟨o, es, ep, ho, hd, _, hf⟩ := G
  refine hGx ?_
  clear hGx Gx
  unfold nsIn at e
  split at e
  · rename_i c d es' n' sl q
    have := X _ _ q
    rw [ho] at this
    cases this
    cases hd
    split at e
    · cases e
    · rename_i he
      rw [← hf]
      unfold nsFind findBy
      rw [← Array.find?_toList, he]
      rfl
  · cases e
section
variable {w : World} {mg mb : Str → Option Value} {h : Heap}
theorem g_len (S : Stat w mg mb h) : mg "len" = none := mg_none S.K S.g (by kernel_rfl)
theorem b_len (S : Stat w mg mb h) : mb "len" = some (.builtin "len") := (S.bt _ (by decide +kernel)).trans (by kernel_rfl)
theorem g_max (S : Stat w mg mb h) : mg "max" = none := mg_none S.K S.g (by kernel_rfl)
theorem b_max (S : Stat w mg mb h) : mb "max" = some (.builtin "max") := (S.bt _ (by decide +kernel)).trans (by kernel_rfl)
theorem g_min (S : Stat w mg mb h) : mg "min" = none := mg_none S.K S.g (by kernel_rfl)
theorem b_min (S : Stat w mg mb h) : mb "min" = some (.builtin "min") := (S.bt _ (by decide +kernel)).trans (by kernel_rfl)
theorem g_range (S : Stat w mg mb h) : mg "range" = none := mg_none S.K S.g (by kernel_rfl)
theorem b_range (S : Stat w mg mb h) : mb "range" = some (.type "range") := (S.bt _ (by decide +kernel)).trans (by kernel_rfl)
theorem g_sum (S : Stat w mg mb h) : mg "sum" = none := mg_none S.K S.g (by kernel_rfl)
theorem b_sum (S : Stat w mg mb h) : mb "sum" = some (.builtin "sum") := (S.bt _ (by decide +kernel)).trans (by kernel_rfl)
theorem g_sorted (S : Stat w mg mb h) : mg "sorted" = none := mg_none S.K S.g (by kernel_rfl)
theorem b_sorted (S : Stat w mg mb h) : mb "sorted" = some (.builtin "sorted") := (S.bt _ (by decide +kernel)).trans (by kernel_rfl)
theorem g_list (S : Stat w mg mb h) : mg "list" = none := mg_none S.K S.g (by kernel_rfl)
theorem b_list (S : Stat w mg mb h) : mb "list" = some (.type "list") := (S.bt _ (by decide +kernel)).trans (by kernel_rfl)
theorem g_isinstance (S : Stat w mg mb h) : mg "isinstance" = none := mg_none S.K S.g (by kernel_rfl)
theorem b_isinstance (S : Stat w mg mb h) : mb "isinstance" = some (.builtin "isinstance") := (S.bt _ (by decide +kernel)).trans (by kernel_rfl)
theorem g_tuple (S : Stat w mg mb h) : mg "tuple" = none := mg_none S.K S.g (by kernel_rfl)
theorem b_tuple (S : Stat w mg mb h) : mb "tuple" = some (.type "tuple") := (S.bt _ (by decide +kernel)).trans (by kernel_rfl)
theorem g_sr (S : Stat w mg mb h) : mg "search_reverse" = some (.ref 21) := mg_of S.K S.g (by kernel_rfl)
theorem g_TC (S : Stat w mg mb h) : mg "TupleComp" = some (.ref 45) := mg_of S.K S.g (by kernel_rfl)
theorem g_afs (S : Stat w mg mb h) : mg "add_func_stats" = some (.ref 56) := mg_of S.K S.g (by kernel_rfl)
theorem g_ac (S : Stat w mg mb h) : mg "add_callers" = some (.ref 63) := mg_of S.K S.g (by kernel_rfl)
theorem g_cc (S : Stat w mg mb h) : mg "count_calls" = some (.ref 70) := mg_of S.K S.g (by kernel_rfl)
theorem g_lp (S : Stat w mg mb h) : mg "_law_prog" = some (.ref 77) := mg_of S.K S.g (by kernel_rfl)
theorem g_lw (S : Stat w mg mb h) : mg "_law_walk" = some (.ref 84) := mg_of S.K S.g (by kernel_rfl)
theorem g_lm (S : Stat w mg mb h) : mg "_law_merge" = some (.ref 91) := mg_of S.K S.g (by kernel_rfl)
theorem g_ls (S : Stat w mg mb h) : mg "_law_summed" = some (.ref 98) := mg_of S.K S.g (by kernel_rfl)
theorem g_lsc (S : Stat w mg mb h) : mg "_law_scan" = some (.ref 103) := mg_of S.K S.g (by kernel_rfl)
end
end Mine
end

section
set_option maxHeartbeats 1000000
namespace Mine
open PySem PySem.W PyProof.Rows PySem.Calls

noncomputable def tgts : List PySem.Expr → Option (List Str)
  | [] => some []
  | .Name x _ :: r => (tgts r).map (x :: ·)
  | _ => none
noncomputable def upds (m : Str → Option Value) : List Str → List Value → Str → Option Value
  | x :: xs, v :: vs => upds (fun y => if y = x then some v else m y) xs vs
  | _, _ => m

section
variable {prog : Program} {w : World} {A : Around} {E : Value → Shared → Prop} {s : Shared} {env : Env}

theorem assignInOrder_names {Q : Unit → Shared → Prop} : ∀ {elts : List PySem.Expr} {xs : List Str} {vs : List Value} {m : Str → Option Value} {s : Shared}, tgts elts = some xs → s.heap.Ns env.locals m →
    (∀ x ∈ xs, env.kindOf x = some .local) → env.scope.kind = .function →
    (∀ h' tk, h'.Ns env.locals (upds m xs vs) → (∀ b o, b ≠ env.locals → s.heap.get? b = some o → h'.get? b = some o) → Q () { s with heap := h', toks := tk }) →
    wpAny (model prog w) A (assignInOrder ((assignEach elts env).map (·.2)) vs) Q E s
  | [], xs, vs, m, s, ht, hn, hl, hk, h => by
    cases ht
    have : assignInOrder ((assignEach [] env).map (·.2)) vs = pure () := by cases vs <;> rfl
    rw [this]
    exact wpAny_pure (h s.heap s.toks hn fun _ _ _ e => e)
  | .Name x px :: r, xs, vs, m, s, ht, hn, hl, hk, h => by
    simp only [tgts, Option.map_eq_some_iff] at ht
    obtain ⟨xs', ht, rfl⟩ := ht
    have ha : (assignEach (.Name x px :: r) env).map (·.2) = assign (.Name x px) env :: (assignEach r env).map (·.2) := rfl
    rw [ha]
    cases vs with
    | nil => exact wpAny_pure (h s.heap s.toks hn fun _ _ _ e => e)
    | cons v vs =>
      refine wpAny_bind (wpAny_holding (assign_Name (wpAny_storeName_local (hl x (.head _)) hn (fun h₁ hn₁ hs₁ => ?_) (by rw [hk]; rfl))))
      refine assignInOrder_names ht hn₁ (fun y hy => hl y (.tail _ hy)) hk fun h' tk hn' k' => ?_
      exact h h' tk hn' fun b o hb e => k' b o hb ((hs₁.2 b hb).trans e)
  | .Constant .. :: _, _, _, _, _, ht, _, _, _, _ => by cases ht
  | .BoolOp .. :: _, _, _, _, _, ht, _, _, _, _ => by cases ht
  | .NamedExpr .. :: _, _, _, _, _, ht, _, _, _, _ => by cases ht
  | .BinOp .. :: _, _, _, _, _, ht, _, _, _, _ => by cases ht
  | .UnaryOp .. :: _, _, _, _, _, ht, _, _, _, _ => by cases ht
  | .Lambda .. :: _, _, _, _, _, ht, _, _, _, _ => by cases ht
  | .IfExp .. :: _, _, _, _, _, ht, _, _, _, _ => by cases ht
  | .Dict .. :: _, _, _, _, _, ht, _, _, _, _ => by cases ht
  | .Set .. :: _, _, _, _, _, ht, _, _, _, _ => by cases ht
  | .ListComp .. :: _, _, _, _, _, ht, _, _, _, _ => by cases ht
  | .SetComp .. :: _, _, _, _, _, ht, _, _, _, _ => by cases ht
  | .DictComp .. :: _, _, _, _, _, ht, _, _, _, _ => by cases ht
  | .GeneratorExp .. :: _, _, _, _, _, ht, _, _, _, _ => by cases ht
  | .Await .. :: _, _, _, _, _, ht, _, _, _, _ => by cases ht
  | .Yield .. :: _, _, _, _, _, ht, _, _, _, _ => by cases ht
  | .YieldFrom .. :: _, _, _, _, _, ht, _, _, _, _ => by cases ht
  | .Compare .. :: _, _, _, _, _, ht, _, _, _, _ => by cases ht
  | .Call .. :: _, _, _, _, _, ht, _, _, _, _ => by cases ht
  | .FormattedValue .. :: _, _, _, _, _, ht, _, _, _, _ => by cases ht
  | .JoinedStr .. :: _, _, _, _, _, ht, _, _, _, _ => by cases ht
  | .Attribute .. :: _, _, _, _, _, ht, _, _, _, _ => by cases ht
  | .Subscript .. :: _, _, _, _, _, ht, _, _, _, _ => by cases ht
  | .Starred .. :: _, _, _, _, _, ht, _, _, _, _ => by cases ht
  | .List .. :: _, _, _, _, _, ht, _, _, _, _ => by cases ht
  | .Tuple .. :: _, _, _, _, _, ht, _, _, _, _ => by cases ht
  | .Slice .. :: _, _, _, _, _, ht, _, _, _, _ => by cases ht

/- a tuple is taken apart into plain locals -/
theorem assign_tup {elts : List PySem.Expr} {k : Nat} {pos : Pos} {xs : List Str} {t : Addr} {items : Array Value} {m : Str → Option Value} {Q : Unit → Shared → Prop}
    (hh : A.handled = none) (ht : s.heap.IsTuple t items) (hn : s.heap.Ns env.locals m) (hx : tgts elts = some xs) (hlen : (assignEach elts env).length = items.size) (hst : (assignEach elts env).findIdx? (·.1) = none)
    (hl : ∀ x ∈ xs, env.kindOf x = some .local) (hk : env.scope.kind = .function)
    (h : ∀ h' tk, h'.Ns env.locals (upds m xs items.toList) → (∀ b o, b ≠ env.locals → s.heap.get? b = some o → h'.get? b = some o) → Q () { s with heap := h', toks := tk }) :
    wpAny (model prog w) A (assign (.Tuple elts k pos) env (.ref t)) Q E s := by
  rw [assign_Tuple]
  unfold unpack
  rw [hlen, hst]
  refine wpAny_bind (wpAny_standAt (wpAny_bind (wpAny_holding (wpAny_unpackItems_tuple hh ht fun h₁ he => ?_))))
  have k₁ : ∀ b o, s.heap.get? b = some o → h₁.get? b = some o := fun b o e => he b o (Nat.ne_of_lt (Heap.lt_size e)) e
  refine assignInOrder_names hx (hn.keeps k₁) hl hk fun h' tk hn' k' => h h' tk hn' fun b o hb e => k' b o hb (k₁ b o e)
end
end Mine
end

section
set_option maxHeartbeats 4000000
namespace Mine
open PySem PySem.W PyProof.Rows PySem.Calls

/- the function object search over that word -/
noncomputable def IsSearch (h : Heap) (fs : Addr) (word : Str) : Prop := ∃ c P cw dt t0 tw pm ctv,
  h.get? fs = some (fnObj (fnAny "search" qSearch dSearch.params (.stmts dSearch.body) dSearch.scope [(("word" : Str), cw)] (.ref dt) .none pm (.ref c) ctv)) ∧
  h.get? dt = some { cls := .type "tuple", data := .seq #[.int 0 t0] } ∧ h.IsCell cw (some (.str word tw)) ∧ CodeK h c P qSearch ∧ Leaf h P
/- the function object span -/
noncomputable def IsSpan (h : Heap) (fs : Addr) (i : Int) (word : Str) : Prop := ∃ c P cb cw ti tw pm ctv,
  h.get? fs = some (fnObj (fnAny "<lambda>" qHit lSpan.params (.expr lSpan.body) lSpan.scope [(("word" : Str), cw), (("begin" : Str), cb)] .none .none pm (.ref c) ctv)) ∧
  h.IsCell cb (some (.int i ti)) ∧ h.IsCell cw (some (.str word tw)) ∧ CodeK h c P qHit
noncomputable def IsHit (h : Heap) (v : Value) (i : Int) (word : Str) : Prop := ∃ x d fd fs, v = .ref x ∧ FnDict h x d fd (fun y => if y = "span" then some (.ref fs) else none) ∧ IsSpan h fs i word
noncomputable def IsProg (h : Heap) (v : Value) (word : Str) : Prop := ∃ x d fd fs, v = .ref x ∧ FnDict h x d fd (fun y => if y = "search" then some (.ref fs) else none) ∧ IsSearch h fs word

section
variable {h h' : Heap}
theorem IsCell.stay (k : Stay h h') {c : Addr} {v : Option Value} (x : h.IsCell c v) : h'.IsCell c v := by
  obtain ⟨o, e, hd⟩ := x
  exact ⟨o, k _ _ e (fun ⟨ps, q⟩ => by rw [q] at hd; cases hd), hd⟩
theorem IsSearch.ev (k : Ev h h') {fs : Addr} {word : Str} (x : IsSearch h fs word) : IsSearch h' fs word := by
  refine hid fun Gx hGx => ?_
  obtain ⟨c, P, cw, dt, t0, tw, pm, ctv, e1, e2, e3, e4, e5⟩ := x
  refine hGx ?_
  clear hGx Gx
  exact ⟨c, P, cw, dt, t0, tw, pm, ctv, k.keep _ _ e1 (not_tab nofun), k.keep _ _ e2 (not_tab nofun), IsCell.stay k.keep e3, e4.stay k.keep, k.leaf _ e5⟩
theorem IsSpan.stay (k : Stay h h') {fs : Addr} {i : Int} {word : Str} (x : IsSpan h fs i word) : IsSpan h' fs i word := by
  refine hid fun Gx hGx => ?_
  obtain ⟨c, P, cb, cw, ti, tw, pm, ctv, e1, e2, e3, e4⟩ := x
  refine hGx ?_
  clear hGx Gx
  exact ⟨c, P, cb, cw, ti, tw, pm, ctv, k _ _ e1 (not_tab nofun), IsCell.stay k e2, IsCell.stay k e3, e4.stay k⟩
theorem IsSpan.but {fs a : Addr} {i : Int} {word : Str} {fd : FuncData} (x : IsSpan h fs i word) (ha : h.get? a = some (fnObj fd)) (hne : fs ≠ a) (k : ∀ b o, b ≠ a → h.get? b = some o → h'.get? b = some o) : IsSpan h' fs i word := by
  refine hid fun Gx hGx => ?_
  obtain ⟨c, P, cb, cw, ti, tw, pm, ctv, e1, ⟨o2, e2, d2⟩, ⟨o3, e3, d3⟩, e4⟩ := x
  refine hGx ?_
  clear hGx Gx
  refine ⟨c, P, cb, cw, ti, tw, pm, ctv, k _ _ hne e1, ⟨o2, k _ _ (fun q => ?_) e2, d2⟩, ⟨o3, k _ _ (fun q => ?_) e3, d3⟩, e4.but ha (.of_data nofun) k⟩
  · rw [q, ha] at e2; cases e2; cases d2
  · rw [q, ha] at e3; cases e3; cases d3
theorem FnDict.stay (k : Stay h h') {x d : Addr} {fd : FuncData} {md : Str → Option Value} (y : FnDict h x d fd md) : FnDict h' x d fd md := by
  obtain ⟨⟨sl, e⟩, n⟩ := y
  exact ⟨⟨sl, k _ _ e (not_tab nofun)⟩, Ns.stay k n⟩
theorem IsHit.stay (k : Stay h h') {v : Value} {i : Int} {word : Str} (x : IsHit h v i word) : IsHit h' v i word := by
  refine hid fun Gx hGx => ?_
  obtain ⟨x, d, fd, fs, e, f, sp⟩ := x
  refine hGx ?_
  clear hGx Gx
  exact ⟨x, d, fd, fs, e, FnDict.stay k f, sp.stay k⟩
theorem IsProg.ev (k : Ev h h') {v : Value} {word : Str} (x : IsProg h v word) : IsProg h' v word := by
  refine hid fun Gx hGx => ?_
  obtain ⟨x, d, fd, fs, e, f, sp⟩ := x
  refine hGx ?_
  clear hGx Gx
  exact ⟨x, d, fd, fs, e, FnDict.stay k.keep f, sp.ev k⟩
end

section
variable {prog : Program} {w : World} {A : Around} {s : Shared} {R : Result → Shared → Prop} {mg mb : Str → Option Value}

theorem search_binds2 {cw dt : Addr} {t0 : Tok} {pm cd ctv v1 v2 : Value} (hs : s.heap.get? dt = some { cls := .type "tuple", data := .seq #[.int 0 t0] }) :
    BindsTo s (fnAny "search" qSearch dSearch.params (.stmts dSearch.body) dSearch.scope [(("word" : Str), cw)] (.ref dt) .none pm cd ctv) ⟨[v1, v2], []⟩ [(("chars" : Str), v1), (("place" : Str), v2)] :=
  BindsTo.of_defaults rfl hs rfl rfl rfl
theorem search_binds1 {cw dt : Addr} {t0 : Tok} {pm cd ctv v1 : Value} (hs : s.heap.get? dt = some { cls := .type "tuple", data := .seq #[.int 0 t0] }) :
    BindsTo s (fnAny "search" qSearch dSearch.params (.stmts dSearch.body) dSearch.scope [(("word" : Str), cw)] (.ref dt) .none pm cd ctv) ⟨[v1], []⟩ [(("chars" : Str), v1), (("place" : Str), .int 0 t0)] :=
  BindsTo.of_defaults rfl hs rfl rfl rfl

noncomputable abbrev envS (L cb cw fs c : Addr) : Env := newEnv dSearch.scope L mainGlobals [(("begin" : Str), cb), (("word" : Str), cw)] (qSearch ++ ".<locals>.") (some fs) (.ref c) none builtinsNs

theorem IsCell.plain {h : Heap} {c : Addr} {v : Option Value} (x : h.IsCell c v) : ∃ o, h.get? c = some o ∧ Plain o := by
  obtain ⟨o, e, hd⟩ := x
  exact ⟨o, e, .of_data fun vs => by rw [hd]; nofun⟩
theorem Ev.setCell {h₀ h h' : Heap} {c : Addr} {v : Option Value} (x : Ev h₀ h) (hc : h.IsCell c v) (hn : h₀.get? c = none) (k : Heap.SameBut c h h') : Ev h₀ h' := by
  obtain ⟨o, e, p⟩ := IsCell.plain hc
  exact x.set e p hn fun b ob hb e => (k.2 b hb).trans e
theorem Ev.pushed {h₀ h : Heap} (x : Ev h₀ h) (o : Obj) : Ev h₀ (h.push o) := x.trans (.push o)
/- a table is no cell, no namespace, no function -/
theorem tab_ne {h : Heap} {P b : Addr} {ps : Array Value} {o : Obj} (hP : h.get? P = some (tabObj ps)) (e : h.get? b = some o) (hn : ¬ IsTab o) : b ≠ P := fun q => by
  rw [q, hP] at e; cases e; exact hn ⟨ps, rfl⟩
theorem IsCell.but {h h' : Heap} {c a : Addr} {v : Option Value} (x : h.IsCell c v) (hca : c ≠ a) (k : ∀ b o, b ≠ a → h.get? b = some o → h'.get? b = some o) : h'.IsCell c v := by
  obtain ⟨o, e, hd⟩ := x
  exact ⟨o, k _ _ hca e, hd⟩
theorem entry_hit {h : Heap} {c P : Addr} (x : CodeK h c P qHit) : Entry h lHit.pos c P := ⟨fun _ _ => x, fun _ _ => x, fun q _ => absurd q (by decide +kernel), fun q _ => absurd q (by decide +kernel)⟩
theorem entry_span {h : Heap} {c P : Addr} (x : CodeK h c P qHit) : Entry h lSpan.pos c P := ⟨fun _ _ => x, fun _ _ => x, fun q _ => absurd q (by decide +kernel), fun q _ => absurd q (by decide +kernel)⟩

theorem search_body {L cb cw fs c P : Addr} {m : Str → Option Value} {chars word : Str} {place : Int} {t1 t2 tw : Tok} {h₀ : Heap} {E : Value → Shared → Prop} {Q : Flow → Shared → Prop}
    (S : Stat w mg mb h₀) (hcw : h₀.IsCell cw (some (.str word tw))) (hck : CodeK h₀ c P qSearch) (hl : Leaf h₀ P)
    (x : Ev h₀ s.heap) (hL0 : h₀.get? L = none) (hb0 : h₀.get? cb = none) (hLb : cb ≠ L)
    (hn : s.heap.Ns L m) (hm1 : m "chars" = some (.str chars t1)) (hm2 : m "place" = some (.int place t2)) (hcb : s.heap.IsCell cb none)
    (h1 : Txt.find3 chars word place < 0 → ∀ h' tk, Ev h₀ h' → Q (.ret .none) { s with heap := h', toks := tk })
    (h2 : ¬ Txt.find3 chars word place < 0 → ∀ v h' tk, Ev h₀ h' → IsHit h' v (Txt.find3 chars word place) word → Q (.ret v) { s with heap := h', toks := tk }) :
    wpAny (model prog w) A (execs dSearch.body (envS L cb cw fs c)) Q E s := by
  generalize hf : Txt.find3 chars word place = i at h1 h2
  refine hid fun Gx hGx => ?_
  obtain ⟨h, g, dr, tk, os⟩ := s
  refine hGx ?_
  clear hGx Gx
  dsimp only at *
  refine letQ ?_
  intro Qx Ex
  refine wpAny_execs_cons (wpAny_Assign_Name (MethodCall_ (ldL hn hm1 (GM.find (callWith_method1 ?_)))))
  refine wpAny_items_cons (ldF (IsCell.stay x.keep hcw) (wpAny_items_cons (ldL hn hm2 (wpAny_items_nil (SC.find3 ?_)))))
  rw [hf]
  refine wpAny_storeName_cell rfl rfl rfl hcb fun h₁ hcb₁ hs₁ => ?_
  have hn₁ : h₁.Ns L m := hn.sameBut hs₁ hLb.symm
  have x₁ := x.setCell hcb hb0 hs₁
  clear hs₁
  dsimp only
  refine wpAny_execs_cons (wpAny_If (wpAny_isTrue_Compare1 (ldC hcb₁ (wpAny_Constant_int (wpAny_lt_int (wpAny_truthy_bool ?_))))))
  by_cases hi : i < 0
  · rw [decide_eq_true hi, if_pos rfl]
    refine letQ ?_
    intro Qx Ex
    refine wpAny_execs_cons (wpAny_Return_some (wpAny_Constant_none ?_))
    exact h1 hi _ _ x₁
  rw [decide_eq_false hi, if_neg Bool.false_ne_true]
  refine wpAny_execs_nil (wpAny_execs_cons (wpAny_Assign_Name (lambda_ rfl rfl ?_)))
  dsimp only
  refine hid fun Gx hGx => ?_
  obtain ⟨⟨ps, hP, ht, hH, _⟩, ar⟩ := x₁.leaf _ hl
  refine hGx ?_
  clear hGx Gx
  have at₁ := (S.stay x₁.keep).at hP
  refine makeFn_plain (mg := mg) (clos := []) rfl rfl (S.stay x₁.keep).g rfl (CodeHd.stay x₁.keep hck.2) hP ht at₁.1 at₁.2 nofun ?_
  intro cv ctv h₂ tk₂ ps₂ k₂ sz₂ hP₂ ht₂ M₂
  dsimp only at k₂ sz₂ M₂ ⊢
  have hn₂ : h₂.Ns L m := by
    refine hid fun Gx hGx => ?_
    obtain ⟨o, es, ep, e, hd, r⟩ := hn₁
    refine hGx ?_
    clear hGx Gx
    exact ⟨o, es, ep, k₂ _ _ (tab_ne hP e (not_tab_dict hd)) e, hd, r⟩
  have hcb₂ : h₂.IsCell cb (some (.int i tk)) := by
    obtain ⟨o, e, hd⟩ := hcb₁
    exact ⟨o, k₂ _ _ (tab_ne hP e fun ⟨ps, q⟩ => by rw [q] at hd; cases hd) e, hd⟩
  have x₂ : Ev h₀ h₂ := x₁.made hP ht (.inr ar) k₂ hP₂ M₂ fun c' P' hc _ _ _ => entry_hit hc
  clear k₂ M₂ hn₁ hcb₁ x₁ hP ht hH at₁ sz₂ hP₂ ht₂
  generalize hfd : fnAny (Str.ofString "<lambda>") _ _ _ _ _ _ _ _ _ _ = fd
  clear hfd
  have hLx : L < h₂.objs.size := hn₂.lt
  have hbx : cb < h₂.objs.size := hcb₂.lt
  refine wpAny_storeName_local rfl (hn₂.push _) (fun h₃ hn₃ hs₃ => ?_) rfl
  dsimp only at hs₃ ⊢
  have hx₃ : h₃.get? h₂.objs.size = some (fnObj fd) := (hs₃.2 _ (Nat.ne_of_gt hLx)).trans (Heap.get?_push_size _ rfl)
  have hcb₃ : h₃.IsCell cb (some (.int i tk)) := (hcb₂.keeps fun b o e => Heap.get?_push_of_some _ e).sameBut hs₃ hLb
  have x₃ : Ev h₀ h₃ := (x₂.pushed (fnObj fd)).setNs (hn₂.push _) hL0 hs₃
  have hx0 : h₀.get? h₂.objs.size = none := x₂.fresh (Nat.le_refl _)
  clear hs₃ hn₂ hcb₂ x₂
  generalize h₂.objs.size = xa at *
  refine wpAny_execs_cons ?_
  refine plainObj_wpAny_Assign_Attribute ?_ ?_
  rotate_left
  · rfl
  refine lambda_ rfl rfl ?_
  refine hid fun Gx hGx => ?_
  obtain ⟨⟨ps₃, hP₃, ht₃, _, hS₃⟩, ar₃⟩ := x₃.leaf _ hl
  refine hGx ?_
  clear hGx Gx
  have at₃ := (S.stay x₃.keep).at hP₃
  refine makeFn_plain (mg := mg) (clos := [(("word" : Str), cw), (("begin" : Str), cb)]) rfl rfl (S.stay x₃.keep).g rfl (CodeHd.stay x₃.keep hck.2) hP₃ ht₃ at₃.1 at₃.2 nofun ?_
  intro cv₄ ctv₄ h₄ tk₄ ps₄ k₄ sz₄ hP₄ ht₄ M₄
  dsimp only at k₄ sz₄ M₄ ⊢
  have hn₄ : h₄.Ns L (fun y => if y = "hit" then some (.ref xa) else m y) := by
    refine hid fun Gx hGx => ?_
    obtain ⟨o, es, ep, e, hd, r⟩ := hn₃
    refine hGx ?_
    clear hGx Gx
    exact ⟨o, es, ep, k₄ _ _ (tab_ne hP₃ e (not_tab_dict hd)) e, hd, r⟩
  have hcb₄ : h₄.IsCell cb (some (.int i tk)) := by
    obtain ⟨o, e, hd⟩ := hcb₃
    exact ⟨o, k₄ _ _ (tab_ne hP₃ e fun ⟨ps, q⟩ => by rw [q] at hd; cases hd) e, hd⟩
  have hx₄ : h₄.get? xa = some (fnObj fd) := k₄ _ _ (tab_ne hP₃ hx₃ (not_tab nofun)) hx₃
  have x₄ : Ev h₀ h₄ := x₃.made hP₃ ht₃ (.inr ar₃) k₄ hP₄ M₄ fun c' P' hc _ _ _ => entry_span hc
  have hcv : ∃ c' P', cv₄ = .ref c' ∧ CodeK h₄ c' P' qHit := by
    have st := stay_but hP₃ k₄
    cases M₄ with
    | hit e1 e2 => obtain ⟨c', P', e, q⟩ := hS₃ _ e1; exact ⟨c', P', e, q.stay st⟩
    | new e1 e2 e3 e4 e5 e6 e7 => subst e3; exact ⟨_, _, rfl, e4, e5⟩
  refine hid fun Gx hGx => ?_
  obtain ⟨c', P', rfl, hc'⟩ := hcv
  refine hGx ?_
  clear hGx Gx
  have sp₄ : IsSpan (h₄.push (fnObj (fnAny "<lambda>" qHit lSpan.params (.expr lSpan.body) lSpan.scope [(("word" : Str), cw), (("begin" : Str), cb)] .none .none ((mg "__name__").getD .none) (.ref c') ctv₄))) h₄.objs.size i word :=
    ⟨c', P', cb, cw, tk, tw, _, ctv₄, Heap.get?_push_size _ rfl, hcb₄.keeps fun b o e => Heap.get?_push_of_some _ e, (IsCell.stay x₄.keep hcw).keeps fun b o e => Heap.get?_push_of_some _ e, hc'.stay (Ev.push _).keep⟩
  have hLs : L < h₄.objs.size := hn₄.lt
  have hxs : xa < h₄.objs.size := Heap.lt_size hx₄
  have x₅ := x₄.pushed (fnObj (fnAny "<lambda>" qHit lSpan.params (.expr lSpan.body) lSpan.scope [(("word" : Str), cw), (("begin" : Str), cb)] .none .none ((mg "__name__").getD .none) (.ref c') ctv₄))
  change wpAny _ _ _ _ _ ⟨h₄.push (fnObj (fnAny "<lambda>" qHit lSpan.params (.expr lSpan.body) lSpan.scope [(("word" : Str), cw), (("begin" : Str), cb)] .none .none ((mg "__name__").getD .none) (.ref c') ctv₄)), _, _, _, _⟩
  have hn₅ := hn₄.push (fnObj (fnAny "<lambda>" qHit lSpan.params (.expr lSpan.body) lSpan.scope [(("word" : Str), cw), (("begin" : Str), cb)] .none .none ((mg "__name__").getD .none) (.ref c') ctv₄))
  have hx₅ := Heap.get?_push_of_some (fnObj (fnAny "<lambda>" qHit lSpan.params (.expr lSpan.body) lSpan.scope [(("word" : Str), cw), (("begin" : Str), cb)] .none .none ((mg "__name__").getD .none) (.ref c') ctv₄)) hx₄
  generalize hh₅ : h₄.push (fnObj (fnAny "<lambda>" qHit lSpan.params (.expr lSpan.body) lSpan.scope [(("word" : Str), cw), (("begin" : Str), cb)] .none .none ((mg "__name__").getD .none) (.ref c') ctv₄)) = h₅ at *
  clear hh₅ hP₄ ht₄ M₄ k₄ hS₃ at₃
  refine ldL hn₅ (by rfl) ?_
  refine fn_setAttr hx₅ fn_no_span fun h₆ tk₆ hx₆ hd₆ k₆ => ?_
  dsimp only at hx₆ hd₆ k₆ ⊢
  have hxL : L ≠ xa := Nat.ne_of_lt hLx
  have x₆ : Ev h₀ h₆ := x₅.set hx₅ (.of_data nofun) hx0 k₆
  have hn₆ : h₆.Ns L (fun y => if y = "hit" then some (.ref xa) else m y) := hn₅.at' fun o e => k₆ _ _ hxL e
  refine wpAny_execs_cons (wpAny_Return_some (ldL hn₆ (by rfl) ?_))
  exact h2 hi _ _ _ x₆ ⟨xa, _, fd, _, rfl, ⟨⟨_, hx₆⟩, hd₆⟩, sp₄.but hx₅ (Nat.ne_of_gt hxs) k₆⟩

theorem search_ct {fs : Addr} {vals : List Value} {chars word : Str} {place : Int} {t1 t2 : Tok} (S : Stat w mg mb s.heap) (X : IsSearch s.heap fs word) (hroom : A.depth < recursionLimit)
    (hv : vals = [.str chars t1, .int place t2] ∨ (vals = [.str chars t1] ∧ place = 0))
    (h1 : Txt.find3 chars word place < 0 → ∀ h' tk, Ev s.heap h' → R (.ok (.ret .none)) { s with heap := h', toks := tk })
    (h2 : ¬ Txt.find3 chars word place < 0 → ∀ v h' tk, Ev s.heap h' → IsHit h' v (Txt.find3 chars word place) word → R (.ok (.ret v)) { s with heap := h', toks := tk }) :
    codeAny (model prog w) A (.call (.ref fs) ⟨vals, []⟩) R s := by
  refine hid fun Gx hGx => ?_
  obtain ⟨c, P, cw, dt, t0, tw, pm, ctv, e1, e2, e3, e4, e5⟩ := X
  refine hGx ?_
  clear hGx Gx
  have hb : ∃ u, BindsTo s (fnAny "search" qSearch dSearch.params (.stmts dSearch.body) dSearch.scope [(("word" : Str), cw)] (.ref dt) .none pm (.ref c) ctv) ⟨vals, []⟩ [(("chars" : Str), .str chars t1), (("place" : Str), .int place u)] := by
    rcases hv with rfl | ⟨rfl, rfl⟩
    · exact ⟨t2, search_binds2 e2⟩
    · exact ⟨t0, search_binds1 e2⟩
  obtain ⟨u, hb⟩ := hb
  refine codeAny_call_function hroom e1 rfl rfl rfl rfl e4.1 (hb _ _ _ _ ?_)
  refine newFnEnv_clos rfl (by intro y hy; simp only [List.mem_cons, List.not_mem_nil, or_false] at hy; rcases hy with rfl | rfl <;> rfl) fun h₁ hn hk hc => ?_
  have x : Ev s.heap h₁ := .of_keeps hk
  have hcb := hc "begin" (s.heap.objs.size + 1) (.head _)
  have hL0 : s.heap.get? s.heap.objs.size = none := Heap.get?_none_of_le (Nat.le_refl _)
  have hb0 : s.heap.get? (s.heap.objs.size + 1) = none := Heap.get?_none_of_le (Nat.le_succ _)
  refine ⟨(S.stay x.keep).nl, codeAny_func ?_⟩
  exact search_body (L := s.heap.objs.size) (cb := s.heap.objs.size + 1) (h₀ := s.heap) S e3 e4 e5 x hL0 hb0 (Nat.succ_ne_self _) hn rfl rfl hcb.1 (fun hlt h' tk ev => h1 hlt h' tk ev) (fun hge v h' tk ev ih => h2 hge v h' tk ev ih)
end
end Mine
end

section
set_option maxHeartbeats 4000000
namespace Mine
open PySem PySem.W PyProof.Rows PySem.Calls

section
variable {prog : Program} {w : World} {A : Around} {s : Shared} {R : Result → Shared → Prop} {mg mb : Str → Option Value}

theorem span_ct {fs : Addr} {i : Int} {word : Str} (S : Stat w mg mb s.heap) (X : IsSpan s.heap fs i word) (hroom : A.depth < recursionLimit) (hw : word.length ≤ 2 ^ 20)
    (h : ∀ T t1 t2 h' tk, (∀ b o, s.heap.get? b = some o → h'.get? b = some o) → s.heap.get? T = none → h'.get? T = some { cls := .type "tuple", data := .seq #[.int i t1, .int (i + (word.length : Int)) t2] } → R (.ok (.ret (.ref T))) { s with heap := h', toks := tk }) :
    codeAny (model prog w) A (.call (.ref fs) ⟨[], []⟩) R s := by
  refine hid fun Gx hGx => ?_
  obtain ⟨c, P, cb, cw, ti, tw, pm, ctv, e1, e2, e3, e4⟩ := X
  refine hGx ?_
  clear hGx Gx
  refine kla_callFunE hroom e1 rfl rfl rfl rfl e4.1 (BindsTo.of_eq (binds := []) rfl _ _ _ _ ?_)
  refine newFnEnv_clos rfl (fun y hy => nomatch hy) fun h₁ hn hk hc => ?_
  have x : Ev s.heap h₁ := .of_keeps hk
  have S₁ := S.stay x.keep
  refine ⟨S₁.nl, kla_codeExpr ?_⟩
  have f2 := e2.keeps hk
  have f3 := e3.keeps hk
  refine wpAny_Tuple (wpAny_items_cons (ldF f2 (wpAny_items_cons (wpAny_BinOp (ldF f2 (Call_ (ldB S₁.g (g_len S₁) S₁.b (b_len S₁) ?_)))))))
  refine PyProof.Rows.callWith_builtin1 (wpAny_items_cons (ldF f3 (wpAny_items_nil ?_)))
  refine len_str (by lia) ?_
  refine wpAny_add_int (wpAny_items_nil ⟨szl, ?_⟩)
  refine h _ _ _ _ _ (fun b o e => Heap.get?_push_of_some _ (hk b o e)) (Heap.get?_none_of_le (Nat.le_of_lt hn.lt)) (Heap.get?_push_size _ rfl)
end
end Mine
end

section
set_option maxHeartbeats 1000000
namespace Mine
open PySem PySem.W PyProof.Rows PySem.Calls

theorem K77 (P : Params) : ∃ pm ct, (KF P).lookup 77 = some (fnObj (fnAny "_law_prog" qLP dLP.params (.stmts dLP.body) dLP.scope [] .none .none pm (.ref 76) ct)) := ⟨_, _, rfl⟩
theorem K76 (P : Params) : codeHdIn (KF P) 76 72 = true := by kernel_rfl
theorem C76 (P : Params) : codeIn (KF P) (.ref 76) qLP = true := by kernel_rfl

section
variable {prog : Program} {w : World} {A : Around} {s : Shared} {R : Result → Shared → Prop} {mg mb : Str → Option Value}

noncomputable abbrev envP (L cw fs : Addr) : Env := newEnv dLP.scope L mainGlobals [(("word" : Str), cw)] (qLP ++ ".<locals>.") (some fs) (.ref 76) none builtinsNs

theorem def_dflt {M : Model} {E : Value → Shared → Prop} {env : Env} {name bind : Str} {po a ko : List Arg} {e : PySem.Expr} {body : List Stmt} {scope : Scope} {pos : Pos} {Q : Flow → Shared → Prop}
    (hna : annotationsOf (a ++ po ++ ko) env = [])
    (h : wpAny M A (eval e env) (fun v s₁ => wpAny M A (makeFunction name (qualnameIn env name bind) ⟨po, a, none, ko, [], none, [e]⟩ (.stmts body) scope env [v] [] [] pos pos.line) (fun f s₂ => wpAny M A (storeName env bind f) (fun _ => Q .next) E s₂) E s₁) E s) :
    wpAny M A (exec (.FunctionDef name ⟨po, a, none, ko, [], none, [e]⟩ body [] none [] scope none bind pos) env) Q E s := by
  rw [arm_exec_FunctionDef, arm_defaultsOf_mk, arm_evalEach_nil, arm_evalEach_cons, arm_evalEach_nil, arm_evalEachOpt_nil]
  unfold defStmt
  simp only [List.isEmpty_nil, Bool.not_true, Bool.false_and, Bool.false_eq_true, if_false, List.map_nil]
  refine wpAny_bind (wpAny_evalAll_nil (wpAny_bind (wpAny_standAt (wpAny_bind (wpAny_holding ?_)))))
  refine wpAny_bind (wpAny_evalAll_cons (wpAny_mono h (fun v s₁ h₁ => wpAny_evalAll_nil ?_) fun _ _ x => x))
  refine wpAny_bind (wpAny_holding (wpAny_pure (wpAny_holding ?_)))
  have hn : (annotationsOf (a ++ po ++ (none : Option Arg).toList ++ ko ++ (none : Option Arg).toList) env ++ (Option.map (fun x => (("return" : Str), x)) (evalOpt none env)).toList) = [] := by
    simp only [Option.toList_none, List.append_nil, evalOpt, Option.map_none]
    exact hna
  rw [hn]
  refine wpAny_bind (wpAny_pure (wpAny_mono h₁ (fun f s₂ h₂ => ?_) fun _ _ x => x))
  exact wpAny_bind (wpAny_pure (wpAny_bind (wpAny_standAt (wpAny_bind (wpAny_bindName (wpAny_mono h₂ (fun _ s₃ h₃ => wpAny_pure h₃) fun _ _ x => x))))))

theorem entry_prog {h : Heap} {c P : Addr} (x : CodeK h c P qProg) : Entry h lProg.pos c P := ⟨fun q _ => absurd q (by decide +kernel), fun q _ => absurd q (by decide +kernel), fun _ _ => x, fun q _ => absurd q (by decide +kernel)⟩
theorem entry_search {h : Heap} {c P : Addr} (x : CodeK h c P qSearch) (l : Leaf h P) : Entry h dSearch.pos c P := ⟨fun q _ => absurd q (by decide +kernel), fun q _ => absurd q (by decide +kernel), fun q _ => absurd q (by decide +kernel), fun _ _ => ⟨x, l⟩⟩
theorem Ns.but {h h' : Heap} {P L : Addr} {ps : Array Value} {m : Str → Option Value} (hn : h.Ns L m) (hP : h.get? P = some (tabObj ps)) (k : ∀ b o, b ≠ P → h.get? b = some o → h'.get? b = some o) : h'.Ns L m := by
  refine hid fun Gx hGx => ?_
  obtain ⟨o, es, ep, e, hd, r⟩ := hn
  refine hGx ?_
  clear hGx Gx
  exact ⟨o, es, ep, k _ _ (tab_ne hP e (not_tab_dict hd)) e, hd, r⟩
theorem IsCell.butT {h h' : Heap} {P c : Addr} {ps : Array Value} {v : Option Value} (hc : h.IsCell c v) (hP : h.get? P = some (tabObj ps)) (k : ∀ b o, b ≠ P → h.get? b = some o → h'.get? b = some o) : h'.IsCell c v := by
  obtain ⟨o, e, hd⟩ := hc
  exact ⟨o, k _ _ (tab_ne hP e fun ⟨ps, q⟩ => by rw [q] at hd; cases hd) e, hd⟩
theorem CodeHd76 {h : Heap} (X : (KF w.params).In h) : CodeHd h 76 72 := codeHd_of_K X (K76 _)

theorem IsSearch.setNs {h h' : Heap} {L sa : Addr} {m : Str → Option Value} {word : Str} (x : IsSearch h sa word) (hn : h.Ns L m) (hs : Heap.SameBut L h h') : IsSearch h' sa word := by
  refine hid fun Gx hGx => ?_
  obtain ⟨o, e, p⟩ := Plain.ns hn
  obtain ⟨c, P, cw', dt', t0, tw', pm, ctv', e1, e2, ⟨o3, e3, d3⟩, e4, e5⟩ := x
  refine hGx ?_
  clear hGx Gx
  have k : ∀ b o, b ≠ L → h.get? b = some o → h'.get? b = some o := fun b o hb e => (hs.2 b hb).trans e
  refine hid fun Gx hGx => ?_
  obtain ⟨oL, es, ep, eL, dL, _⟩ := hn
  refine hGx ?_
  clear hGx Gx
  have ne : ∀ {b : Addr} {ob : Obj}, h.get? b = some ob → (∀ es ep, ob.data ≠ .dict es ep) → b ≠ L := fun e hd q => by rw [q, eL] at e; cases e; exact hd _ _ dL
  exact ⟨c, P, cw', dt', t0, tw', pm, ctv', k _ _ (ne e1 nofun) e1, k _ _ (ne e2 nofun) e2, ⟨o3, k _ _ (ne e3 (by rw [d3]; nofun)) e3, d3⟩, e4.but e p k, (TabEv.but e p k).leaf _ e5⟩
theorem IsSearch.but {h h' : Heap} {a sa : Addr} {fd : FuncData} {word : Str} (x : IsSearch h sa word) (ha : h.get? a = some (fnObj fd)) (hne : sa ≠ a) (k : ∀ b o, b ≠ a → h.get? b = some o → h'.get? b = some o) : IsSearch h' sa word := by
  refine hid fun Gx hGx => ?_
  obtain ⟨c, P, cw', dt', t0, tw', pm, ctv', e1, e2, ⟨o3, e3, d3⟩, e4, e5⟩ := x
  refine hGx ?_
  clear hGx Gx
  have ne : ∀ {b : Addr} {ob : Obj}, h.get? b = some ob → (∀ f, ob.data ≠ .func f) → b ≠ a := fun e hd q => by rw [q, ha] at e; cases e; exact hd _ rfl
  have pl : Plain (fnObj fd) := .of_data nofun
  have T := TabEv.but ha pl k
  have n2 : dt' ≠ a := ne e2 fun f q => Data.noConfusion q
  have n3 : cw' ≠ a := ne e3 fun f q => by rw [d3] at q; cases q
  exact ⟨c, P, cw', dt', t0, tw', pm, ctv', k _ _ hne e1, k _ _ n2 e2, ⟨o3, k _ _ n3 e3, d3⟩, e4.but ha pl k, T.leaf _ e5⟩

theorem prog_body {L cw fs : Addr} {m : Str → Option Value} {word : Str} {tw : Tok} {h₀ : Heap} {E : Value → Shared → Prop} {Q : Flow → Shared → Prop}
    (S : Stat w mg mb h₀) (hr : Root h₀) (x : Ev h₀ s.heap) (hL0 : h₀.get? L = none)
    (hn : s.heap.Ns L m) (hcw : s.heap.IsCell cw (some (.str word tw))) (hcL : cw ≠ L)
    (h2 : ∀ v h' tk, Ev h₀ h' → IsProg h' v word → Q (.ret v) { s with heap := h', toks := tk }) :
    wpAny (model prog w) A (execs dLP.body (envP L cw fs)) Q E s := by
  refine hid fun Gx hGx => ?_
  obtain ⟨h, g, dr, tk, os⟩ := s
  refine hGx ?_
  clear hGx Gx
  dsimp only at *
  refine letQ ?_
  intro Qx Ex
  refine wpAny_execs_cons (def_dflt rfl (wpAny_Constant_int ?_))
  dsimp only
  refine hid fun Gx hGx => ?_
  obtain ⟨ps, hP, ht, hH, hS⟩ := x.root hr
  refine hGx ?_
  clear hGx Gx
  have at₁ := (S.stay x.keep).at hP
  refine makeFn_dflt (mg := mg) (clos := [(("word" : Str), cw)]) rfl rfl (S.stay x.keep).g rfl (CodeHd76 (S.stay x.keep).K) hP ht at₁.1 at₁.2 (by intro b hb; cases hb; rfl) ?_
  intro cv ctv dt h₁ tk₁ ps₁ k₁ sz₁ hP₁ ht₁ M₁ hdt hdo
  dsimp only at k₁ sz₁ M₁ hdt ⊢
  have hn₁ : h₁.Ns L m := Ns.but hn hP k₁
  have hcw₁ := IsCell.butT hcw hP k₁
  have x₁ : Ev h₀ h₁ := x.made hP ht (.inl rfl) k₁ hP₁ M₁ fun c' P' hc hl hn e => entry_search hc (leaf_new ht hn e hc hl)
  have hcv : ∃ c' P', cv = .ref c' ∧ CodeK h₁ c' P' qSearch ∧ Leaf h₁ P' := by
    have st := stay_but hP k₁
    cases M₁ with
    | hit e1 e2 =>
      refine hid fun Gx hGx => ?_
      obtain ⟨c', P', e, q, l⟩ := hS _ e1
      refine hGx ?_
      clear hGx Gx
      subst e2
      refine ⟨c', P', e, q.stay st, (Ev.of_tabs st fun b ps' eb => ?_).leaf _ l⟩
      by_cases hb : b = 72
      · subst hb; rw [hP] at eb; cases eb; exact hP₁
      · exact k₁ _ _ hb eb
    | new e1 e2 e3 e4 e5 e6 e7 => subst e3 e2; exact ⟨_, _, rfl, ⟨e4, e5⟩, leaf_new ht e1 hP₁ ⟨e4, e5⟩ (leaf_nil e6)⟩
  refine hid fun Gx hGx => ?_
  obtain ⟨c', P', rfl, hc', hl'⟩ := hcv
  refine hGx ?_
  clear hGx Gx
  have hLx : L < h₁.objs.size := hn₁.lt
  have se₁ : IsSearch (h₁.push (fnObj (fnAny "search" qSearch dSearch.params (.stmts dSearch.body) dSearch.scope [(("word" : Str), cw)] (.ref dt) .none ((mg "__name__").getD .none) (.ref c') ctv))) h₁.objs.size word :=
    ⟨c', P', cw, dt, tk, tw, _, ctv, Heap.get?_push_size _ rfl, Heap.get?_push_of_some _ hdo, hcw₁.keeps fun b o e => Heap.get?_push_of_some _ e, hc'.stay (Ev.push _).keep, (Ev.push _).leaf _ hl'⟩
  have x₂ := x₁.pushed (fnObj (fnAny "search" qSearch dSearch.params (.stmts dSearch.body) dSearch.scope [(("word" : Str), cw)] (.ref dt) .none ((mg "__name__").getD .none) (.ref c') ctv))
  have hn₂ := hn₁.push (fnObj (fnAny "search" qSearch dSearch.params (.stmts dSearch.body) dSearch.scope [(("word" : Str), cw)] (.ref dt) .none ((mg "__name__").getD .none) (.ref c') ctv))
  change wpAny _ _ _ _ _ ⟨h₁.push (fnObj (fnAny "search" qSearch dSearch.params (.stmts dSearch.body) dSearch.scope [(("word" : Str), cw)] (.ref dt) .none ((mg "__name__").getD .none) (.ref c') ctv)), _, _, _, _⟩
  generalize hh₂ : h₁.push (fnObj (fnAny "search" qSearch dSearch.params (.stmts dSearch.body) dSearch.scope [(("word" : Str), cw)] (.ref dt) .none ((mg "__name__").getD .none) (.ref c') ctv)) = h₂ at *
  have hsa : h₁.objs.size < h₂.objs.size := by rw [← hh₂, Heap.size_push]; lia
  clear hh₂ M₁ k₁ hP₁ ht₁ hP ht hH hS at₁ hc' hl' hcw₁ hdo x₁
  generalize h₁.objs.size = sa at *
  refine wpAny_storeName_local rfl hn₂ (fun h₃ hn₃ hs₃ => ?_) rfl
  dsimp only at hs₃ ⊢
  have x₃ : Ev h₀ h₃ := x₂.setNs hn₂ hL0 hs₃
  have se₃ : IsSearch h₃ sa word := se₁.setNs hn₂ hs₃
  clear hs₃ hn₂ x₂ se₁
  refine wpAny_execs_cons (wpAny_Assign_Name (lambda_ rfl rfl ?_))
  refine hid fun Gx hGx => ?_
  obtain ⟨ps₃, hP₃, ht₃, hH₃, _⟩ := x₃.root hr
  refine hGx ?_
  clear hGx Gx
  have at₃ := (S.stay x₃.keep).at hP₃
  refine makeFn_plain (mg := mg) (clos := []) rfl rfl (S.stay x₃.keep).g rfl (CodeHd76 (S.stay x₃.keep).K) hP₃ ht₃ at₃.1 at₃.2 nofun ?_
  intro cv₄ ctv₄ h₄ tk₄ ps₄ k₄ sz₄ hP₄ ht₄ M₄
  dsimp only at k₄ sz₄ M₄ ⊢
  have hn₄ := Ns.but hn₃ hP₃ k₄
  have y₄ : Ev h₃ h₄ := (Ev.refl h₃).made hP₃ ht₃ (.inl rfl) k₄ hP₄ M₄ fun c' P' hc _ _ _ => entry_prog hc
  have x₄ := x₃.trans y₄
  have se₄ := se₃.ev y₄
  generalize hfd : fnAny (Str.ofString "<lambda>") _ _ _ _ _ _ _ _ _ _ = fd
  clear hfd M₄ k₄ hP₄ ht₄ y₄ at₃ hH₃ ht₃ hP₃
  have hxa0 : h₀.get? h₄.objs.size = none := x₄.fresh (Nat.le_refl _)
  have hsx : sa < h₄.objs.size := by obtain ⟨c, P, cw', dt', t0, tw', pm, ctv', e1, _⟩ := se₄; exact Heap.lt_size e1
  have hLx₄ : L < h₄.objs.size := hn₄.lt
  refine wpAny_storeName_local rfl (hn₄.push _) (fun h₅ hn₅ hs₅ => ?_) rfl
  dsimp only at hs₅ ⊢
  have hx₅ : h₅.get? h₄.objs.size = some (fnObj fd) := (hs₅.2 _ (Nat.ne_of_gt hLx₄)).trans (Heap.get?_push_size _ rfl)
  have x₅ : Ev h₀ h₅ := (x₄.pushed (fnObj fd)).setNs (hn₄.push _) hL0 hs₅
  have se₅ : IsSearch h₅ sa word := (se₄.ev (.push (fnObj fd))).setNs (hn₄.push _) hs₅
  clear hs₅ hn₄ x₄ se₄
  generalize h₄.objs.size = xa at *
  refine wpAny_execs_cons (plainObj_wpAny_Assign_Attribute (ldL hn₅ (by rfl) (ldL hn₅ (by rfl) ?_)) rfl)
  refine fn_setAttr hx₅ fn_no_search fun h₆ tk₆ hx₆ hd₆ k₆ => ?_
  dsimp only at hx₆ hd₆ k₆ ⊢
  have x₆ : Ev h₀ h₆ := x₅.set hx₅ (.of_data nofun) hxa0 k₆
  have hn₆ := hn₅.at' fun o e => k₆ _ _ (Nat.ne_of_lt hLx₄) e
  refine wpAny_execs_cons (wpAny_Return_some (ldL hn₆ (by rfl) ?_))
  exact h2 _ _ _ x₆ ⟨xa, _, fd, sa, rfl, ⟨⟨_, hx₆⟩, hd₆⟩, se₅.but hx₅ (Nat.ne_of_lt hsx) k₆⟩

end
end Mine
end

section
set_option maxHeartbeats 1000000
namespace Mine
open PySem PySem.W PyProof.Rows PySem.Calls
section
variable {prog : Program} {w : World} {A : Around} {s : Shared} {R : Result → Shared → Prop} {mg mb : Str → Option Value}
theorem prog_ct {word : Str} {t1 : Tok} (S : Stat w mg mb s.heap) (hr : Root s.heap) (hroom : A.depth < recursionLimit)
    (h2 : ∀ v h' tk, Ev s.heap h' → IsProg h' v word → R (.ok (.ret v)) { s with heap := h', toks := tk }) :
    codeAny (model prog w) A (.call (.ref 77) ⟨[.str word t1], []⟩) R s := by
  obtain ⟨pm, ct, hK⟩ := K77 w.params
  refine codeAny_call_function hroom (S.K _ _ hK) rfl rfl rfl rfl (codeRec_of S.K (C76 _)) (BindsTo.of_eq (binds := [(("word" : Str), .str word t1)]) rfl _ _ _ _ ?_)
  refine wpAny_newFunctionEnv_cells rfl (by intro y hy; simp only [List.mem_cons, List.not_mem_nil, or_false] at hy; subst hy; exact .inr ⟨rfl, rfl⟩) fun env he s₁ X => ?_
  subst he
  obtain ⟨h₁, tk, rfl⟩ := X.toInCall.same
  have x : Ev s.heap h₁ := .of_keeps X.toInCall.keep
  refine ⟨(S.stay x.keep).nl, codeAny_func ?_⟩
  have hL0 : s.heap.get? s.heap.objs.size = none := Heap.get?_none_of_le (Nat.le_refl _)
  exact prog_body (L := s.heap.objs.size) (cw := s.heap.objs.size + 1) (h₀ := s.heap) S hr x hL0 X.toInCall.ns (X.cell "word" (s.heap.objs.size + 1) rfl) (Nat.succ_ne_self _) fun v h' tk ev hp => h2 v h' tk ev hp
end
end Mine
end

section
set_option maxHeartbeats 1000000
namespace Mine
open PySem PySem.W PyProof.Rows PySem.Calls

/- the first place at or behind k -/
noncomputable def fnd (x y : Str) (k : Nat) : Option Nat := (Builtin.Str.occurrences x y k x.length 1).head?
theorem find3_fnd (x y : Str) (k : Nat) : Txt.find3 x y (k : Int) = match fnd x y k with | some i => (i : Int) | none => -1 := by
  have hk : fromIndex x.length (k : Int) = k := by unfold fromIndex; rw [if_neg (by lia)]; lia
  unfold Txt.find3 fnd
  rw [hk]
  cases Builtin.Str.occurrences x y k x.length 1 <;> rfl
theorem fnd_spec (x y : Str) (k : Nat) : (fnd x y k = none ∧ ∀ i, k ≤ i → ¬ StrLaws.At x y x.length i) ∨ ∃ i, fnd x y k = some i ∧ k ≤ i ∧ StrLaws.At x y x.length i ∧ ∀ j, k ≤ j → j < i → ¬ StrLaws.At x y x.length j := by
  rcases StrLaws.occ_head_from x y k 1 (Nat.le_refl _) with ⟨h1, h2⟩ | ⟨i, r, h1, h2⟩
  · exact .inl ⟨by unfold fnd; rw [h1]; rfl, h2⟩
  · exact .inr ⟨i, by unfold fnd; rw [h1]; rfl, h2⟩
theorem fnd_bounds {x y : Str} {k i : Nat} (h : fnd x y k = some i) : k ≤ i ∧ i + y.length ≤ x.length := by
  rcases fnd_spec x y k with ⟨h1, _⟩ | ⟨j, h1, h2, h3, _⟩
  · rw [h1] at h; cases h
  · rw [h1] at h; cases h; exact ⟨h2, h3.1⟩

noncomputable def srGo (x y : Str) (col : Nat) : Nat → Nat → Option Nat → Option Nat
  | 0, _, f => f
  | k + 1, i, f => if i < col ∧ i + y.length ≤ col then (match fnd x y (if y.length = 0 then i + 1 else i + y.length) with | none => some i | some i' => srGo x y col k i' (some i)) else f
/- what search_reverse finds -/
noncomputable def sr (x y : Str) (col : Nat) : Option Nat := match fnd x y 0 with
  | none => none
  | some i => srGo x y col (x.length + 1) i none

noncomputable def FoundIs (h : Heap) (v : Value) (word : Str) : Option Nat → Prop
  | none => v = .none
  | some i => IsHit h v (i : Int) word
theorem FoundIs.stay {h h' : Heap} (k : Stay h h') {v : Value} {word : Str} {f : Option Nat} (x : FoundIs h v word f) : FoundIs h' v word f := by
  cases f with
  | none => exact x
  | some i => exact IsHit.stay k x

theorem K21 (P : Params) : ∃ pm ct, (KF P).lookup 21 = some (fnObj (fnAny "search_reverse" "search_reverse" dSR.params (.stmts dSR.body) dSR.scope [] .none .none pm (.ref 20) ct)) := ⟨_, _, rfl⟩
theorem C20 (P : Params) : codeIn (KF P) (.ref 20) "search_reverse" = true := by kernel_rfl

section
variable {prog : Program} {w : World} {A : Around} {s : Shared} {R : Result → Shared → Prop} {mg mb : Str → Option Value}

noncomputable abbrev envR (L : Addr) : Env := newEnv dSR.scope L mainGlobals [] (("search_reverse" : Str) ++ ".<locals>.") (some 21) (.ref 20) none builtinsNs

/- prog.search(..) as an expression -/
theorem ev_search {E : Value → Shared → Prop} {env : Env} {po : PySem.Expr} {e : PySem.Expr} {rest : List PySem.Expr} {apos pos : Pos} {pv : Value} {word chars : Str} {place : Nat} {t1 t2 : Tok} {vals : List Value} {Q : Value → Shared → Prop} {pl : Sem Bool}
    (S : Stat w mg mb s.heap) (X : IsProg s.heap pv word) (hroom : A.depth < recursionLimit)
    (hp : ∀ Q', Q' pv s → wpAny (model prog w) A (eval po env) Q' E s)
    (ha : ∀ (s' : Shared) Q', s'.heap = s.heap → (∀ tk, Q' vals { s' with toks := tk }) → wpAny (model prog w) A (spliced (backTo pos (starEach (e :: rest) env))) Q' E s')
    (hv : vals = [.str chars t1, .int place t2] ∨ (vals = [.str chars t1] ∧ place = 0))
    (h : ∀ v h' tk, Ev s.heap h' → FoundIs h' v word (fnd chars word place) → Q v { s with heap := h', toks := tk })
    (he : starEach (e :: rest) env = (false, eval e env) :: starEach rest env := by rfl)
    (hm : eval (.Call (.Attribute po "search" apos) (e :: rest) [] pos) env = (do
          let ov ← eval po env
          standAt apos.atName
          let __x ← holding [ov] (getMethod ov "search" pl)
          match __x with
            | (f, first) => callWith pos f first (backTo pos (starEach (e :: rest) env)) []) := by rfl) :
    wpAny (model prog w) A (eval (.Call (.Attribute po "search" apos) (e :: rest) [] pos) env) Q E s := by
  refine hid fun Gx hGx => ?_
  obtain ⟨x, d, fd, fs, rfl, F, I⟩ := X
  refine hGx ?_
  clear hGx Gx
  refine MethodCall_ (hp _ ?_) hm
  refine fn_getMethod F fn_no_search (by rfl) fun tk => ?_
  have hI := I
  refine hid fun Gx hGx => ?_
  obtain ⟨c, P, cw, dt, t0, tw, pm, ctv, e1, _⟩ := hI
  refine hGx ?_
  clear hGx Gx
  refine callWith_def (o := fnObj (fnAny "search" qSearch dSearch.params (.stmts dSearch.body) dSearch.scope [(("word" : Str), cw)] (.ref dt) .none pm (.ref c) ctv)) rfl (ha _ _ rfl fun tk' => ⟨e1, wpAny_call ?_⟩) he
  refine search_ct (s := { s with toks := tk' }) (place := (place : Int)) S I hroom (by simpa using hv) ?_ ?_
  · intro hlt h' tk'' ev
    refine h _ h' tk'' ev ?_
    rw [find3_fnd] at hlt
    cases hf : fnd chars word place with
    | none => rfl
    | some i => rw [hf] at hlt; exact absurd hlt (Int.not_lt.mpr (Int.natCast_nonneg i))
  · intro hlt v h' tk'' ev ih
    refine h v h' tk'' ev ?_
    rw [find3_fnd] at hlt ih
    cases hf : fnd chars word place with
    | none => rw [hf] at hlt; exact absurd (by decide) hlt
    | some i => rw [hf] at ih; exact ih
end
end Mine
end

section
set_option maxHeartbeats 1000000
namespace Mine
open PySem PySem.W PyProof.Rows PySem.Calls

section
variable {prog : Program} {w : World} {A : Around} {s : Shared} {R : Result → Shared → Prop} {mg mb : Str → Option Value}

theorem ev_span {E : Value → Shared → Prop} {env : Env} {mo : PySem.Expr} {apos pos : Pos} {v : Value} {i : Int} {word : Str} {Q : Value → Shared → Prop} {pl : Sem Bool}
    (S : Stat w mg mb s.heap) (X : IsHit s.heap v i word) (hroom : A.depth < recursionLimit) (hw : word.length ≤ 2 ^ 20)
    (hp : ∀ Q', Q' v s → wpAny (model prog w) A (eval mo env) Q' E s)
    (h : ∀ T t1 t2 h' tk, (∀ b o, s.heap.get? b = some o → h'.get? b = some o) → h'.get? T = some { cls := .type "tuple", data := .seq #[.int i t1, .int (i + (word.length : Int)) t2] } → Q (.ref T) { s with heap := h', toks := tk })
    (hm : eval (.Call (.Attribute mo "span" apos) [] [] pos) env = (do
          let ov ← eval mo env
          standAt apos.atName
          let __x ← holding [ov] (getMethod ov "span" pl)
          match __x with
            | (f, first) => callWith pos f first (backTo pos (starEach [] env)) []) := by rfl) :
    wpAny (model prog w) A (eval (.Call (.Attribute mo "span" apos) [] [] pos) env) Q E s := by
  refine hid fun Gx hGx => ?_
  obtain ⟨x, d, fd, fs, rfl, F, I⟩ := X
  refine hGx ?_
  clear hGx Gx
  refine MethodCall_ (hp _ ?_) hm
  refine fn_getMethod F fn_no_span (by rfl) fun tk => ?_
  have hI := I
  refine hid fun Gx hGx => ?_
  obtain ⟨c, P, cb, cw, ti, tw, pm, ctv, e1, _⟩ := hI
  refine hGx ?_
  clear hGx Gx
  refine callWith_meth0 (o := fnObj (fnAny "<lambda>" qHit lSpan.params (.expr lSpan.body) lSpan.scope [(("word" : Str), cw), (("begin" : Str), cb)] .none .none pm (.ref c) ctv)) rfl e1 (wpAny_call ?_)
  exact span_ct (s := { s with toks := tk }) S I hroom hw fun T t1 t2 h' tk' k _ e => h T t1 t2 h' tk' k e

theorem Ns.uniq {h : Heap} {a : Addr} {m m' : Str → Option Value} (x : h.Ns a m) (y : h.Ns a m') (n : Str) : m n = m' n := by
  refine hid fun Gx hGx => ?_
  obtain ⟨o, es, ep, e, hd, _, hf⟩ := x
  obtain ⟨o', es', ep', e', hd', _, hf'⟩ := y
  refine hGx ?_
  clear hGx Gx
  rw [e] at e'; cases e'
  rw [hd] at hd'; cases hd'
  rw [← hf, ← hf']
theorem IsHit.but {h h' : Heap} {L : Addr} {m : Str → Option Value} {v : Value} {i : Int} {word : Str} (x : IsHit h v i word) (hn : h.Ns L m) (k : ∀ b o, b ≠ L → h.get? b = some o → h'.get? b = some o) {y : Str} {u : Value} (hm : m y = some u) (hy : y ≠ "span" := by decide +kernel) : IsHit h' v i word := by
  refine hid fun Gx hGx => ?_
  obtain ⟨x, d, fd, fs, e, ⟨⟨sl, ex⟩, hd⟩, c, P, cb, cw, ti, tw, pm, ctv, e1, ⟨o2, e2, d2⟩, ⟨o3, e3, d3⟩, e4⟩ := x
  obtain ⟨oL, es, ep, eL, dL, _⟩ := id hn
  refine hGx ?_
  clear hGx Gx
  have ne : ∀ {b : Addr} {ob : Obj}, h.get? b = some ob → (∀ es ep, ob.data ≠ .dict es ep) → b ≠ L := fun e hd q => by rw [q, eL] at e; cases e; exact hd _ _ dL
  have nd : d ≠ L := fun q => by
    subst q
    have := Ns.uniq hn hd y
    rw [hm, if_neg hy] at this
    cases this
  have nx : x ≠ L := ne ex fun _ _ q => Data.noConfusion q
  have nf : fs ≠ L := ne e1 fun _ _ q => Data.noConfusion q
  have n2 : cb ≠ L := ne e2 fun _ _ q => by rw [d2] at q; cases q
  have n3 : cw ≠ L := ne e3 fun _ _ q => by rw [d3] at q; cases q
  obtain ⟨oP, eP, hP⟩ := Plain.ns hn
  exact ⟨x, d, fd, fs, e, ⟨⟨sl, k _ _ nx ex⟩, hd.at' fun o e => k _ _ nd e⟩, c, P, cb, cw, ti, tw, pm, ctv, k _ _ nf e1, ⟨o2, k _ _ n2 e2, d2⟩, ⟨o3, k _ _ n3 e3, d3⟩, e4.but eP hP k⟩
theorem FoundIs.but {h h' : Heap} {L : Addr} {m : Str → Option Value} {v : Value} {f : Option Nat} {word : Str} (x : FoundIs h v word f) (hn : h.Ns L m) (k : ∀ b o, b ≠ L → h.get? b = some o → h'.get? b = some o) {y : Str} {u : Value} (hm : m y = some u) (hy : y ≠ "span" := by decide +kernel) : FoundIs h' v word f := by
  cases f with
  | none => exact x
  | some i => exact IsHit.but x hn k hm hy
theorem Ev.setNs' {h₀ h h' : Heap} {a : Addr} {m : Str → Option Value} (x : Ev h₀ h) (ho : h.Ns a m) (hn : h₀.get? a = none) (k : ∀ b o, b ≠ a → h.get? b = some o → h'.get? b = some o) : Ev h₀ h' := by
  obtain ⟨o, e, p⟩ := Plain.ns ho
  exact x.set e p hn k
theorem FoundIs.truthy {E : Value → Shared → Prop} {v : Value} {word : Str} {f : Option Nat} {Q : Bool → Shared → Prop} (x : FoundIs s.heap v word f) (h : Q f.isSome s) : wpAny (model prog w) A (truthy v) Q E s := by
  cases f with
  | none => cases x; exact fun _ _ _ => h
  | some i =>
    refine hid fun Gx hGx => ?_
    obtain ⟨x, d, fd, fs, rfl, ⟨⟨sl, e⟩, _⟩, _⟩ := x
    refine hGx ?_
    clear hGx Gx
    exact fn_truthy e rfl h

/- the state at the while's head -/
structure SrSt (h₀ : Heap) (L : Addr) (pv : Value) (chars word : Str) (col : Nat) (i : Nat) (f : Option Nat) (h : Heap) : Prop where
  ev : Ev h₀ h
  fr : ∃ m t1 t2 t3 t4 vm vf, h.Ns L m ∧ m "prog" = some pv ∧ m "chars" = some (.str chars t1) ∧ m "col" = some (.int col t2) ∧ m "m" = some vm ∧ m "i" = some (.int i t3) ∧ m "j" = some (.int ((i : Int) + (word.length : Int)) t4) ∧ m "found" = some vf ∧
    IsHit h vm i word ∧ FoundIs h vf word f

noncomputable def wBody : Stmt → List Stmt
  | .While _ b _ _ => b
  | _ => []
noncomputable def wTest : Stmt → PySem.Expr
  | .While t _ _ _ => t
  | _ => noExpr
noncomputable def fBody : Stmt → List Stmt
  | .For _ _ b _ _ => b
  | _ => []
theorem sr_tail {L : Addr} {pv vm : Value} {chars word : Str} {col i j : Nat} {h₀ h : Heap} {m : Str → Option Value} {t1 t2 t4 : Tok} {g : Array GenState} {dr : Drawn} {tk : Nat} {os : OsState} {E : Value → Shared → Prop} {Q : Flow → Shared → Prop}
    (S : Stat w mg mb h₀) (hp : IsProg h₀ pv word) (hroom : A.depth < recursionLimit) (hh : A.handled = none) (hw : word.length ≤ 2 ^ 20) (hL0 : h₀.get? L = none)
    (x : Ev h₀ h) (hn : h.Ns L m) (mp : m "prog" = some pv) (mc : m "chars" = some (.str chars t1)) (ml : m "col" = some (.int col t2)) (mj : m "j" = some (.int (j : Int) t4)) (mf : m "found" = some vm) (hH : IsHit h vm i word)
    (hb : fnd chars word j = none → ∀ h' tk', Ev h₀ h' → (∃ m' vf, h'.Ns L m' ∧ m' "found" = some vf ∧ FoundIs h' vf word (some i)) → Q .brk ⟨h', g, dr, tk', os⟩)
    (hnx : ∀ i', fnd chars word j = some i' → ∀ h' tk', SrSt h₀ L pv chars word col i' (some i) h' → Q .next ⟨h', g, dr, tk', os⟩) :
    wpAny (model prog w) A (execs ((wBody (stAt dSR.body 4)).drop 2) (envR L)) Q E ⟨h, g, dr, tk, os⟩ := by
  refine letQ ?_
  intro Qx Ex
  refine wpAny_execs_cons (wpAny_Assign_Name (ev_search (S.stay x.keep) (hp.ev x) hroom (fun Q' hq => ldL hn mp hq) (fun s' Q' hs hq => wpAny_items_cons (ldL (hs ▸ hn) mc (wpAny_items_cons (ldL (hs ▸ hn) mj (wpAny_items_nil (hq s'.toks)))))) (.inl rfl) ?_))
  intro v h₁ tk₁ y₁ hF
  dsimp only at y₁ ⊢
  have x₁ := x.trans y₁
  have hn₁ := Ns.stay y₁.keep hn
  have hH₁ := hH.stay y₁.keep
  refine wpAny_storeName_local rfl hn₁ (fun h₂ hn₂ hs₂ => ?_) rfl
  dsimp only at hs₂ ⊢
  have k₂ : ∀ b o, b ≠ L → h₁.get? b = some o → h₂.get? b = some o := fun b o hb e => (hs₂.2 b hb).trans e
  have x₂ := x₁.setNs' hn₁ hL0 k₂
  have hH₂ := hH₁.but hn₁ k₂ mp
  have hF₂ := hF.but hn₁ k₂ mp
  clear hs₂ k₂ hF hH₁ hH y₁ x₁ hn₁ x hn
  refine wpAny_execs_cons (wpAny_If (wpAny_isTrue_Not (wpAny_isTrue_value (ldL hn₂ (by rfl) (FoundIs.truthy hF₂ ?_)))))
  cases hf : fnd chars word j with
  | none =>
    simp only [Option.isSome_none, Bool.not_false, if_true]
    refine letQ ?_
    intro Qx Ex
    refine wpAny_execs_cons (wpAny_Break ?_)
    exact hb hf _ _ x₂ ⟨_, vm, hn₂, mf, hH₂⟩
  | some i' =>
    simp only [Option.isSome_some, Bool.not_true, Bool.false_eq_true, if_false]
    rw [hf] at hF₂
    refine wpAny_execs_nil (wpAny_execs_cons (Assign_Tuple (ev_span (S.stay x₂.keep) hF₂ hroom hw (fun Q' hq => ldL hn₂ (by rfl) hq) ?_)))
    intro T u1 u2 h₃ tk₃ k₃ hT
    dsimp only at k₃ ⊢
    have hn₃ := hn₂.keeps k₃
    refine assign_tup (items := #[.int i' u1, .int ((i' : Int) + (word.length : Int)) u2]) hh ⟨_, hT, rfl, _, rfl⟩ hn₃ rfl rfl rfl (by intro y hy; simp only [List.mem_cons, List.not_mem_nil, or_false] at hy; rcases hy with rfl | rfl <;> rfl) rfl ?_
    intro h₄ tk₄ hn₄ k₄
    dsimp only at k₄ ⊢
    have x₃ := x₂.keeps k₃
    have x₄ := x₃.setNs' hn₃ hL0 k₄
    have e₃ : Stay h₂ h₃ := fun b o e _ => k₃ b o e
    refine wpAny_execs_nil (hnx i' hf _ _ ⟨x₄, _, t1, t2, u1, u2, v, vm, hn₄, mp, mc, ml, rfl, rfl, rfl, mf, ?_, ?_⟩)
    · exact IsHit.but (IsHit.stay e₃ hF₂) hn₃ k₄ (y := "prog") (u := pv) mp
    · exact IsHit.but (IsHit.stay e₃ hH₂) hn₃ k₄ (y := "prog") (u := pv) mp

theorem sr_loop {L : Addr} {pv : Value} {chars word : Str} {col : Nat} {h₀ : Heap} {res : Option Nat} {g : Array GenState} {dr : Drawn} {os : OsState} {test : PySem.Expr} {body : List Stmt} {pos : Pos}
    (hst : stAt dSR.body 4 = .While test body [] pos)
    (S : Stat w mg mb h₀) (hp : IsProg h₀ pv word) (hroom : A.depth < recursionLimit) (hh : A.handled = none) (hw : word.length ≤ 2 ^ 20) (hL0 : h₀.get? L = none)
    (hR : ∀ h tk, Ev h₀ h → (∃ m vf, h.Ns L m ∧ m "found" = some vf ∧ FoundIs h vf word res) → R (.ok .next) ⟨h, g, dr, tk, os⟩)
    {k i : Nat} {f : Option Nat} {h : Heap} {tk : Nat} (X : SrSt h₀ L pv chars word col i f h) (hi : i ≤ chars.length) (hk : chars.length < i + k) (hr : srGo chars word col k i f = res) :
    codeAny (model prog w) A (.whileLoop test body [] (envR L)) R ⟨h, g, dr, tk, os⟩ := by
  have e : Stmt.While test body [] pos = stAt dSR.body 4 := hst.symm
  refine codeAny_whileLoop (fun k s => ∃ i f h tk, s = ⟨h, g, dr, tk, os⟩ ∧ SrSt h₀ L pv chars word col i f h ∧ i ≤ chars.length ∧ chars.length < i + k ∧ srGo chars word col k i f = res) ?_ k ⟨i, f, h, tk, rfl, X, hi, hk, hr⟩
  clear hk hr hi X
  rintro k s invX
  refine hid fun Gx hGx => ?_
  obtain ⟨i, f, h, tk, rfl, ⟨x, m, t1, t2, t3, t4, vm, vf, hn, mp, mc, ml, mm, mi, mj, mf, hH, hF⟩, hi, hk, hr⟩ := invX
  refine hGx ?_
  clear hGx Gx
  cases e
  obtain ⟨k, rfl⟩ : ∃ k', k = k' + 1 := ⟨k - 1, by lia⟩
  unfold srGo at hr
  clear hst
  refine wpAny_isTrue_BoolOp (wpAny_allTrue_And_cons (wpAny_isTrue_Compare1 (ldL hn mi (ldL hn ml (wpAny_lt_int (wpAny_truthy_bool ?_))))))
  by_cases h1 : (i : Int) < (col : Int)
  rotate_left
  · rw [decide_eq_false h1]
    rw [if_neg (by lia)] at hr
    refine wpAny_execs_nil (hR _ _ x ⟨m, vf, hn, mf, hr ▸ hF⟩)
  rw [decide_eq_true h1]
  simp only [if_true]
  refine wpAny_allTrue_And_cons (wpAny_isTrue_Compare1 (ldL hn mj (ldL hn ml (le_int (wpAny_truthy_bool ?_)))))
  by_cases h2 : (i : Int) + (word.length : Int) ≤ (col : Int)
  rotate_left
  · rw [decide_eq_false h2]
    rw [if_neg (by lia)] at hr
    refine wpAny_execs_nil (hR _ _ x ⟨m, vf, hn, mf, hr ▸ hF⟩)
  rw [decide_eq_true h2]
  simp only [if_true]
  refine wpAny_allTrue_And_nil ?_
  simp only [if_true]
  rw [if_pos (by lia)] at hr
  refine letQ ?_
  intro Qx Ex
  refine wpAny_execs_cons (wpAny_Assign_Name (ldL hn mm ?_))
  refine wpAny_storeName_local rfl hn (fun h₁ hn₁ hs₁ => ?_) rfl
  dsimp only at hs₁ ⊢
  have k₁ : ∀ b o, b ≠ L → h.get? b = some o → h₁.get? b = some o := fun b o hb e => (hs₁.2 b hb).trans e
  have x₁ := x.setNs' hn hL0 k₁
  have hH₁ := hH.but hn k₁ mp
  clear hs₁ k₁ hF vf mf
  refine wpAny_execs_cons (wpAny_If (wpAny_isTrue_Compare1 (ldL hn₁ mi (ldL hn₁ mj (wpAny_eq_int (wpAny_truthy_bool ?_))))))
  have hj : ((i : Int) == (i : Int) + (word.length : Int)) = decide (word.length = 0) := by
    rw [Bool.eq_iff_iff]; simp only [beq_iff_eq, decide_eq_true_eq]; lia
  rw [hj]
  have fin : ∀ (m₂ : Str → Option Value) (h₂ : Heap) (tk₂ j : Nat) (Q : Flow → Shared → Prop) (E : Value → Shared → Prop), (if word.length = 0 then i + 1 else i + word.length) = j → Ev h₀ h₂ → h₂.Ns L m₂ → m₂ "prog" = some pv → m₂ "chars" = some (.str chars t1) → m₂ "col" = some (.int col t2) →
      (∃ t5, m₂ "j" = some (.int (j : Int) t5)) → m₂ "found" = some vm → IsHit h₂ vm i word → (∀ f s', (match f with
                  | Flow.next => ∃ m, m < k + 1 ∧ ∃ i f h tk, s' = ⟨h, g, dr, tk, os⟩ ∧ SrSt h₀ L pv chars word col i f h ∧ i ≤ chars.length ∧ chars.length < i + m ∧ srGo chars word col m i f = res
                  | Flow.cont => ∃ m, m < k + 1 ∧ ∃ i f h tk, s' = ⟨h, g, dr, tk, os⟩ ∧ SrSt h₀ L pv chars word col i f h ∧ i ≤ chars.length ∧ chars.length < i + m ∧ srGo chars word col m i f = res
                  | Flow.brk => R (Except.ok Flow.next) s'
                  | Flow.ret v => R (Except.ok (Flow.ret v)) s') → Q f s') →
      wpAny (model prog w) A (execs ((wBody (stAt dSR.body 4)).drop 2) (envR L)) Q E ⟨h₂, g, dr, tk₂, os⟩ := by
    rintro m₂ h₂ tk₂ j Q E ej x₂ hn₂ mp₂ mc₂ ml₂ ⟨t5, mj₂⟩ mf₂ hH₂ hQ
    rw [ej] at hr
    have hij : i < j := by split at ej <;> lia
    refine sr_tail S hp hroom hh hw hL0 x₂ hn₂ mp₂ mc₂ ml₂ mj₂ mf₂ hH₂ (fun hf h' tk' x' e => ?_) (fun i' hf h' tk' st => ?_)
    · rw [hf] at hr
      exact hQ .brk _ (hR _ _ x' (hr ▸ e))
    · rw [hf] at hr
      have := fnd_bounds hf
      exact hQ .next _ ⟨k, Nat.lt_succ_self _, i', some i, h', tk', rfl, st, by lia, by lia, hr⟩
  by_cases hw0 : word.length = 0
  · rw [decide_eq_true hw0]
    simp only [if_true]
    refine letQ ?_
    intro Qx Ex
    refine wpAny_execs_cons (wpAny_Assign_Name (wpAny_BinOp (ldL hn₁ mj (wpAny_Constant_int (wpAny_add_int ?_)))))
    refine wpAny_storeName_local rfl hn₁ (fun h₂ hn₂ hs₂ => ?_) rfl
    dsimp only at hs₂ ⊢
    have k₂ : ∀ b o, b ≠ L → h₁.get? b = some o → h₂.get? b = some o := fun b o hb e => (hs₂.2 b hb).trans e
    refine wpAny_execs_nil (fin _ _ _ (i + 1) _ _ (by rw [if_pos hw0]) (x₁.setNs' hn₁ hL0 k₂) hn₂ mp mc ml ?_ (by rfl) (hH₁.but hn₁ k₂ (y := "prog") (u := pv) mp) (fun f s' h => h))
    have e0 : (i : Int) + (word.length : Int) + 1 = ((i + 1 : Nat) : Int) := by lia
    exact ⟨_, congrArg (fun z => some (Value.int z _)) e0⟩
  · rw [decide_eq_false hw0]
    simp only [Bool.false_eq_true, if_false]
    refine wpAny_execs_nil (fin _ _ _ (i + word.length) _ _ (by rw [if_neg hw0]) x₁ hn₁ mp mc ml ?_ (by rfl) hH₁ (fun f s' h => h))
    exact ⟨t4, by rw [Int.natCast_add]; exact mj⟩

theorem sr_ct {pv : Value} {chars word : Str} {col : Nat} {t1 t2 : Tok} (S : Stat w mg mb s.heap) (hp : IsProg s.heap pv word) (hroom : A.depth + 1 < recursionLimit) (hh : A.handled = none) (hw : word.length ≤ 2 ^ 20)
    (h : ∀ v h' tk, Ev s.heap h' → FoundIs h' v word (sr chars word col) → R (.ok (.ret v)) { s with heap := h', toks := tk }) :
    codeAny (model prog w) A (.call (.ref 21) ⟨[pv, .str chars t1, .int col t2], []⟩) R s := by
  obtain ⟨pm, ct, hK⟩ := K21 w.params
  refine codeAny_call_def (Nat.lt_of_succ_lt hroom) (S.K _ _ hK) rfl S.nl (codeRec_of S.K (C20 _)) rfl (BindsTo.of_eq (binds := [(("prog" : Str), pv), (("chars" : Str), .str chars t1), (("col" : Str), .int col t2)]) rfl) (show ∀ x ∈ dSR.scope.names, x.2 ≠ .cell by decide +kernel)
    (by intro y hy; simp only [List.mem_cons, List.not_mem_nil, or_false] at hy; rcases hy with rfl | rfl | rfl <;> rfl) ?_ rfl rfl rfl
  intro h₁ hn k₁
  have x : Ev s.heap h₁ := .of_keeps k₁
  have hL0 : s.heap.get? s.heap.objs.size = none := Heap.get?_none_of_le (Nat.le_refl _)
  show wpAny _ (A.deeper (envR s.heap.objs.size)) (execs dSR.body (envR s.heap.objs.size)) _ _ _
  generalize s.heap.objs.size = L at *
  generalize hA : A.deeper (envR L) = A'
  have hroom' : A'.depth < recursionLimit := by rw [← hA]; exact hroom
  have hh' : A'.handled = none := by rw [← hA]; exact hh
  refine letQ ?_
  intro Qx Ex
  refine wpAny_execs_cons (wpAny_Assign_Name (ev_search (place := 0) (t2 := 0) (S.stay x.keep) (hp.ev x) hroom' (fun Q' hq => ldL hn (by rfl) hq) (fun s' Q' hs hq => wpAny_items_cons (ldL (m := fun x => List.lookup x [(("prog" : Str), pv), (("chars" : Str), .str chars t1), (("col" : Str), .int col t2)].reverse) (by rw [hs]; exact hn) (by rfl) (wpAny_items_nil (hq s'.toks)))) (.inr ⟨rfl, rfl⟩) ?_))
  intro v h₂ tk₂ y₂ hF
  dsimp only at y₂ ⊢
  have x₂ := x.trans y₂
  have hn₂ := Ns.stay y₂.keep hn
  refine wpAny_storeName_local rfl hn₂ (fun h₃ hn₃ hs₃ => ?_) rfl
  dsimp only at hs₃ ⊢
  have k₃ : ∀ b o, b ≠ L → h₂.get? b = some o → h₃.get? b = some o := fun b o hb e => (hs₃.2 b hb).trans e
  have x₃ := x₂.setNs' hn₂ hL0 k₃
  have hF₃ := hF.but hn₂ k₃ (y := "prog") (u := pv) (by rfl)
  clear hs₃ k₃ hF y₂ x₂ hn₂ x hn
  refine wpAny_execs_cons (wpAny_If (wpAny_isTrue_Not (wpAny_isTrue_value (ldL hn₃ (by rfl) (FoundIs.truthy hF₃ ?_)))))
  cases hf : fnd chars word 0 with
  | none =>
    simp only [Option.isSome_none, Bool.not_false, if_true]
    refine letQ ?_
    intro Qx Ex
    refine wpAny_execs_cons (wpAny_Return_some (wpAny_Constant_none ?_))
    exact h _ _ _ x₃ (by unfold sr; rw [hf]; rfl)
  | some i =>
    simp only [Option.isSome_some, Bool.not_true, Bool.false_eq_true, if_false]
    rw [hf] at hF₃
    refine wpAny_execs_nil (wpAny_execs_cons (wpAny_Assign_Name (wpAny_Constant_none ?_)))
    refine wpAny_storeName_local rfl hn₃ (fun h₄ hn₄ hs₄ => ?_) rfl
    dsimp only at hs₄ ⊢
    have k₄ : ∀ b o, b ≠ L → h₃.get? b = some o → h₄.get? b = some o := fun b o hb e => (hs₄.2 b hb).trans e
    have x₄ := x₃.setNs' hn₃ hL0 k₄
    have hF₄ := IsHit.but hF₃ hn₃ k₄ (y := "prog") (u := pv) (by rfl)
    clear hs₄ k₄ hF₃ x₃ hn₃
    refine letQ ?_
    intro Qx Ex
    refine wpAny_execs_cons (Assign_Tuple (ev_span (S.stay x₄.keep) hF₄ hroom' hw (fun Q' hq => ldL hn₄ (by rfl) hq) ?_))
    intro T u1 u2 h₅ tk₅ k₅ hT
    dsimp only at k₅ ⊢
    have hn₅ := hn₄.keeps k₅
    refine assign_tup (items := #[.int i u1, .int ((i : Int) + (word.length : Int)) u2]) hh' ⟨_, hT, rfl, _, rfl⟩ hn₅ rfl rfl rfl (by intro y hy; simp only [List.mem_cons, List.not_mem_nil, or_false] at hy; rcases hy with rfl | rfl <;> rfl) rfl ?_
    intro h₆ tk₆ hn₆ k₆
    dsimp only at k₆ ⊢
    have x₆ := (x₄.keeps k₅).setNs' hn₅ hL0 k₆
    have e₅ : Stay h₄ h₅ := fun b o e _ => k₅ b o e
    have hF₆ := IsHit.but (IsHit.stay e₅ hF₄) hn₅ k₆ (y := "prog") (u := pv) (by rfl)
    have hb := fnd_bounds hf
    refine wpAny_execs_cons (wpAny_While ?_)
    refine sr_loop (res := sr chars word col) rfl S hp hroom' hh' hw hL0 ?_ (i := i) (f := none) (k := chars.length + 1) ⟨x₆, _, t1, t2, u1, u2, v, .none, hn₆, rfl, rfl, rfl, rfl, rfl, rfl, rfl, hF₆, rfl⟩ (by lia) (by lia) (by unfold sr; rw [hf])
    rintro h₇ tk₇ x₇ invX
    refine hid fun Gx hGx => ?_
    obtain ⟨m₇, vf, hn₇, mf, hF₇⟩ := invX
    refine hGx ?_
    clear hGx Gx
    refine wpAny_execs_cons (wpAny_Return_some (ldL hn₇ mf ?_))
    exact h _ _ _ x₇ hF₇
end
end Mine
end

section
set_option maxHeartbeats 1000000
namespace Mine
open PySem PySem.W PyProof.Rows PySem.Calls

/- the object at a is of a kind that no closure, no tuple is built of -/
noncomputable def Indep (h : Heap) (a : Addr) : Prop := ∃ o, h.get? a = some o ∧ Plain o ∧ (∀ f, o.data ≠ .func f) ∧ (∀ v, o.data ≠ .cell v) ∧ (∀ vs n, o.data = .seq vs n → o.cls ≠ .type "tuple") ∧
  ((∀ es ep, o.data ≠ .dict es ep) ∨ ∃ m y u, h.Ns a m ∧ y ≠ ("search" : Str) ∧ y ≠ ("span" : Str) ∧ m y = some u)
theorem Indep.ns {h : Heap} {L : Addr} {m : Str → Option Value} (hn : h.Ns L m) {y : Str} {u : Value} (hm : m y = some u) (h1 : y ≠ "search" := by decide +kernel) (h2 : y ≠ "span" := by decide +kernel) : Indep h L := by
  refine hid fun Gx hGx => ?_
  obtain ⟨o, es, ep, e, hd, _⟩ := id hn
  refine hGx ?_
  clear hGx Gx
  refine ⟨o, e, .of_data fun vs => by rw [hd]; nofun, fun f q => ?_, fun v q => ?_, fun vs n q => ?_, .inr ⟨m, y, u, hn, h1, h2, hm⟩⟩
  · rw [hd] at q; cases q
  · rw [hd] at q; cases q
  · rw [hd] at q; cases q
theorem Indep.list {h : Heap} {l : Addr} {its : Array Value} (x : h.IsList l its) : Indep h l := by
  refine hid fun Gx hGx => ?_
  obtain ⟨o, e, hc, n, hd⟩ := x
  refine hGx ?_
  clear hGx Gx
  refine ⟨o, e, .of_data fun vs => by rw [hd]; nofun, fun f q => ?_, fun v q => ?_, fun vs n _ => ?_, .inl fun es ep q => ?_⟩
  · rw [hd] at q; cases q
  · rw [hd] at q; cases q
  · rw [hc]; intro q; exact absurd (Value.type.inj q) (by decide)
  · rw [hd] at q; cases q
theorem Indep.fields {h : Heap} {a : Addr} {o : Obj} {vs : Array Value} (e : h.get? a = some o) (hd : o.data = .fields vs) (h1 : o.cls ≠ .none) (h2 : o.cls ≠ .type "code") : Indep h a := by
  refine ⟨o, e, .of_cls h1 h2, fun f q => ?_, fun v q => ?_, fun vs n q => ?_, .inl fun es ep q => ?_⟩
  · rw [hd] at q; cases q
  · rw [hd] at q; cases q
  · rw [hd] at q; cases q
  · rw [hd] at q; cases q
theorem Indep.rangeIter {h : Heap} {I : Addr} {x l st : Int} (hi : IsRangeIter h I x l st) : Indep h I := .fields hi rfl (by nofun) (by intro q; exact absurd (Value.type.inj q) (by decide))
theorem Indep.listIter {h : Heap} {I l : Addr} {i : Nat} (hi : h.IsListIter I l i) : Indep h I := by
  refine hid fun Gx hGx => ?_
  obtain ⟨o, e, hc, hd⟩ := hi
  refine hGx ?_
  clear hGx Gx
  exact .fields e hd (by rw [hc]; nofun) (by rw [hc]; intro q; exact absurd (Value.type.inj q) (by decide))

section
variable {h h' : Heap} {a : Addr}
noncomputable abbrev But (a : Addr) (h h' : Heap) : Prop := ∀ b o, b ≠ a → h.get? b = some o → h'.get? b = some o
theorem IsProg.indep (I : Indep h a) (k : But a h h') {v : Value} {word : Str} (x : IsProg h v word) : IsProg h' v word := by
  refine hid fun Gx hGx => ?_
  obtain ⟨o, ho, hp, i1, i2, i3, i4⟩ := I
  obtain ⟨x, d, fd, fs, e, ⟨⟨sl, ex⟩, hd⟩, c, P, cw, dt, t0, tw, pm, ctv, e1, e2, ⟨o3, e3, d3⟩, e4, e5⟩ := x
  refine hGx ?_
  clear hGx Gx
  have nx : x ≠ a := fun q => by rw [q, ho] at ex; cases ex; exact i1 _ rfl
  have nf : fs ≠ a := fun q => by rw [q, ho] at e1; cases e1; exact i1 _ rfl
  have nt : dt ≠ a := fun q => by rw [q, ho] at e2; cases e2; exact i3 _ _ rfl rfl
  have nc : cw ≠ a := fun q => by rw [q, ho] at e3; cases e3; exact i2 _ d3
  have nd : d ≠ a := fun q => by
    subst q
    rcases i4 with i4 | ⟨m, y, u, hn, h1, _, hm⟩
    · obtain ⟨od, es, ep, ed, dd, _⟩ := hd
      rw [ho] at ed; cases ed; exact i4 _ _ dd
    · have := Ns.uniq hn hd y
      rw [hm, if_neg h1] at this; cases this
  exact ⟨x, d, fd, fs, e, ⟨⟨sl, k _ _ nx ex⟩, hd.at' fun o e => k _ _ nd e⟩, c, P, cw, dt, t0, tw, pm, ctv, k _ _ nf e1, k _ _ nt e2, ⟨o3, k _ _ nc e3, d3⟩, e4.but ho hp k, (TabEv.but ho hp k).leaf _ e5⟩
theorem IsHit.indep (I : Indep h a) (k : But a h h') {v : Value} {i : Int} {word : Str} (x : IsHit h v i word) : IsHit h' v i word := by
  refine hid fun Gx hGx => ?_
  obtain ⟨o, ho, hp, i1, i2, i3, i4⟩ := I
  obtain ⟨x, d, fd, fs, e, ⟨⟨sl, ex⟩, hd⟩, c, P, cb, cw, ti, tw, pm, ctv, e1, ⟨o2, e2, d2⟩, ⟨o3, e3, d3⟩, e4⟩ := x
  refine hGx ?_
  clear hGx Gx
  have nx : x ≠ a := fun q => by rw [q, ho] at ex; cases ex; exact i1 _ rfl
  have nf : fs ≠ a := fun q => by rw [q, ho] at e1; cases e1; exact i1 _ rfl
  have nb : cb ≠ a := fun q => by rw [q, ho] at e2; cases e2; exact i2 _ d2
  have nc : cw ≠ a := fun q => by rw [q, ho] at e3; cases e3; exact i2 _ d3
  have nd : d ≠ a := fun q => by
    subst q
    rcases i4 with i4 | ⟨m, y, u, hn, _, h1, hm⟩
    · obtain ⟨od, es, ep, ed, dd, _⟩ := hd
      rw [ho] at ed; cases ed; exact i4 _ _ dd
    · have := Ns.uniq hn hd y
      rw [hm, if_neg h1] at this; cases this
  exact ⟨x, d, fd, fs, e, ⟨⟨sl, k _ _ nx ex⟩, hd.at' fun o e => k _ _ nd e⟩, c, P, cb, cw, ti, tw, pm, ctv, k _ _ nf e1, ⟨o2, k _ _ nb e2, d2⟩, ⟨o3, k _ _ nc e3, d3⟩, e4.but ho hp k⟩
theorem FoundIs.indep (I : Indep h a) (k : But a h h') {v : Value} {f : Option Nat} {word : Str} (x : FoundIs h v word f) : FoundIs h' v word f := by
  cases f with
  | none => exact x
  | some i => exact IsHit.indep I k x
theorem Ev.indep {h₀ : Heap} (x : Ev h₀ h) (I : Indep h a) (hn : h₀.get? a = none) (k : But a h h') : Ev h₀ h' := (by obtain ⟨_, ho, hp, _⟩ := I; exact x.set ho hp hn k)

/- a tuple of ints -/
noncomputable def IntTup (h : Heap) (v : Value) (ns : List Int) : Prop := ∃ t its n, v = .ref t ∧ h.get? t = some { cls := .type "tuple", data := .seq its.toArray n } ∧ IntsAre its ns
theorem IntTup.stay (k : Stay h h') {v : Value} {ns : List Int} (x : IntTup h v ns) : IntTup h' v ns := by
  refine hid fun Gx hGx => ?_
  obtain ⟨t, its, n, e, ht, hi⟩ := x
  refine hGx ?_
  clear hGx Gx
  exact ⟨t, its, n, e, k _ _ ht (not_tab nofun), hi⟩
theorem IntTup.indep (I : Indep h a) (k : But a h h') {v : Value} {ns : List Int} (x : IntTup h v ns) : IntTup h' v ns := by
  refine hid fun Gx hGx => ?_
  obtain ⟨o, ho, hp, i1, i2, i3, i4⟩ := I
  obtain ⟨t, its, n, e, ht, hi⟩ := x
  refine hGx ?_
  clear hGx Gx
  exact ⟨t, its, n, e, k _ _ (fun q => by rw [q, ho] at ht; cases ht; exact i3 _ _ rfl rfl) ht, hi⟩
/- a list of tuples of ints -/
inductive TupsAre (h : Heap) : List Value → List (List Int) → Prop
  | nil : TupsAre h [] []
  | cons {v vs ns nss} : IntTup h v ns → TupsAre h vs nss → TupsAre h (v :: vs) (ns :: nss)
theorem TupsAre.stay (k : Stay h h') {vs : List Value} {nss : List (List Int)} (x : TupsAre h vs nss) : TupsAre h' vs nss := by
  induction x with
  | nil => exact .nil
  | cons y _ ih => exact .cons (y.stay k) ih
theorem TupsAre.indep (I : Indep h a) (k : But a h h') {vs : List Value} {nss : List (List Int)} (x : TupsAre h vs nss) : TupsAre h' vs nss := by
  induction x with
  | nil => exact .nil
  | cons y _ ih => exact .cons (y.indep I k) ih
theorem TupsAre.length {vs : List Value} {nss : List (List Int)} (x : TupsAre h vs nss) : vs.length = nss.length := by
  induction x with
  | nil => rfl
  | cons _ _ ih => rw [List.length_cons, List.length_cons, ih]
theorem TupsAre.append {vs ws : List Value} {nss mss : List (List Int)} (x : TupsAre h vs nss) (y : TupsAre h ws mss) : TupsAre h (vs ++ ws) (nss ++ mss) := by
  induction x with
  | nil => exact y
  | cons a _ ih => exact .cons a ih
theorem TupsAre.get {vs : List Value} {nss : List (List Int)} (x : TupsAre h vs nss) {i : Nat} {v : Value} (hv : vs[i]? = some v) : ∃ ns, nss[i]? = some ns ∧ IntTup h v ns := by
  induction x generalizing i with
  | nil => cases hv
  | cons a _ ih =>
    cases i with
    | zero => cases hv; exact ⟨_, rfl, a⟩
    | succ i => exact ih hv
end

section
variable {prog : Program} {w : World} {A : Around} {R : Result → Shared → Prop} {g : Array GenState} {dr : Drawn} {os : OsState}
/- a for loop over an iterator -/
theorem for_walk {target : PySem.Expr} {body : List Stmt} {env : Env} {I : Addr} {fp wr : List Addr} {n : Nat} {P : Nat → Value → Prop} {St : Nat → Heap → Prop} (W : Walks prog w A I fp wr n P St) (Inv : Nat → Heap → Prop)
    (fr : ∀ i h h', Inv i h → St i h → (∀ b o, b ∉ wr → h.get? b = some o → h'.get? b = some o) → Inv i h')
    (turn : ∀ i h tk v (E : Value → Shared → Prop), i < n → P i v → St (i + 1) h → Inv i h →
      wpAny (model prog w) A (letOwnedTupleGo target (.ref I) v) (fun _ s₁ => wpAny (model prog w) A (assign target env v) (fun _ s₂ => wpAny (model prog w) A (execs body env) (fun f s₃ => match f with
        | .next => ∃ h' tk', s₃ = ⟨h', g, dr, tk', os⟩ ∧ Inv (i + 1) h' ∧ (∀ b ∈ fp, ∀ o, h.get? b = some o → h'.get? b = some o)
        | .cont => ∃ h' tk', s₃ = ⟨h', g, dr, tk', os⟩ ∧ Inv (i + 1) h' ∧ (∀ b ∈ fp, ∀ o, h.get? b = some o → h'.get? b = some o)
        | .brk => R (.ok .next) s₃
        | .ret v => R (.ok (.ret v)) s₃) E s₂) E s₁) E ⟨h, g, dr, tk, os⟩)
    (done : ∀ h tk, Inv n h → R (.ok .next) ⟨h, g, dr, tk, os⟩) {h : Heap} {tk : Nat} (hst : St 0 h) (hinv : Inv 0 h) :
    codeAny (model prog w) A (.forLoop target (.ref I) body [] env) R ⟨h, g, dr, tk, os⟩ := by
  refine codeAny_forLoop_any (fun k s => ∃ i h tk, s = ⟨h, g, dr, tk, os⟩ ∧ St i h ∧ Inv i h ∧ i ≤ n ∧ k = n - i) ?_ n ⟨0, h, tk, rfl, hst, hinv, Nat.zero_le _, rfl⟩
  rintro k s invX
  refine hid fun Gx hGx => ?_
  obtain ⟨i, h, tk, rfl, hst, hinv, hi, rfl⟩ := invX
  refine hGx ?_
  clear hGx Gx
  by_cases hlt : i < n
  · refine W.item i _ _ _ hlt hst fun v h₁ tk₁ hP hst₁ k₁ => ?_
    refine wpAny_mono (turn i h₁ tk₁ v _ hlt hP hst₁ (fr i h h₁ hinv hst k₁)) (fun _ s₁ q => wpAny_mono q (fun _ s₂ q => wpAny_mono q (fun f s₃ q => ?_) fun _ _ e => e) fun _ _ e => e) fun _ _ e => e
    have nx : ∀ h' tk', Inv (i + 1) h' → (∀ b ∈ fp, ∀ o, h₁.get? b = some o → h'.get? b = some o) → ∃ m, m < n - i ∧ ∃ i h tk, (⟨h', g, dr, tk', os⟩ : Shared) = ⟨h, g, dr, tk, os⟩ ∧ St i h ∧ Inv i h ∧ i ≤ n ∧ m = n - i :=
      fun h' tk' a b => ⟨n - (i + 1), by lia, i + 1, h', tk', rfl, W.frame _ _ _ hst₁ b, a, hlt, rfl⟩
    cases f with
    | next => obtain ⟨h', tk', rfl, a, b⟩ := q; exact nx h' tk' a b
    | cont => obtain ⟨h', tk', rfl, a, b⟩ := q; exact nx h' tk' a b
    | brk => exact q
    | ret v => exact q
  · have : i = n := by lia
    subst this
    refine W.done _ _ _ hst fun h₁ tk₁ k₁ => ?_
    exact wpAny_execs_nil (done h₁ tk₁ (fr _ h h₁ hinv hst k₁))
end
end Mine
end

section
set_option maxHeartbeats 1000000
namespace Mine
open PySem PySem.W PyProof.Rows PySem.Calls

theorem K84 (P : Params) : ∃ pm ct, (KF P).lookup 84 = some (fnObj (fnAny "_law_walk" "_law_walk" dWalk.params (.stmts dWalk.body) dWalk.scope [] .none .none pm (.ref 83) ct)) := ⟨_, _, rfl⟩
theorem C83 (P : Params) : codeIn (KF P) (.ref 83) "_law_walk" = true := by kernel_rfl

/- the hits of one row -/
noncomputable def wRow (row y : Str) (line number : Int) : Nat → Option Nat → List (List Int) → List (List Int)
  | 0, _, acc => acc
  | _ + 1, none, acc => acc
  | k + 1, some i, acc => wRow row y line number k (sr row y (max i (i + y.length - 1))) (acc ++ [[line, (i : Int), (y.length : Int), number]])
noncomputable def wLine (row y : Str) (line number : Int) (acc : List (List Int)) : List (List Int) := wRow row y line number (20 - acc.length) (sr row y row.length) acc
noncomputable def wTo (rows : List Str) (y : Str) (number : Int) : Nat → List (List Int)
  | 0 => []
  | i + 1 => wLine (rows.getD (rows.length - 1 - i) "") y ((rows.length - 1 - i : Nat) : Int) number (wTo rows y number i)

theorem PlainList.stay {h h' : Heap} (k : Stay h h') {l : Addr} {vs : Array Value} (x : h.PlainList l vs) : h'.PlainList l vs := (by obtain ⟨n, e⟩ := x; exact ⟨n, k _ _ e (not_tab nofun)⟩)
theorem IsList.stay {h h' : Heap} (k : Stay h h') {l : Addr} {vs : Array Value} (x : h.IsList l vs) : h'.IsList l vs := (by obtain ⟨o, e, hc, r⟩ := x; exact ⟨o, k _ _ e (not_tab (by rw [hc]; nofun)), hc, r⟩)
theorem keeps_stay {h h' : Heap} (k : ∀ b o, h.get? b = some o → h'.get? b = some o) : Stay h h' := fun b o e _ => k b o e

structure WS0 (h₀ : Heap) (L l : Addr) (pv : Value) (word : Str) (r : Addr) (number : Int) (tn : Tok) (acc : List (List Int)) (m : Str → Option Value) (h : Heap) : Prop where
  ev : Ev h₀ h
  ns : h.Ns L m
  mrows : m "rows" = some (.ref r)
  mnum : m "number" = some (.int number tn)
  mprog : m "prog" = some pv
  mhits : m "hits" = some (.ref l)
  pl : ∃ vs : List Value, h.PlainList l vs.toArray ∧ TupsAre h vs acc
  prog : IsProg h pv word
  L0 : h₀.get? L = none
  l0 : h₀.get? l = none
structure WSt (h₀ : Heap) (L l I : Addr) (oI : Obj) (pv : Value) (word : Str) (r : Addr) (number : Int) (tn : Tok) (acc : List (List Int)) (m : Str → Option Value) (h : Heap) : Prop extends WS0 h₀ L l pv word r number tn acc m h where
  it : h.get? I = some oI
  oIc : oI.cls = .type "range_iterator"
  oId : ∃ fs, oI.data = .fields fs

theorem WS0.setI {h₀ h h' : Heap} {L l I : Addr} {pv : Value} {word : Str} {r : Addr} {number : Int} {tn : Tok} {acc : List (List Int)} {m : Str → Option Value} (X : WS0 h₀ L l pv word r number tn acc m h) {x y z : Int} (hi : IsRangeIter h I x y z) (hI0 : h₀.get? I = none) (k : But I h h') : WS0 h₀ L l pv word r number tn acc m h' := by
  have In := Indep.rangeIter hi
  refine hid fun Gx hGx => ?_
  obtain ⟨vs, ⟨n, a⟩, b⟩ := X.pl
  obtain ⟨oL, es, ep, eL, dL, _⟩ := id X.ns
  refine hGx ?_
  clear hGx Gx
  have nl : l ≠ I := fun q => by rw [q] at a; unfold IsRangeIter at hi; rw [hi] at a; exact Data.noConfusion (congrArg Obj.data (Option.some.inj a))
  have nL : L ≠ I := fun q => by unfold IsRangeIter at hi; rw [q, hi] at eL; cases eL; cases dL
  exact { X with ev := X.ev.indep In hI0 k, ns := X.ns.at' fun o e => k _ _ nL e, pl := ⟨vs, ⟨n, k _ _ nl a⟩, b.indep In k⟩, prog := X.prog.indep In k }

section
variable {h₀ h h' : Heap} {L l I : Addr} {oI : Obj} {pv : Value} {word : Str} {r : Addr} {number : Int} {tn : Tok} {acc : List (List Int)} {m m' : Str → Option Value}
theorem WSt.step (X : WSt h₀ L l I oI pv word r number tn acc m h) (x : Ev h h') : WSt h₀ L l I oI pv word r number tn acc m h' :=
  { X with ev := X.ev.trans x, ns := Ns.stay x.keep X.ns, pl := (by obtain ⟨vs, a, b⟩ := X.pl; exact ⟨vs, PlainList.stay x.keep a, b.stay x.keep⟩), prog := X.prog.ev x, it := x.keep _ _ X.it (not_tab (by rw [X.oIc]; nofun)) }
theorem WSt.nsI (X : WSt h₀ L l I oI pv word r number tn acc m h) : Indep h L := .ns X.ns X.mprog
theorem WSt.store (X : WSt h₀ L l I oI pv word r number tn acc m h) (k : But L h h') (hn : h'.Ns L m') (e1 : m' "rows" = m "rows") (e2 : m' "number" = m "number") (e3 : m' "prog" = m "prog") (e4 : m' "hits" = m "hits") : WSt h₀ L l I oI pv word r number tn acc m' h' := by
  refine hid fun Gx hGx => ?_
  obtain ⟨vs, ⟨n, a⟩, b⟩ := X.pl
  obtain ⟨oL, es, ep, eL, dL, _⟩ := id X.ns
  obtain ⟨fs, hfs⟩ := X.oId
  refine hGx ?_
  clear hGx Gx
  have nl : l ≠ L := fun q => by rw [q, eL] at a; cases a; cases dL
  have nI : I ≠ L := fun q => by have := X.it; rw [q, eL] at this; cases this; rw [dL] at hfs; cases hfs
  exact { X with ev := X.ev.indep X.nsI X.L0 k, ns := hn, mrows := e1.trans X.mrows, mnum := e2.trans X.mnum, mprog := e3.trans X.mprog, mhits := e4.trans X.mhits, pl := ⟨vs, ⟨n, k _ _ nl a⟩, b.indep X.nsI k⟩, prog := X.prog.indep X.nsI k, it := k _ _ nI X.it }
theorem WSt.app {vs : List Value} {v : Value} {ns : List Int} (X : WSt h₀ L l I oI pv word r number tn acc m h) (hv : h.PlainList l vs.toArray) (ht : TupsAre h vs acc) (hw : IntTup h v ns) (hl : h'.PlainList l (vs.toArray.push v)) (k : But l h h') : WSt h₀ L l I oI pv word r number tn (acc ++ [ns]) m h' := by
  have In : Indep h l := .list hv.isList
  refine hid fun Gx hGx => ?_
  obtain ⟨n, a⟩ := hv
  obtain ⟨oL, es, ep, eL, dL, _⟩ := id X.ns
  obtain ⟨fs, hfs⟩ := X.oId
  refine hGx ?_
  clear hGx Gx
  have nl : L ≠ l := fun q => by rw [← q, eL] at a; cases a; cases dL
  have nI : I ≠ l := fun q => by have := X.it; rw [q, a] at this; cases this; cases hfs
  refine { X with ev := X.ev.indep In X.l0 k, ns := X.ns.at' fun o e => k _ _ nl e, pl := ⟨vs ++ [v], ?_, ?_⟩, prog := X.prog.indep In k, it := k _ _ nI X.it }
  · rw [← List.push_toArray]; exact hl
  · exact (ht.indep In k).append (.cons (hw.indep In k) .nil)
end

theorem strs_get {vs : List Value} {rows : List Str} {k : Nat} {row : Str} (hs : StrsAre vs rows) (hk : rows[k]? = some row) : ∃ v, vs[k]? = some v ∧ ∃ t, v = .str row t := by
  induction hs generalizing k with
  | nil => cases hk
  | cons y t hs ih =>
    cases k with
    | zero => cases hk; exact ⟨_, rfl, _, rfl⟩
    | succ k => exact ih hk
section
variable {prog : Program} {w : World} {A : Around} {s : Shared} {R : Result → Shared → Prop} {mg mb : Str → Option Value}
noncomputable abbrev envW (L : Addr) : Env := newEnv dWalk.scope L mainGlobals [] (("_law_walk" : Str) ++ ".<locals>.") (some 84) (.ref 83) none builtinsNs

/- rows[line] -/
theorem ev_row {E : Value → Shared → Prop} {env : Env} {x y : Str} {p1 p2 p3 : Pos} {m : Str → Option Value} {r : Addr} {vs : List Value} {rows : List Str} {k : Nat} {t : Tok} {row : Str} {Q : Value → Shared → Prop}
    (hn : s.heap.Ns env.locals m) (hx : m x = some (.ref r)) (hy : m y = some (.int k t)) (hl : s.heap.IsList r vs.toArray) (hs : StrsAre vs rows) (hk : rows[k]? = some row) (hb : k < 2 ^ 20) (h : ∀ t', Q (.str row t') s)
    (h1 : env.scope.kind = .function := by rfl) (h2 : env.kindOf x = some .local := by rfl) (h3 : (x == ("__debug__" : Str)) = false := by decide +kernel) (h4 : env.kindOf y = some .local := by rfl) (h5 : (y == ("__debug__" : Str)) = false := by decide +kernel)
    (h6 : ∀ i, subscripted (.Name y p2) false (.ref r) i = operate [.ref r, i] (getItem (.ref r) i) := by intro i; with_unfolding_all rfl) :
    wpAny (model prog w) A (eval (.Subscript (.Name x p1) (.Name y p2) p3) env) Q E s := by
  refine hid fun Gx hGx => ?_
  obtain ⟨v, hv, t', rfl⟩ := strs_get hs hk
  refine hGx ?_
  clear hGx Gx
  refine Subscript_ (ldL hn hx (ldL hn hy (tail_any hl.typeIs slot_list_getitem.lookup (wpAny_getItem_list (x := .str row t') hl (by lia) (by lia) (by simpa using hv) (h t')) (h6 _)) h1 h4 h5) h1 h2 h3)
end
end Mine
end

section
set_option maxHeartbeats 1000000
namespace Mine
open PySem PySem.W PyProof.Rows PySem.Calls
section
variable {prog : Program} {w : World} {A : Around} {s : Shared} {R : Result → Shared → Prop} {mg mb : Str → Option Value}

theorem FoundIs.notNone {h : Heap} {v : Value} {word : Str} {f : Option Nat} (x : FoundIs h v word f) : (!(v == .none)) = f.isSome := by
  cases f with
  | none => cases x; rfl
  | some i => obtain ⟨x, d, fd, fs, rfl, _⟩ := x; rfl

theorem walk_row {L l I r : Addr} {oI : Obj} {pv vf : Value} {word row : Str} {rows : List Str} {vs : List Value} {number : Int} {tn tl : Tok} {h₀ : Heap} {g : Array GenState} {dr : Drawn} {os : OsState} {test : PySem.Expr} {body : List Stmt} {pos : Pos} {line : Nat} {res : List (List Int)}
    (hst : stAt (fBody (stAt dWalk.body 2)) 1 = .While test body [] pos)
    (S : Stat w mg mb h₀) (hroom : A.depth + 1 < recursionLimit) (hh : A.handled = none) (hw : word.length ≤ 2 ^ 20)
    (hl : h₀.IsList r vs.toArray) (hs : StrsAre vs rows) (hrow : rows[line]? = some row) (hb : line < 2 ^ 20)
    (hR : ∀ h tk m, WSt h₀ L l I oI pv word r number tn res m h → R (.ok .next) ⟨h, g, dr, tk, os⟩)
    {f : Option Nat} {acc : List (List Int)} {m : Str → Option Value} {h : Heap} {tk : Nat} (X : WSt h₀ L l I oI pv word r number tn acc m h) (ml : m "line" = some (.int line tl)) (mf : m "found" = some vf) (F : FoundIs h vf word f) (hk : acc.length ≤ 20) (hr : wRow row word line number (20 - acc.length) f acc = res) :
    codeAny (model prog w) A (.whileLoop test body [] (envW L)) R ⟨h, g, dr, tk, os⟩ := by
  have e : Stmt.While test body [] pos = stAt (fBody (stAt dWalk.body 2)) 1 := hst.symm
  refine codeAny_whileLoop (fun k s => ∃ f acc m vf h tk, s = ⟨h, g, dr, tk, os⟩ ∧ WSt h₀ L l I oI pv word r number tn acc m h ∧ m "line" = some (.int line tl) ∧ m "found" = some vf ∧ FoundIs h vf word f ∧ acc.length ≤ 20 ∧ k = 20 - acc.length ∧ wRow row word line number k f acc = res) ?_ (20 - acc.length) ⟨f, acc, m, vf, h, tk, rfl, X, ml, mf, F, hk, rfl, hr⟩
  clear hk hr X ml mf F
  rintro k s invX
  refine hid fun Gx hGx => ?_
  obtain ⟨f, acc, m, vf, h, tk, rfl, X, ml, mf, F, hk, hke, hr⟩ := invX
  refine hGx ?_
  clear hGx Gx
  cases e
  clear hst
  have S' := S.stay X.ev.keep
  refine wpAny_isTrue_BoolOp (wpAny_allTrue_And_cons (wpAny_isTrue_Compare1 (ldL X.ns mf (wpAny_Constant_none (isNot_none (wpAny_truthy_bool ?_))))))
  rw [F.notNone]
  cases f with
  | none =>
    simp only [Option.isSome_none, Bool.false_eq_true, if_false]
    refine wpAny_execs_nil (hR _ _ m ?_)
    have : acc = res := by cases k <;> exact hr
    exact this ▸ X
  | some i =>
    simp only [Option.isSome_some, if_true]
    obtain ⟨vs', hpl, ht⟩ := id X.pl
    refine wpAny_allTrue_And_cons (wpAny_isTrue_Compare1 (Call_ (ldB S'.g (g_len S') S'.b (b_len S') (PyProof.Rows.callWith_builtin1 (wpAny_items_cons (ldL X.ns X.mhits (wpAny_items_nil (call_len_list hpl.isList (by rw [List.size_toArray, ht.length]; lia) (wpAny_Constant_int (wpAny_lt_int (wpAny_truthy_bool ?_)))))))))))
    rw [List.size_toArray, ht.length]
    by_cases hlt : (acc.length : Int) < 20
    rotate_left
    · rw [decide_eq_false hlt]
      simp only [Bool.false_eq_true, if_false]
      refine wpAny_execs_nil (hR _ _ m ?_)
      have : k = 0 := by lia
      subst this
      exact (show acc = res from hr) ▸ X
    rw [decide_eq_true hlt]
    simp only [if_true]
    refine wpAny_allTrue_And_nil ?_
    simp only [if_true]
    obtain ⟨k, rfl⟩ : ∃ k', k = k' + 1 := ⟨k - 1, by lia⟩
    have hr' : wRow row word line number k (sr row word (max i (i + word.length - 1))) (acc ++ [[(line : Int), (i : Int), (word.length : Int), number]]) = res := hr
    clear hr
    refine letQ ?_
    intro Qx Ex
    refine wpAny_execs_cons (Assign_Tuple (ev_span S' F (Nat.lt_of_succ_lt hroom) hw (fun Q' hq => ldL X.ns mf hq) ?_))
    intro T u1 u2 h₁ tk₁ k₁ hT
    dsimp only at k₁ ⊢
    have X₁ := X.step (.of_keeps k₁)
    refine assign_tup (items := #[.int i u1, .int ((i : Int) + (word.length : Int)) u2]) hh ⟨_, hT, rfl, _, rfl⟩ X₁.ns rfl rfl rfl (by intro y hy; simp only [List.mem_cons, List.not_mem_nil, or_false] at hy; rcases hy with rfl | rfl <;> rfl) rfl ?_
    intro h₂ tk₂ hn₂ k₂
    dsimp only at k₂ ⊢
    have X₂ := X₁.store k₂ hn₂ rfl rfl rfl rfl
    have ml₂ : upds m ["first", "behind"] [Value.int i u1, .int ((i : Int) + (word.length : Int)) u2] "line" = some (.int line tl) := ml
    clear k₂ k₁ hT hn₂ X₁ F hpl ht X S'
    obtain ⟨vs₂, hpl₂, ht₂⟩ := id X₂.pl
    have hsz₂ : vs₂.length ≤ 20 := by rw [ht₂.length]; exact hk
    refine wpAny_execs_cons (wpAny_Expr (MethodCall_ (ldL X₂.ns X₂.mhits ?_)))
    obtain ⟨nn, ho⟩ := id hpl₂
    refine getMethod_list_append ho rfl rfl (callWith_method1 (wpAny_items_cons (wpAny_Tuple (wpAny_items_cons (ldL X₂.ns ml₂ (wpAny_items_cons (ldL X₂.ns (by rfl) (wpAny_items_cons (wpAny_BinOp (ldL X₂.ns (by rfl) (ldL X₂.ns (by rfl) (PySem.P.sub_int (wpAny_items_cons (ldL X₂.ns X₂.mnum (wpAny_items_nil ⟨szl, wpAny_items_nil ?_⟩)))))))))))))))
    dsimp only
    have X₃ := X₂.step (.push (h := h₂) { cls := .type "tuple", data := .seq [.int line tl, .int i u1, .int ((i : Int) + (word.length : Int) - (i : Int)) tk₂, .int number tn].toArray })
    refine wpAny_list_append_plain (items := vs₂.toArray) (PlainList.stay (Ev.push _).keep hpl₂) (fun h₃ hpl₃ hs₃ => ?_) (by rw [List.size_toArray]; exact Nat.le_trans hsz₂ (by rw [sizeLine_eq]; lia))
    dsimp only at hs₃ ⊢
    have hit : IntTup (h₂.push { cls := .type "tuple", data := .seq [.int line tl, .int i u1, .int ((i : Int) + (word.length : Int) - (i : Int)) tk₂, .int number tn].toArray }) (.ref h₂.objs.size) [(line : Int), (i : Int), (word.length : Int), number] := by
      refine ⟨_, [.int line tl, .int i u1, .int ((i : Int) + (word.length : Int) - (i : Int)) tk₂, .int number tn], _, rfl, Heap.get?_push_size _ rfl, ?_⟩
      have e0 : (i : Int) + (word.length : Int) - (i : Int) = (word.length : Int) := by lia
      rw [e0]
      exact .cons _ _ (.cons _ _ (.cons _ _ (.cons _ _ .nil)))
    have X₄ := X₃.app (PlainList.stay (Ev.push _).keep hpl₂) (ht₂.stay (Ev.push _).keep) hit hpl₃ (fun b o hb e => (hs₃.2 b hb).trans e)
    clear hs₃ hit X₃ hpl₃ ho hpl₂ ht₂ X₂
    have S₄ := S.stay X₄.ev.keep
    obtain ⟨pm, ct, hK⟩ := K21 w.params
    refine wpAny_execs_cons <| wpAny_Assign_Name <| Call_ <| ldG S₄.g (g_sr S₄) <| callWith_def (o := fnObj (fnAny "search_reverse" "search_reverse" dSR.params (.stmts dSR.body) dSR.scope [] .none .none pm (.ref 20) ct)) rfl <|
      wpAny_items_cons <| ldL X₄.ns X₄.mprog <| wpAny_items_cons <| ev_row X₄.ns X₄.mrows ml₂ (IsList.stay X₄.ev.keep hl) hs hrow hb fun t' => ?_
    refine wpAny_items_cons <| Call_ <| ldB S₄.g (g_max S₄) S₄.b (b_max S₄) <| PyProof.Rows.callWith_builtin1 <| wpAny_items_cons <| ldL X₄.ns (by rfl) <| wpAny_items_cons <| wpAny_BinOp <| ldL X₄.ns (by rfl) <| wpAny_Constant_int <| PySem.P.sub_int <| wpAny_items_nil <| max_two_ints hh fun h₅ tk₅ k₅ => wpAny_items_nil ⟨k₅ _ _ (S₄.K _ _ hK), wpAny_call ?_⟩
    dsimp only at k₅ ⊢
    have X₅ := X₄.step (.of_keeps k₅)
    have ec : ∀ (a b : Tok), (if (i : Int) + (word.length : Int) - 1 > (i : Int) then Value.int ((i : Int) + (word.length : Int) - 1) a else Value.int (i : Int) b) = Value.int ((max i (i + word.length - 1) : Nat) : Int) (if (i : Int) + (word.length : Int) - 1 > (i : Int) then a else b) := by
      intro a b
      by_cases hc : (i : Int) + (word.length : Int) - 1 > (i : Int)
      · rw [if_pos hc, if_pos hc]; congr 1; lia
      · rw [if_neg hc, if_neg hc]; congr 1; lia
    rw [ec]
    refine sr_ct (s := ⟨h₅, g, dr, tk₅, os⟩) (S.stay X₅.ev.keep) X₅.prog hroom hh hw fun v h₆ tk₆ x₆ F₆ => ?_
    dsimp only at x₆ F₆ ⊢
    have X₆ := X₅.step x₆
    refine wpAny_storeName_local rfl X₆.ns (fun h₇ hn₇ hs₇ => ?_) rfl
    dsimp only at hs₇ ⊢
    have k₇ : But L h₆ h₇ := fun b o hb e => (hs₇.2 b hb).trans e
    refine wpAny_execs_nil ?_
    refine ⟨k, Nat.lt_succ_self _, _, _, _, v, h₇, _, rfl, X₆.store k₇ hn₇ rfl rfl rfl rfl, ml₂, by rfl, F₆.indep X₆.nsI k₇, ?_, ?_, hr'⟩
    · rw [List.length_append]; show acc.length + 1 ≤ 20; lia
    · rw [List.length_append]; show k = 20 - (acc.length + 1); lia

theorem wRow_len (row y : Str) (line number : Int) : ∀ (k : Nat) (f : Option Nat) (acc : List (List Int)), acc.length + k ≤ 20 → (wRow row y line number k f acc).length ≤ 20
  | 0, _, acc, h => by unfold wRow; lia
  | _ + 1, none, acc, h => by unfold wRow; lia
  | k + 1, some i, acc, h => by
    unfold wRow
    refine wRow_len row y line number k _ _ ?_
    rw [List.length_append]; show acc.length + 1 + k ≤ 20; lia
theorem wTo_len (rows : List Str) (y : Str) (number : Int) : ∀ i, (wTo rows y number i).length ≤ 20
  | 0 => by unfold wTo; exact Nat.zero_le _
  | i + 1 => by
    unfold wTo wLine
    have := wTo_len rows y number i
    exact wRow_len _ _ _ _ _ _ _ (by lia)
end
end Mine
end

section
set_option maxHeartbeats 1000000
namespace Mine
open PySem PySem.W PyProof.Rows PySem.Calls

theorem range_down (n : Nat) : Builtin.Range.rangeSize ((n : Int) - 1) (-1) (-1) = (n : Int) := by
  unfold Builtin.Range.rangeSize
  simp only [show ¬ ((-1 : Int) > 0) by decide, if_false, Int.neg_neg, Int.ediv_one]
  split <;> lia
theorem range_down_small (n : Nat) (h : n < 2 ^ 20) : Builtin.Range.small ((n : Int) - 1) (-1) (-1) = true := by
  unfold Builtin.Range.small
  rw [range_down]
  simp only [Builtin.Range.rangeFitsLong, show ¬ ((-1 : Int) > 0) by decide, if_false, Bool.and_eq_true, decide_eq_true_eq, Bool.or_eq_true]
  refine ⟨⟨⟨⟨⟨?_, ?_⟩, ?_⟩, ?_⟩, ?_⟩, ?_⟩
  all_goals first | lia | (right; constructor <;> decide) | (constructor <;> lia) | decide

section
variable {prog : Program} {w : World} {A : Around} {s : Shared} {R : Result → Shared → Prop} {mg mb : Str → Option Value}

theorem walk_ct {r : Addr} {word : Str} {rows : List Str} {vs : List Value} {number : Int} {tw tn : Tok} (S : Stat w mg mb s.heap) (hr : Root s.heap) (hroom : A.depth + 2 < recursionLimit) (hh : A.handled = none) (hw : word.length ≤ 2 ^ 20)
    (hl : s.heap.IsList r vs.toArray) (hs : StrsAre vs rows) (hb : rows.length < 2 ^ 20) (hrl : ∀ row ∈ rows, row.length < 2 ^ 20)
    (h : ∀ l ws h' tk, Ev s.heap h' → s.heap.get? l = none → h'.PlainList l ws.toArray → TupsAre h' ws (wTo rows word number rows.length) → R (.ok (.ret (.ref l))) { s with heap := h', toks := tk }) :
    codeAny (model prog w) A (.call (.ref 84) ⟨[.ref r, .str word tw, .int number tn], []⟩) R s := by
  refine hid fun Gx hGx => ?_
  obtain ⟨h₀, g, dr, tk, os⟩ := s
  refine hGx ?_
  clear hGx Gx
  dsimp only at *
  obtain ⟨pm, ct, hK⟩ := K84 w.params
  refine codeAny_call_def (Nat.lt_of_succ_lt (Nat.lt_of_succ_lt hroom)) (S.K _ _ hK) rfl S.nl (codeRec_of S.K (C83 _)) rfl (BindsTo.of_eq (binds := [(("rows" : Str), .ref r), (("word" : Str), .str word tw), (("number" : Str), .int number tn)]) rfl) (show ∀ x ∈ dWalk.scope.names, x.2 ≠ .cell by decide +kernel)
    (by intro y hy; simp only [List.mem_cons, List.not_mem_nil, or_false] at hy; rcases hy with rfl | rfl | rfl <;> rfl) ?_ rfl rfl rfl
  intro h₁ hn k₁
  have x : Ev h₀ h₁ := .of_keeps k₁
  have hL0 : h₀.get? h₀.objs.size = none := Heap.get?_none_of_le (Nat.le_refl _)
  show wpAny _ (A.deeper (envW h₀.objs.size)) (execs dWalk.body (envW h₀.objs.size)) _ _ _
  dsimp only at *
  generalize h₀.objs.size = L at *
  generalize hA : A.deeper (envW L) = A'
  have hroom' : A'.depth + 1 < recursionLimit := by rw [← hA]; exact hroom
  have hh' : A'.handled = none := by rw [← hA]; exact hh
  clear hA k₁
  have S₁ := S.stay x.keep
  obtain ⟨pm', ct', hK'⟩ := K77 w.params
  refine letQ ?_
  intro Qx Ex
  refine wpAny_execs_cons <| wpAny_Assign_Name <| Call_ <| ldG S₁.g (g_lp S₁) <| callWith_def (o := fnObj (fnAny "_law_prog" qLP dLP.params (.stmts dLP.body) dLP.scope [] .none .none pm' (.ref 76) ct')) rfl <|
    wpAny_items_cons <| ldL hn (by rfl) <| wpAny_items_nil ⟨S₁.K _ _ hK', wpAny_call ?_⟩
  refine prog_ct S₁ (x.root hr) (Nat.lt_of_succ_lt hroom') fun pv h₂ tk₂ x₂' hp => ?_
  dsimp only at x₂' ⊢
  have x₂ := x.trans x₂'
  have hn₂ := Ns.stay x₂'.keep hn
  clear S₁ x hn x₂'
  refine wpAny_storeName_local rfl hn₂ (fun h₃ hn₃ hs₃ => ?_) rfl
  dsimp only at hs₃ ⊢
  have k₃ : But L h₂ h₃ := fun b o hb e => (hs₃.2 b hb).trans e
  have i₂ : Indep h₂ L := .ns hn₂ (y := "rows") (u := .ref r) (by rfl)
  have x₃ := x₂.indep i₂ hL0 k₃
  have hp₃ := hp.indep i₂ k₃
  clear hs₃ k₃ i₂ hp x₂ hn₂
  refine wpAny_execs_cons <| wpAny_Assign_Name <| wpAny_List <| wpAny_items_nil ⟨szl, ?_⟩
  dsimp only
  have hl0 : h₀.get? h₃.objs.size = none := x₃.fresh (Nat.le_refl _)
  have hLl : L < h₃.objs.size := hn₃.lt
  refine wpAny_storeName_local rfl (hn₃.push _) (fun h₄ hn₄ hs₄ => ?_) rfl
  dsimp only at hs₄ ⊢
  have k₄ : But L (h₃.push { cls := .type "list", data := .seq [].toArray }) h₄ := fun b o hb e => (hs₄.2 b hb).trans e
  have i₃ : Indep (h₃.push { cls := .type "list", data := .seq [].toArray }) L := .ns (hn₃.push _) (y := "rows") (u := .ref r) (by rfl)
  have x₄ := (x₃.trans (.push _)).indep i₃ hL0 k₄
  have hp₄ := (hp₃.ev (.push _)).indep i₃ k₄
  have hpl₄ : h₄.PlainList h₃.objs.size (#[] : Array Value) := ⟨_, k₄ _ _ (Nat.ne_of_gt hLl) (Heap.get?_push_size _ rfl)⟩
  clear hs₄ k₄ i₃ hp₃ x₃
  generalize h₃.objs.size = l at *
  clear hn₃
  have S₄ := S.stay x₄.keep
  have hlen : vs.length = rows.length := StrsAre.length hs
  refine wpAny_execs_cons <| wpAny_For <| Call_ <| ldB S₄.g (g_range S₄) S₄.b (b_range S₄) <| PyProof.Rows.callWith_type1 <| wpAny_items_cons <| wpAny_BinOp <| Call_ <| ldB S₄.g (g_len S₄) S₄.b (b_len S₄) <| PyProof.Rows.callWith_builtin1 <| wpAny_items_cons <| ldL hn₄ (by rfl) <| wpAny_items_nil <|
    call_len_list (IsList.stay x₄.keep hl) (by rw [List.size_toArray, hlen]; lia) <| wpAny_Constant_int <| PySem.P.sub_int <| wpAny_items_cons <| wpAny_UnaryOp <| wpAny_Constant_int <| PySem.P.neg_int <| wpAny_items_cons <| wpAny_UnaryOp <| wpAny_Constant_int <| PySem.P.neg_int <| wpAny_items_nil <| ?_
  rw [List.size_toArray, hlen]
  refine call_range_3 (by decide) ?_ (.inl (PyProof.noPylong_small (by lia)))
  dsimp only
  generalize ho : ({ cls := .type "range", data := .fields _ } : Obj) = oR
  refine wpAny_pyIter_range (by rw [← ho]; exact IsRange.new ..) (range_down_small _ hb) ?_
  rw [range_down]
  clear ho
  dsimp only
  have W := Walks.range (prog := prog) (w := w) hh' (h₄.push oR).objs.size ((rows.length : Int) - 1) (-1) rows.length
  have y₆ : Ev h₄ ((h₄.push oR).push { cls := .type "range_iterator", data := .fields #[rawInt ((rows.length : Int) - 1), rawInt (rows.length : Int), rawInt (-1)] }) := (Ev.push oR).trans (.push _)
  have hI₆ : ((h₄.push oR).push { cls := .type "range_iterator", data := .fields #[rawInt ((rows.length : Int) - 1), rawInt (rows.length : Int), rawInt (-1)] }).get? (h₄.push oR).objs.size = some { cls := .type "range_iterator", data := .fields #[rawInt ((rows.length : Int) - 1), rawInt (rows.length : Int), rawInt (-1)] } := Heap.get?_push_size _ rfl
  have lI : h₄.objs.size < (h₄.push oR).objs.size := by rw [Heap.size_push]; lia
  generalize (h₄.push oR).push { cls := .type "range_iterator", data := .fields #[rawInt ((rows.length : Int) - 1), rawInt (rows.length : Int), rawInt (-1)] } = h₆ at *
  generalize (h₄.push oR).objs.size = I at *
  have hI0 : h₀.get? I = none := x₄.fresh (Nat.le_of_lt lI)
  have X₆ : WS0 h₀ L l pv word r number tn (wTo rows word number 0) _ h₆ :=
    { ev := x₄.trans y₆, ns := Ns.stay y₆.keep hn₄, mrows := by rfl, mnum := by rfl, mprog := by rfl, mhits := by rfl, pl := ⟨[], PlainList.stay y₆.keep hpl₄, .nil⟩, prog := hp₄.ev y₆, L0 := hL0, l0 := hl0 }
  have st₆ : IsRangeIter h₆ I (((rows.length : Int) - 1) + ((0 : Nat) : Int) * -1) ((rows.length : Int) - ((0 : Nat) : Int)) (-1) := by simpa [IsRangeIter] using hI₆
  clear y₆ hI₆ lI hpl₄ hn₄ hp₄ S₄ x₄
  refine for_walk W (fun i h => ∃ m, WS0 h₀ L l pv word r number tn (wTo rows word number i) m h) ?_ ?_ ?_ st₆ ⟨_, X₆⟩
  · rintro i h h' ⟨m, X⟩ st k
    exact ⟨m, X.setI st hI0 fun b o hb e => k b o (fun q => hb (List.mem_singleton.mp q)) e⟩
  · rintro i h tk v E hi ⟨tl, rfl⟩ st ⟨m, X⟩
    refine wpAny_of_eq rfl ?_
    refine wpAny_assign_Name ?_
    have Y : WSt h₀ L l I _ pv word r number tn (wTo rows word number i) m h := { X with it := st, oIc := rfl, oId := ⟨_, rfl⟩ }
    have hi' : IsRangeIter h I _ _ _ := st
    clear st
    refine wpAny_storeName_local rfl Y.ns (fun h₁ hn₁ hs₁ => ?_) rfl
    dsimp only at hs₁ ⊢
    have k₁ : But L h h₁ := fun b o hb e => (hs₁.2 b hb).trans e
    have Y₁ := Y.store k₁ hn₁ rfl rfl rfl rfl
    have e1 : ((rows.length : Int) - 1) + (i : Int) * -1 = ((rows.length - 1 - i : Nat) : Int) := by lia
    have hlt : rows.length - 1 - i < rows.length := by lia
    have hrow : rows[rows.length - 1 - i]? = some (rows.getD (rows.length - 1 - i) "") := by rw [List.getD_eq_getElem?_getD, List.getElem?_eq_getElem hlt]; rfl
    have hmem : rows.getD (rows.length - 1 - i) "" ∈ rows := List.mem_of_getElem? hrow
    have ml₁ : (fun y => if y = ("line" : Str) then some (Value.int (((rows.length : Int) - 1) + (i : Int) * -1) tl) else m y) "line" = some (.int ((rows.length - 1 - i : Nat) : Int) tl) := by rw [← e1]; rfl
    have S₁ := S.stay Y₁.ev.keep
    obtain ⟨pm, ct, hK⟩ := K21 w.params
    have hlr := hrl _ hmem
    have hln : rows.length - 1 - i < 2 ^ 20 := by lia
    refine letQ ?_
    intro Qx Ex
    refine wpAny_execs_cons <| wpAny_Assign_Name <| Call_ <| ldG S₁.g (g_sr S₁) <| callWith_def (o := fnObj (fnAny "search_reverse" "search_reverse" dSR.params (.stmts dSR.body) dSR.scope [] .none .none pm (.ref 20) ct)) rfl <|
      wpAny_items_cons <| ldL Y₁.ns Y₁.mprog <| wpAny_items_cons <| ev_row Y₁.ns Y₁.mrows ml₁ (IsList.stay Y₁.ev.keep hl) hs hrow hln fun t' => ?_
    refine wpAny_items_cons <| Call_ <| ldB S₁.g (g_len S₁) S₁.b (b_len S₁) <| PyProof.Rows.callWith_builtin1 <| wpAny_items_cons <| ev_row Y₁.ns Y₁.mrows ml₁ (IsList.stay Y₁.ev.keep hl) hs hrow hln fun t' => wpAny_items_nil <| PySem.P.len_str (by lia) <| wpAny_items_nil ⟨S₁.K _ _ hK, wpAny_call ?_⟩
    dsimp only
    refine sr_ct (s := ⟨h₁, g, dr, _, os⟩) S₁ Y₁.prog hroom' hh' hw fun v h₂ tk₂ x₂ F₂ => ?_
    dsimp only at x₂ F₂ ⊢
    have Y₂ := Y₁.step x₂
    refine wpAny_storeName_local rfl Y₂.ns (fun h₃ hn₃ hs₃ => ?_) rfl
    dsimp only at hs₃ ⊢
    have k₃ : But L h₂ h₃ := fun b o hb e => (hs₃.2 b hb).trans e
    have Y₃ := Y₂.store k₃ hn₃ rfl rfl rfl rfl
    refine wpAny_execs_cons (wpAny_While ?_)
    refine walk_row rfl S hroom' hh' hw hl hs hrow hln ?_ Y₃ ml₁ (by rfl) (F₂.indep Y₂.nsI k₃) (wTo_len ..) rfl
    intro h₄ tk₄ m₄ Y₄
    refine wpAny_execs_nil ⟨h₄, tk₄, rfl, ⟨m₄, Y₄.toWS0⟩, fun b hb o e => ?_⟩
    cases List.mem_singleton.mp hb
    unfold IsRangeIter at hi'
    rw [hi'] at e; cases e
    exact Y₄.it
  · rintro h' tk' ⟨m, X⟩
    refine letQ ?_
    intro Qx Ex
    refine wpAny_execs_cons <| wpAny_Return_some <| ldL X.ns X.mhits ?_
    obtain ⟨ws, a, b⟩ := X.pl
    exact h l ws _ _ X.ev X.l0 a b
end
end Mine
end

section
set_option maxHeartbeats 1000000
namespace Mine
open PySem PySem.W PyProof.Rows PySem.Calls

theorem K35 (P : Params) : ∃ pm c ct, (KF P).lookup 35 = some (fnObj (fnAny "__init__" "TupleComp.__init__" dInit.params (.stmts dInit.body) dInit.scope [] .none .none pm (.ref c) ct)) ∧ codeIn (KF P) (.ref c) "TupleComp.__init__" = true := ⟨_, _, _, rfl, by kernel_rfl⟩
theorem K42 (P : Params) : ∃ pm c ct, (KF P).lookup 42 = some (fnObj (fnAny "compare" "TupleComp.compare" dCmp.params (.stmts dCmp.body) dCmp.scope [] .none .none pm (.ref c) ct)) ∧ codeIn (KF P) (.ref c) "TupleComp.compare" = true := ⟨_, _, _, rfl, by kernel_rfl⟩
theorem K45 (P : Params) : ∃ nm q bs sn sub col dd k0 k1 k2 k3 k5, (KF P).lookup 45 = some (excClassObj nm q 45 44 bs [.type "object"] true sn sub false col dd k0 k1 k2 k3 k5 "object.__new__") := ⟨_, _, _, _, _, _, _, _, _, _, _, _, rfl⟩
noncomputable def strKeysB (es : Array DictEntry) : Bool := es.toList.all fun e => match e.key with | .str _ _ => true | _ => false
theorem strKeysB_ok {es : Array DictEntry} (h : strKeysB es = true) : StrKeys es := fun e he => by
  have := List.all_eq_true.mp h e (Array.mem_toList_iff.mpr he)
  split at this
  · rename_i n t q; exact ⟨n, t, q⟩
  · cases this
theorem K44 (P : Params) : ∃ o es n, (KF P).lookup 44 = some o ∧ o.data = .dict es n ∧ strKeysB es = true ∧ nsFind es "__init__" = some (.ref 35) ∧ nsFind es "compare" = some (.ref 42) ∧ nsFind es "__setattr__" = none ∧ nsFind es "comp_select_list" = none ∧ nsFind es "__getattribute__" = none ∧ nsFind es "__getattr__" = none :=
  ⟨_, _, _, rfl, rfl, by kernel_rfl, by kernel_rfl, by kernel_rfl, by kernel_rfl, by kernel_rfl, by kernel_rfl, by kernel_rfl⟩
end Mine
end

section
set_option maxHeartbeats 1000000
namespace Mine
open PySem PySem.W PyProof.Rows PySem.Calls

noncomputable def selL : List (List Int) := [[0, -1], [1, -1], [2, 1]]
noncomputable def cmpS (ls rs : List Int) : List (List Int) → Int
  | [] => 0
  | p :: t => if ls.getD (p.getD 0 0).toNat 0 < rs.getD (p.getD 0 0).toNat 0 then -(p.getD 1 0) else if ls.getD (p.getD 0 0).toNat 0 > rs.getD (p.getD 0 0).toNat 0 then p.getD 1 0 else cmpS ls rs t

/- a TupleComp with its list -/
noncomputable def IsTC (h : Heap) (x : Addr) : Prop := ∃ mA l vs, h.Inst x 45 mA ∧ mA "comp_select_list" = some (.ref l) ∧ mA "compare" = none ∧ h.PlainList l vs ∧ TupsAre h vs.toList selL

theorem Inst.stay {h h' : Heap} (k : Stay h h') {x C : Addr} {mA : Str → Option Value} (I : h.Inst x C mA) : h'.Inst x C mA := by
  refine hid fun Gx hGx => ?_
  obtain ⟨o, e, c, nc, hd⟩ := I
  refine hGx ?_
  clear hGx Gx
  refine ⟨o, k _ _ e (not_tab (by rw [c]; nofun)), c, nc, ?_⟩
  rcases hd with hd | ⟨d, h1, h2, o', es, ep, e', hd', r⟩
  · exact .inl hd
  · exact .inr ⟨d, h1, h2, o', es, ep, k _ _ e' (not_tab_dict hd'), hd', r⟩
theorem IsTC.stay {h h' : Heap} (k : Stay h h') {x : Addr} (X : IsTC h x) : IsTC h' x :=
  (by obtain ⟨mA, l, vs, a, b, c, d, e⟩ := X; exact ⟨mA, l, vs, Inst.stay k a, b, c, PlainList.stay k d, e.stay k⟩)

/- a function's frame -/
structure Fm (h₀ : Heap) (L : Addr) (m : Str → Option Value) (h : Heap) : Prop where
  ev : Ev h₀ h
  ns : h.Ns L m
  L0 : h₀.get? L = none
section
variable {h₀ h h' : Heap} {L I l : Addr} {m m' : Str → Option Value}
theorem Fm.step (F : Fm h₀ L m h) (x : Ev h h') : Fm h₀ L m h' := ⟨F.ev.trans x, Ns.stay x.keep F.ns, F.L0⟩
theorem Fm.keeps (F : Fm h₀ L m h) (k : ∀ b o, h.get? b = some o → h'.get? b = some o) : Fm h₀ L m h' := F.step (.of_keeps k)
theorem Fm.store (F : Fm h₀ L m h) (k : But L h h') (hn : h'.Ns L m') : Fm h₀ L m' h' := ⟨F.ev.setNs' F.ns F.L0 k, hn, F.L0⟩
theorem ns_ne {o : Obj} (hn : h.Ns L m) (e : h.get? I = some o) (hd : ∀ es ep, o.data ≠ .dict es ep) : I ≠ L := fun q => by
  refine hid fun Gx hGx => ?_
  obtain ⟨oL, es, ep, eL, dL, _⟩ := hn
  refine hGx ?_
  clear hGx Gx
  rw [q, eL] at e; cases e; exact hd _ _ dL
theorem listIter_ne (hn : h.Ns L m) {i : Nat} (hi : h.IsListIter I l i) : I ≠ L := by
  refine hid fun Gx hGx => ?_
  obtain ⟨o, e, hc, hd⟩ := hi
  refine hGx ?_
  clear hGx Gx
  exact ns_ne hn e (by rw [hd]; nofun)
theorem list_ne (hn : h.Ns L m) {vs : Array Value} (hi : h.IsList l vs) : l ≠ L := by
  refine hid fun Gx hGx => ?_
  obtain ⟨o, e, hc, n, hd⟩ := hi
  refine hGx ?_
  clear hGx Gx
  exact ns_ne hn e (by rw [hd]; nofun)
theorem Fm.setListIter (F : Fm h₀ L m h) {i : Nat} (hi : h.IsListIter I l i) (hI0 : h₀.get? I = none) (k : But I h h') : Fm h₀ L m h' :=
  ⟨F.ev.indep (.listIter hi) hI0 k, F.ns.at' fun o e => k _ _ (listIter_ne F.ns hi).symm e, F.L0⟩
theorem IntTup.isTup {v : Value} {ns : List Int} (X : IntTup h v ns) : ∃ t its, v = .ref t ∧ IsTup h t its.toArray ∧ IntsAre its ns := (by obtain ⟨t, its, n, e, ht, hi⟩ := X; exact ⟨t, its, e, ⟨_, ht, rfl, n, rfl⟩, hi⟩)
theorem IntTup.at' (k : But L h h') (hn : h.Ns L m) {v : Value} {ns : List Int} (X : IntTup h v ns) : IntTup h' v ns := by
  refine hid fun Gx hGx => ?_
  obtain ⟨t, its, n, e, ht, hi⟩ := X
  refine hGx ?_
  clear hGx Gx
  exact ⟨t, its, n, e, k _ _ (ns_ne hn ht nofun) ht, hi⟩
theorem ints_get {its : List Value} {ns : List Int} (hi : IntsAre its ns) {j : Nat} (hj : j < ns.length) : ∃ t, its[j]? = some (.int (ns.getD j 0) t) := by
  induction hi generalizing j with
  | nil => exact absurd hj (Nat.not_lt_zero _)
  | cons n t hi ih =>
    cases j with
    | zero => exact ⟨t, rfl⟩
    | succ j => exact ih (Nat.lt_of_succ_lt_succ hj)
theorem seqIndex_nat {k : Int} {n : Nat} (h0 : 0 ≤ k) (h1 : k < n) : seqIndex? k n = some k.toNat := by
  unfold seqIndex?
  have e : ¬ k < 0 := by lia
  simp only [e, if_false]
  rw [if_pos (by simp only [Bool.and_eq_true, decide_eq_true_eq]; exact ⟨h0, h1⟩)]
theorem ints_len {its : List Value} {ns : List Int} (hi : IntsAre its ns) : its.length = ns.length := by
  induction hi with
  | nil => rfl
  | cons n t hi ih => rw [List.length_cons, List.length_cons, ih]
end

section
variable {prog : Program} {w : World} {A : Around} {s : Shared} {R : Result → Shared → Prop} {mg mb : Str → Option Value}
noncomputable abbrev envC (L c : Addr) : Env := newEnv dCmp.scope L mainGlobals [] (("TupleComp.compare" : Str) ++ ".<locals>.") (some 42) (.ref c) none builtinsNs

/- t[i] of a tuple of ints -/
theorem ev_tupItem {E : Value → Shared → Prop} {env : Env} {x y : Str} {p1 p2 p3 : Pos} {m : Str → Option Value} {v : Value} {ns : List Int} {k : Int} {t : Tok} {Q : Value → Shared → Prop}
    (hn : s.heap.Ns env.locals m) (hx : m x = some v) (hy : m y = some (.int k t)) (X : IntTup s.heap v ns) (h0 : 0 ≤ k) (hk : k < ns.length) (hb : ns.length ≤ 2 ^ 20) (h : ∀ t', Q (.int (ns.getD k.toNat 0) t') s)
    (h1 : env.scope.kind = .function := by rfl) (h2 : env.kindOf x = some .local := by rfl) (h3 : (x == ("__debug__" : Str)) = false := by decide +kernel) (h4 : env.kindOf y = some .local := by rfl) (h5 : (y == ("__debug__" : Str)) = false := by decide +kernel)
    (h6 : ∀ r i, subscripted (.Name y p2) false r i = operate [r, i] (getItem r i) := by intro r i; with_unfolding_all rfl) :
    wpAny (model prog w) A (eval (.Subscript (.Name x p1) (.Name y p2) p3) env) Q E s := by
  refine hid fun Gx hGx => ?_
  obtain ⟨ta, its, rfl, hT, hi⟩ := X.isTup
  refine hGx ?_
  clear hGx Gx
  have hl := ints_len hi
  obtain ⟨t', ht'⟩ := ints_get hi (j := k.toNat) (by lia)
  refine Subscript_ (ldL hn hx (ldL hn hy (tail_any hT.typeIs slot_tuple_getitem.lookup (getItem_tuple (j := k.toNat) hT (by lia) (by lia) ?_ (by simpa using ht') (h t')) (h6 _ _)) h1 h4 h5) h1 h2 h3)
  exact seqIndex_nat h0 (by rw [List.size_toArray, hl]; exact hk)

theorem cmp_ct {x : Addr} {lv rv : Value} {ls rs : List Int} (S : Stat w mg mb s.heap) (X : IsTC s.heap x) (hl : IntTup s.heap lv ls) (hr : IntTup s.heap rv rs) (h4 : ls.length = 4) (h4' : rs.length = 4) (hroom : A.depth < recursionLimit) (hh : A.handled = none)
    (h : ∀ t h' tk, Ev s.heap h' → R (.ok (.ret (.int (cmpS ls rs selL) t))) { s with heap := h', toks := tk }) :
    codeAny (model prog w) A (.call (.ref 42) ⟨[.ref x, lv, rv], []⟩) R s := by
  refine hid fun Gx hGx => ?_
  obtain ⟨h₀, g, dr, tk, os⟩ := s
  refine hGx ?_
  clear hGx Gx
  dsimp only at *
  refine hid fun Gx hGx => ?_
  obtain ⟨pm, c, ct, hK, hC⟩ := K42 w.params
  refine hGx ?_
  clear hGx Gx
  refine codeAny_call_def hroom (S.K _ _ hK) rfl S.nl (codeRec_of S.K hC) rfl (BindsTo.of_eq (binds := [(("self" : Str), .ref x), (("left" : Str), lv), (("right" : Str), rv)]) rfl) (show ∀ x ∈ dCmp.scope.names, x.2 ≠ .cell by decide +kernel)
    (by intro y hy; simp only [List.mem_cons, List.not_mem_nil, or_false] at hy; rcases hy with rfl | rfl | rfl <;> rfl) ?_ rfl rfl rfl
  intro h₁ hn k₁
  have hL0 : h₀.get? h₀.objs.size = none := Heap.get?_none_of_le (Nat.le_refl _)
  show wpAny _ (A.deeper (envC h₀.objs.size c)) (execs dCmp.body (envC h₀.objs.size c)) _ _ _
  dsimp only at *
  have F : Fm h₀ h₀.objs.size _ h₁ := ⟨.of_keeps k₁, hn, hL0⟩
  clear hn k₁
  generalize h₀.objs.size = L at *
  generalize hA : A.deeper (envC L c) = A'
  have hh' : A'.handled = none := by rw [← hA]; exact hh
  clear hA
  refine hid fun Gx hGx => ?_
  obtain ⟨mA, l, vs, I, hl1, hl2, hpl, hts⟩ := id X
  obtain ⟨on, es, nn, K44a, K44b, K44c, _, _, _, n4, n5, n6⟩ := K44 w.params
  obtain ⟨nm, q, bs, sn, sub, col, dd, k0, k1, k2, k3, k5, hC45⟩ := K45 w.params
  refine hGx ?_
  clear hGx Gx
  have S₁ := S.stay F.ev.keep
  refine letQ ?_
  intro Qx Ex
  refine wpAny_execs_cons <| wpAny_For <| Attribute_name <| ldL F.ns (by rfl) <| load_attr (S₁.K _ _ hC45) (mN := nsFind es) ⟨on, es, nn, S₁.K _ _ K44a, K44b, strKeysB_ok K44c, fun _ => rfl⟩ n5 n4 (by rw [typeLookup_type, builtinLookup_eq_fast]; kernel_rfl) (Inst.stay F.ev.keep I) hl1 (by rfl) ?_
  have hpl₁ := PlainList.stay F.ev.keep hpl
  refine wpAny_pyIter_list hpl₁.isList ?_
  dsimp only
  have y : Ev h₁ (h₁.push { cls := .type "list_iterator", data := .fields #[.ref l, .int 0 0] }) := .push _
  have hI : (h₁.push { cls := .type "list_iterator", data := .fields #[.ref l, .int 0 0] }).IsListIter h₁.objs.size l 0 := ⟨_, Heap.get?_push_size _ rfl, rfl, rfl⟩
  have hI0 : h₀.get? h₁.objs.size = none := F.ev.fresh (Nat.le_refl _)
  have hlI : l ≠ h₁.objs.size := Nat.ne_of_lt ((by obtain ⟨_, e⟩ := hpl₁; exact Heap.lt_size e))
  have F₂ := F.step y
  have hl₂ := PlainList.stay y.keep hpl₁
  generalize h₁.push { cls := .type "list_iterator", data := .fields #[.ref l, .int 0 0] } = h₂ at *
  generalize h₁.objs.size = J at *
  clear y F hpl₁ S₁
  have W := Walks.list (prog := prog) (w := w) hh' J l hlI vs
  have hvs : vs.size = 3 := by rw [← Array.length_toList, hts.length]; rfl
  refine for_walk W (fun i h => ∃ m, Fm h₀ L m h ∧ m "left" = some lv ∧ m "right" = some rv ∧ cmpS ls rs (selL.drop i) = cmpS ls rs selL) ?_ ?_ ?_ ⟨hI, hl₂.isList⟩ ⟨_, F₂, rfl, rfl, rfl⟩
  · rintro i h h' ⟨m, F, a⟩ st k
    exact ⟨m, F.setListIter st.1 hI0 fun b o hb e => k b o (fun q => hb (List.mem_singleton.mp q)) e, a⟩
  · rintro i h tk v E hi hv st invX
    refine hid fun Gx hGx => ?_
    obtain ⟨m, F, ml, mr, hc⟩ := invX
    refine hGx ?_
    clear hGx Gx
    obtain ⟨ns, hns, hT⟩ := hts.get (i := i) (v := v) (by rw [Array.getElem?_toList]; exact hv)
    refine hid fun Gx hGx => ?_
    obtain ⟨T, its, n, rfl, hT, hints⟩ := hT
    refine hGx ?_
    clear hGx Gx
    have hT' := F.ev.keep _ _ hT (not_tab nofun)
    refine wpAny_letOwnedTupleGo_listiter st.1 ?_
    obtain ⟨p0, p1, rfl, hp0, hp0', hdrop⟩ : ∃ p0 p1 : Int, ns = [p0, p1] ∧ 0 ≤ p0 ∧ p0 < 4 ∧ selL.drop i = [p0, p1] :: selL.drop (i + 1) := by
      rw [hvs] at hi
      rcases i with _ | _ | _ | i
      · cases hns; exact ⟨0, -1, rfl, by decide, by decide, rfl⟩
      · cases hns; exact ⟨1, -1, rfl, by decide, by decide, rfl⟩
      · cases hns; exact ⟨2, 1, rfl, by decide, by decide, rfl⟩
      · lia
    obtain ⟨u0, u1, rfl⟩ : ∃ u0 u1, its = [.int p0 u0, .int p1 u1] := by
      cases hints with
      | cons _ u0 hints => cases hints with
        | cons _ u1 hints => cases hints; exact ⟨u0, u1, rfl⟩
    refine assign_tup (items := [.int p0 u0, .int p1 u1].toArray) hh' ⟨_, hT', rfl, _, rfl⟩ F.ns rfl rfl rfl (by intro y hy; simp only [List.mem_cons, List.not_mem_nil, or_false] at hy; rcases hy with rfl | rfl <;> rfl) rfl ?_
    intro h₃ tk₃ hn₃ k₃
    dsimp only at k₃ ⊢
    have F₃ := F.store k₃ hn₃
    have jL : J ≠ L := listIter_ne F.ns st.1
    have lL : l ≠ L := list_ne F.ns st.2
    refine letQ ?_
    intro Qx Ex
    refine wpAny_execs_cons <| wpAny_Assign_Name <| ev_tupItem F₃.ns (ns := ls) (v := lv) (k := p0) (by exact ml) (by rfl) (hl.stay F₃.ev.keep) hp0 (by lia) (by lia) fun t' => ?_
    refine wpAny_storeName_local rfl F₃.ns (fun h₄ hn₄ hs₄ => ?_) rfl
    dsimp only at hs₄ ⊢
    have k₄ : But L h₃ h₄ := fun b o hb e => (hs₄.2 b hb).trans e
    have F₄ := F₃.store k₄ hn₄
    refine wpAny_execs_cons <| wpAny_Assign_Name <| ev_tupItem F₄.ns (ns := rs) (v := rv) (k := p0) (by exact mr) (by rfl) (hr.stay F₄.ev.keep) hp0 (by lia) (by lia) fun t'' => ?_
    refine wpAny_storeName_local rfl F₄.ns (fun h₅ hn₅ hs₅ => ?_) rfl
    dsimp only at hs₅ ⊢
    have k₅ : But L h₄ h₅ := fun b o hb e => (hs₅.2 b hb).trans e
    have F₅ := F₄.store k₅ hn₅
    have kk : ∀ b ∈ [J, l], ∀ o, h.get? b = some o → h₅.get? b = some o := by
      intro b hb o e
      have : b ≠ L := by
        simp only [List.mem_cons, List.not_mem_nil, or_false] at hb
        rcases hb with rfl | rfl
        · exact jL
        · exact lL
      exact k₅ _ _ this (k₄ _ _ this (k₃ _ _ this e))
    clear k₃ k₄ k₅ hn₃ hn₄ hn₅ hs₄ hs₅ F₃ F₄ F jL lL
    rw [hdrop] at hc
    unfold cmpS at hc
    simp only [List.getD_cons_zero, List.getD_cons_succ] at hc
    refine wpAny_execs_cons <| wpAny_If <| wpAny_isTrue_Compare1 <| ldL F₅.ns (by rfl) <| ldL F₅.ns (by rfl) <| wpAny_lt_int <| wpAny_truthy_bool ?_
    by_cases h1 : ls.getD p0.toNat 0 < rs.getD p0.toNat 0
    · rw [decide_eq_true h1]
      rw [if_pos h1] at hc
      simp only [if_true]
      refine letQ ?_
      intro Qx Ex
      refine wpAny_execs_cons <| wpAny_Return_some <| wpAny_UnaryOp <| ldL F₅.ns (by rfl) <| PySem.P.neg_int ?_
      rw [hc]
      exact ‹∀ t h' tk, Ev h₀ h' → R (.ok (.ret (.int (cmpS ls rs selL) t))) ⟨h', g, dr, tk, os⟩› _ _ _ F₅.ev
    rw [decide_eq_false h1]
    rw [if_neg h1] at hc
    simp only [Bool.false_eq_true, if_false]
    refine wpAny_execs_nil <| wpAny_execs_cons <| wpAny_If <| wpAny_isTrue_Compare1 <| ldL F₅.ns (by rfl) <| ldL F₅.ns (by rfl) <| PySem.P.gt_int <| wpAny_truthy_bool ?_
    by_cases h2 : ls.getD p0.toNat 0 > rs.getD p0.toNat 0
    · rw [decide_eq_true h2]
      rw [if_pos h2] at hc
      simp only [if_true]
      refine letQ ?_
      intro Qx Ex
      refine wpAny_execs_cons <| wpAny_Return_some <| ldL F₅.ns (by rfl) ?_
      rw [hc]
      exact ‹∀ t h' tk, Ev h₀ h' → R (.ok (.ret (.int (cmpS ls rs selL) t))) ⟨h', g, dr, tk, os⟩› _ _ _ F₅.ev
    rw [decide_eq_false h2]
    rw [if_neg h2] at hc
    simp only [Bool.false_eq_true, if_false]
    refine wpAny_execs_nil <| wpAny_execs_nil ⟨_, _, rfl, ⟨_, F₅, ml, mr, hc⟩, kk⟩
  · rintro h' tk' invX
    refine hid fun Gx hGx => ?_
    obtain ⟨m, F, ml, mr, hc⟩ := invX
    refine hGx ?_
    clear hGx Gx
    rw [hvs] at hc
    refine letQ ?_
    intro Qx Ex
    refine wpAny_execs_cons <| wpAny_Return_some <| wpAny_Constant_int ?_
    have e0 : (0 : Int) = cmpS ls rs selL := hc
    rw [e0]
    exact h _ _ _ F.ev
end
end Mine
end

section
set_option maxHeartbeats 1000000
namespace Mine
open PySem PySem.W PyProof.Rows PySem.Calls

/- a TupleComp: its object, its dict, its list -/
structure TC (h : Heap) (x d l : Addr) : Prop where
  obj : ∃ o, h.get? x = some o ∧ o.cls = .ref 45 ∧ (∀ c, o.data ≠ .cls c) ∧ o.dict = some d
  ns : h.Ns1 d fun y => if y = "comp_select_list" then some (.ref l) else none
  dx : d ≠ x
  list : ∃ vs, h.PlainList l vs ∧ TupsAre h vs.toList selL
theorem TC.is {h : Heap} {x d l : Addr} (X : TC h x d l) : IsTC h x :=
  (by obtain ⟨o, a, b, c, e⟩ := X.obj; exact (by obtain ⟨vs, f, g⟩ := X.list; exact ⟨_, l, vs, ⟨o, a, b, c, .inr ⟨d, e, X.dx, X.ns⟩⟩, by rfl, by rfl, f, g⟩))
theorem TC.stay {h h' : Heap} (k : Stay h h') {x d l : Addr} (X : TC h x d l) : TC h' x d l :=
  ⟨(by obtain ⟨o, a, b, r⟩ := X.obj; exact ⟨o, k _ _ a (not_tab (by rw [b]; nofun)), b, r⟩), (by obtain ⟨o, es, ep, a, b, r⟩ := X.ns; exact ⟨o, es, ep, k _ _ a (not_tab_dict b), b, r⟩), X.dx, (by obtain ⟨vs, f, g⟩ := X.list; exact ⟨vs, PlainList.stay k f, g.stay k⟩)⟩
theorem TC.but {h h' : Heap} {a x d l : Addr} (X : TC h x d l) (I : Indep h a) (k : But a h h') (h1 : x ≠ a) (h2 : d ≠ a) (h3 : l ≠ a) : TC h' x d l :=
  ⟨(by obtain ⟨o, a, r⟩ := X.obj; exact ⟨o, k _ _ h1 a, r⟩), (by obtain ⟨o, es, ep, a, r⟩ := X.ns; exact ⟨o, es, ep, k _ _ h2 a, r⟩), X.dx, (by obtain ⟨vs, ⟨n, f⟩, g⟩ := X.list; exact ⟨vs, ⟨n, k _ _ h3 f⟩, g.indep I k⟩)⟩

section
variable {prog : Program} {w : World} {A : Around} {s : Shared} {R : Result → Shared → Prop} {mg mb : Str → Option Value}
noncomputable abbrev envI (L c : Addr) : Env := newEnv dInit.scope L mainGlobals [] (("TupleComp.__init__" : Str) ++ ".<locals>.") (some 35) (.ref c) none builtinsNs

theorem make_tc {E : Value → Shared → Prop} {Q : Value → Shared → Prop} {l : Addr} {vs : Array Value} (S : Stat w mg mb s.heap) (hroom : A.depth + 1 < recursionLimit)
    (hpl : s.heap.PlainList l vs) (hts : TupsAre s.heap vs.toList selL) (h : ∀ x d h' tk, Ev s.heap h' → s.heap.get? x = none → s.heap.get? d = none → TC h' x d l → Q (.ref x) { s with heap := h', toks := tk }) :
    wpAny (model prog w) A (call (.ref 45) [.ref l]) Q E s := by
  refine hid fun Gx hGx => ?_
  obtain ⟨h₀, g, dr, tk, os⟩ := s
  refine hGx ?_
  clear hGx Gx
  dsimp only at *
  refine hid fun Gx hGx => ?_
  obtain ⟨on, es, nn, K44a, K44b, K44c, n1, n2, n3, n4, n5, n6⟩ := K44 w.params
  obtain ⟨nm, q, bs, sn, sub, col, dd, k0, k1, k2, k3, k5, hC45⟩ := K45 w.params
  obtain ⟨pm, c, ct, hK, hC⟩ := K35 w.params
  refine hGx ?_
  clear hGx Gx
  refine wpAny_call_obj_init PySem.F.objNew (S.K _ _ hC45) (mN := nsFind es) ⟨on, es, nn, S.K _ _ K44a, K44b, strKeysB_ok K44c, fun _ => rfl⟩ n1 (S.K _ _ hK) rfl fun h₁ x dx Mk => wpAny_call ?_
  have S₁ := S.stay (keeps_stay Mk.keeps)
  refine codeAny_call_def hroom (S₁.K _ _ hK) rfl S₁.nl (codeRec_of S₁.K hC) rfl (BindsTo.of_eq (binds := [(("self" : Str), .ref x), (("comp_select_list" : Str), .ref l)]) rfl) (show ∀ x ∈ dInit.scope.names, x.2 ≠ .cell by decide +kernel)
    (by intro y hy; simp only [List.mem_cons, List.not_mem_nil, or_false] at hy; rcases hy with rfl | rfl <;> rfl) ?_ rfl rfl rfl
  intro h₂ hn k₂
  have hL0 : h₀.get? h₁.objs.size = none := Heap.get?_none_of_le Mk.grows
  show wpAny _ _ (execs dInit.body (envI h₁.objs.size c)) _ _ _
  dsimp only at *
  have kk : ∀ b o, h₀.get? b = some o → h₂.get? b = some o := fun b o e => k₂ _ _ (Mk.keeps _ _ e)
  have S₂ := S.stay (keeps_stay kk)
  generalize A.under _ = A₁
  generalize hA : Around.deeper _ _ = A'
  clear hA
  have I₂ := Mk.inst.keeps k₂
  have hnx := Mk.newX
  have hnd := Mk.newD
  refine hid fun Gx hGx => ?_
  obtain ⟨ox, ex, cx, ncx, _⟩ := id Mk.inst
  refine hGx ?_
  clear hGx Gx
  have hdx := Mk.dict ox ex
  have ex₂ := k₂ _ _ ex
  refine letQ ?_
  intro Qx Ex
  refine wpAny_execs_cons <| plainObj_wpAny_Assign_Attribute (ldL hn (by rfl) <| ldL hn (by rfl) ?_) rfl
  refine store_attr PySem.F.store_object (S₂.K _ _ hC45) (mN := nsFind es) ⟨on, es, nn, S₂.K _ _ K44a, K44b, strKeysB_ok K44c, fun _ => rfl⟩ n3 n4 (by rw [typeLookup_type, builtinLookup_eq_fast]; kernel_rfl) ?_ I₂ (fun h₃ tk₃ I₃ k₃ hsame => ?_)
  · rintro rfl
    have := S.K _ _ hC45
    rw [hnx] at this; cases this
  refine wpAny_execs_nil ⟨rfl, ?_⟩
  have k3 : ∀ b o, h₀.get? b = some o → h₃.get? b = some o := fun b o e => k₃ b o (fun q => by rw [q, hnx] at e; cases e) (fun o₀ d e₀ ed q => by
    rw [ex₂] at e₀; cases e₀
    rw [hdx] at ed; cases ed
    rw [q, hnd] at e; cases e) (kk b o e)
  refine hid fun Gx hGx => ?_
  obtain ⟨o₁, e₁, c₁, dt₁, _, dk₁⟩ := hsame ox ex₂
  obtain ⟨o', e', c', nc', hd'⟩ := I₃
  refine hGx ?_
  clear hGx Gx
  obtain rfl := Option.some.inj (e₁.symm.trans e')
  rcases hd' with ⟨hn0, _⟩ | ⟨d', hd', hne', hns'⟩
  · rw [dk₁ dx hdx] at hn0; cases hn0
  · obtain rfl := Option.some.inj ((dk₁ dx hdx).symm.trans hd')
    exact h x dx _ _ (.of_keeps k3) hnx hnd ⟨⟨_, e', c', nc', hd'⟩, hns', hne', vs, PlainList.stay (keeps_stay k3) hpl, hts.stay (keeps_stay k3)⟩
end
end Mine
end

section
set_option maxHeartbeats 1000000
namespace Mine
open PySem PySem.W PyProof.Rows PySem.Calls

theorem K91 (P : Params) : ∃ pm c ct, (KF P).lookup 91 = some (fnObj (fnAny "_law_merge" "_law_merge" dMrg.params (.stmts dMrg.body) dMrg.scope [] .none .none pm (.ref c) ct)) ∧ codeIn (KF P) (.ref c) "_law_merge" = true := ⟨_, _, _, rfl, by kernel_rfl⟩

noncomputable def mrgIn (x : List Int) (xs : List (List Int)) (f : List (List Int) → List (List Int)) : List (List Int) → List (List Int)
  | [] => x :: xs
  | y :: ys => if cmpS x y selL ≤ 0 then x :: f (y :: ys) else y :: mrgIn x xs f ys
noncomputable def mrg : List (List Int) → List (List Int) → List (List Int)
  | [] => fun ys => ys
  | x :: xs => mrgIn x xs (mrg xs)
theorem mrg_nil (ys : List (List Int)) : mrg [] ys = ys := rfl
theorem mrg_one (x : List Int) (xs : List (List Int)) : mrg (x :: xs) [] = x :: xs := rfl
theorem mrg_end : ∀ xs : List (List Int), mrg xs [] = xs
  | [] => rfl
  | _ :: _ => rfl
theorem mrg_cons (x : List Int) (xs : List (List Int)) (y : List Int) (ys : List (List Int)) : mrg (x :: xs) (y :: ys) = if cmpS x y selL ≤ 0 then x :: mrg xs (y :: ys) else y :: mrg (x :: xs) ys := rfl

structure LT (h : Heap) (a : Addr) (xs : List (List Int)) : Prop where
  ex : ∃ vs : List Value, h.PlainList a vs.toArray ∧ TupsAre h vs xs
theorem LT.stay {h h' : Heap} (k : Stay h h') {a : Addr} {xs : List (List Int)} (X : LT h a xs) : LT h' a xs := (by obtain ⟨vs, p, t⟩ := X.ex; exact ⟨vs, PlainList.stay k p, t.stay k⟩)
theorem LT.indep {h h' : Heap} {b a : Addr} (I : Indep h b) (k : But b h h') (hne : a ≠ b) {xs : List (List Int)} (X : LT h a xs) : LT h' a xs := (by obtain ⟨vs, ⟨n, p⟩, t⟩ := X.ex; exact ⟨vs, ⟨n, k _ _ hne p⟩, t.indep I k⟩)
theorem LT.ne {h : Heap} {L a : Addr} {m : Str → Option Value} {xs : List (List Int)} (X : LT h a xs) (hn : h.Ns L m) : a ≠ L := (by obtain ⟨_, p, _⟩ := X.ex; exact list_ne hn p.isList)

structure MSt (h₀ : Heap) (L M x d l : Addr) (acc xs ys : List (List Int)) (m : Str → Option Value) (h : Heap) : Prop where
  F : Fm h₀ L m h
  tc : TC h x d l
  mo : m "order" = some (.ref x)
  mm : m "merged" = some (.ref M)
  m1 : ∃ a, m "one" = some (.ref a) ∧ a ≠ M ∧ LT h a xs
  m2 : ∃ b, m "two" = some (.ref b) ∧ b ≠ M ∧ LT h b ys
  ac : LT h M acc
  M0 : h₀.get? M = none
  xL : x ≠ L
  dL : d ≠ L
  lL : l ≠ L
  xM : x ≠ M
  dM : d ≠ M
  lM : l ≠ M
section
variable {h₀ h h' : Heap} {L M x d l : Addr} {acc xs ys : List (List Int)} {m m' : Str → Option Value}
theorem MSt.nsI (X : MSt h₀ L M x d l acc xs ys m h) : Indep h L := .ns X.F.ns X.mo
theorem MSt.step (X : MSt h₀ L M x d l acc xs ys m h) (e : Ev h h') : MSt h₀ L M x d l acc xs ys m h' :=
  { X with F := X.F.step e, tc := X.tc.stay e.keep, m1 := (by obtain ⟨a, p, q, r⟩ := X.m1; exact ⟨a, p, q, r.stay e.keep⟩), m2 := (by obtain ⟨a, p, q, r⟩ := X.m2; exact ⟨a, p, q, r.stay e.keep⟩), ac := X.ac.stay e.keep }
theorem MSt.app {v : Value} {n : List Int} {vs : List Value} (X : MSt h₀ L M x d l acc xs ys m h) (hp : h.PlainList M vs.toArray) (ht : TupsAre h vs acc) (hv : IntTup h v n) (hp' : h'.PlainList M (vs.toArray.push v)) (k : But M h h') : MSt h₀ L M x d l (acc ++ [n]) xs ys m h' := by
  have I : Indep h M := .list hp.isList
  have nL : L ≠ M := (list_ne X.F.ns hp.isList).symm
  refine { X with F := ⟨X.F.ev.indep I X.M0 k, X.F.ns.at' fun o e => k _ _ nL e, X.F.L0⟩, tc := X.tc.but I k X.xM X.dM X.lM, m1 := (by obtain ⟨a, p, q, r⟩ := X.m1; exact ⟨a, p, q, r.indep I k q⟩), m2 := (by obtain ⟨a, p, q, r⟩ := X.m2; exact ⟨a, p, q, r.indep I k q⟩), ac := ⟨vs ++ [v], ?_, ?_⟩ }
  · rw [← List.push_toArray]; exact hp'
  · exact (ht.indep I k).append (.cons (hv.indep I k) .nil)
theorem MSt.one {a : Addr} {xs' : List (List Int)} (X : MSt h₀ L M x d l acc xs ys m h) (k : But L h h') (ha : LT h a xs') (haM : a ≠ M) (hn : h'.Ns L fun y => if y = "one" then some (.ref a) else m y) : MSt h₀ L M x d l acc xs' ys (fun y => if y = "one" then some (.ref a) else m y) h' :=
  { X with F := X.F.store k hn, tc := X.tc.but X.nsI k X.xL X.dL X.lL, mo := X.mo, mm := X.mm, m1 := ⟨a, by rfl, haM, ha.indep X.nsI k (ha.ne X.F.ns)⟩, m2 := (by obtain ⟨a, p, q, r⟩ := X.m2; exact ⟨a, p, q, r.indep X.nsI k (r.ne X.F.ns)⟩), ac := X.ac.indep X.nsI k (X.ac.ne X.F.ns) }
theorem MSt.two {a : Addr} {ys' : List (List Int)} (X : MSt h₀ L M x d l acc xs ys m h) (k : But L h h') (ha : LT h a ys') (haM : a ≠ M) (hn : h'.Ns L fun y => if y = "two" then some (.ref a) else m y) : MSt h₀ L M x d l acc xs ys' (fun y => if y = "two" then some (.ref a) else m y) h' :=
  { X with F := X.F.store k hn, tc := X.tc.but X.nsI k X.xL X.dL X.lL, mo := X.mo, mm := X.mm, m2 := ⟨a, by rfl, haM, ha.indep X.nsI k (ha.ne X.F.ns)⟩, m1 := (by obtain ⟨a, p, q, r⟩ := X.m1; exact ⟨a, p, q, r.indep X.nsI k (r.ne X.F.ns)⟩), ac := X.ac.indep X.nsI k (X.ac.ne X.F.ns) }
end

section
variable {prog : Program} {w : World} {A : Around} {s : Shared} {R : Result → Shared → Prop} {mg mb : Str → Option Value}
noncomputable abbrev envM (L c : Addr) : Env := newEnv dMrg.scope L mainGlobals [] (("_law_merge" : Str) ++ ".<locals>.") (some 91) (.ref c) none builtinsNs

/- one[0] -/
theorem ev_item0 {E : Value → Shared → Prop} {env : Env} {y : Str} {p1 p2 p3 : Pos} {kd : Nat} {m : Str → Option Value} {a : Addr} {n : List Int} {xs : List (List Int)} {Q : Value → Shared → Prop}
    (hn : s.heap.Ns env.locals m) (hx : m y = some (.ref a)) (X : LT s.heap a (n :: xs)) (h : ∀ v tk, IntTup s.heap v n → Q v { s with toks := tk })
    (h1 : env.scope.kind = .function := by rfl) (h2 : env.kindOf y = some .local := by rfl) (h3 : (y == ("__debug__" : Str)) = false := by decide +kernel) :
    wpAny (model prog w) A (eval (.Subscript (.Name y p1) (.Constant (.int 0) kd p2) p3) env) Q E s := by
  obtain ⟨vs, hp, ht⟩ := X.ex
  cases ht with
  | cons hv ht =>
    rename_i v vs
    exact Subscript_ (ldL hn hx (wpAny_Constant_int (tail_any hp.isList.typeIs slot_list_getitem.lookup (wpAny_getItem_list (x := v) hp.isList (by lia) (by lia) (by rfl) (h v _ hv)) (by with_unfolding_all rfl))) h1 h2 h3)

/- one[1:] -/
theorem ev_tail {E : Value → Shared → Prop} {env : Env} {y : Str} {p1 p2 p3 p4 : Pos} {kd : Nat} {m : Str → Option Value} {a : Addr} {n : List Int} {xs : List (List Int)} {Q : Value → Shared → Prop}
    (hn : s.heap.Ns env.locals m) (hx : m y = some (.ref a)) (X : LT s.heap a (n :: xs)) (hb : xs.length ≤ 60) (h : ∀ b h' tk, (∀ c o, s.heap.get? c = some o → h'.get? c = some o) → s.heap.get? b = none → LT h' b xs → Q (.ref b) { s with heap := h', toks := tk })
    (h1 : env.scope.kind = .function := by rfl) (h2 : env.kindOf y = some .local := by rfl) (h3 : (y == ("__debug__" : Str)) = false := by decide +kernel) :
    wpAny (model prog w) A (eval (.Subscript (.Name y p1) (.Slice (some (.Constant (.int 1) kd p2)) none none p3) p4) env) Q E s := by
  obtain ⟨vs, hp, ht⟩ := X.ex
  cases ht with
  | cons hv ht =>
    rename_i v vs
    have hl := ht.length
    refine wpAny_Subscript_list_slice (ldL hn hx (wpAny_evalPart_some (wpAny_Constant_int (wpAny_evalPart_none ⟨a, _, some ((1 : Nat) : Int), none, rfl, hp.isList, ?_, .int _ _, .none, ?_⟩))) h1 h2 h3)
    · rw [List.size_toArray, List.length_cons, hl, sizeLine_eq]; lia
    · rw [slicePick_from']
      have k : ∀ c o, s.heap.get? c = some o → ((s.heap.push { cls := .type "slice", data := .fields #[.int ((1 : Nat) : Int) s.toks, .none, .none] }).push { cls := .type "list", data := .seq (List.drop 1 (v :: vs).toArray.toList).toArray }).get? c = some o := fun c o e => Heap.get?_push_of_some _ (Heap.get?_push_of_some _ e)
      refine h _ _ _ k (Heap.get?_none_of_le (Nat.le_succ _)) ⟨vs, ⟨0, ?_⟩, ht.stay (keeps_stay k)⟩
      rw [← Heap.size_push (h := s.heap)]
      exact Heap.get?_push_size _ rfl
end
end Mine
end

section
set_option maxHeartbeats 1000000
namespace Mine
open PySem PySem.W PyProof.Rows PySem.Calls
section
variable {prog : Program} {w : World} {A : Around} {s : Shared} {R : Result → Shared → Prop} {mg mb : Str → Option Value}

noncomputable def F4 (xs : List (List Int)) : Prop := ∀ x ∈ xs, x.length = 4
theorem LT.truthy {E : Value → Shared → Prop} {a : Addr} {xs : List (List Int)} {Q : Bool → Shared → Prop} (X : LT s.heap a xs) (hb : xs.length ≤ 60) (h : ∀ tk, Q (!xs.isEmpty) { s with toks := tk }) : wpAny (model prog w) A (truthy (.ref a)) Q E s := by
  obtain ⟨vs, hp, ht⟩ := X.ex
  have hl := ht.length
  refine wpAny_truthy_list hp.isList (by rw [List.size_toArray, hl]; lia) ?_
  have e : (!vs.toArray.isEmpty) = !xs.isEmpty := by cases ht <;> rfl
  rw [e]; exact h _

theorem mrg_loop {L M x d l c : Addr} {h₀ : Heap} {g : Array GenState} {dr : Drawn} {os : OsState} {test : PySem.Expr} {body : List Stmt} {pos : Pos} {res : List (List Int)} {N : Nat}
    (hst : stAt dMrg.body 2 = .While test body [] pos) (S : Stat w mg mb h₀) (hroom : A.depth < recursionLimit) (hh : A.handled = none) (hN : N ≤ 60)
    (hR : ∀ h tk m acc xs ys, MSt h₀ L M x d l acc xs ys m h → acc ++ xs ++ ys = res → acc.length + xs.length + ys.length ≤ N → R (.ok .next) ⟨h, g, dr, tk, os⟩)
    {acc xs ys : List (List Int)} {m : Str → Option Value} {h : Heap} {tk : Nat} (X : MSt h₀ L M x d l acc xs ys m h) (fx : F4 xs) (fy : F4 ys) (hb : acc.length + xs.length + ys.length ≤ N) (hr : acc ++ mrg xs ys = res) :
    codeAny (model prog w) A (.whileLoop test body [] (envM L c)) R ⟨h, g, dr, tk, os⟩ := by
  have e : Stmt.While test body [] pos = stAt dMrg.body 2 := hst.symm
  refine codeAny_whileLoop (fun k s => ∃ acc xs ys m h tk, s = ⟨h, g, dr, tk, os⟩ ∧ MSt h₀ L M x d l acc xs ys m h ∧ F4 xs ∧ F4 ys ∧ acc.length + xs.length + ys.length ≤ N ∧ acc ++ mrg xs ys = res ∧ k = xs.length + ys.length) ?_ (xs.length + ys.length) ⟨acc, xs, ys, m, h, tk, rfl, X, fx, fy, hb, hr, rfl⟩
  clear hr X fx fy hb
  rintro k s invX
  refine hid fun Gx hGx => ?_
  obtain ⟨acc, xs, ys, m, h, tk, rfl, X, fx, fy, hb, hr, rfl⟩ := invX
  refine hGx ?_
  clear hGx Gx
  cases e
  clear hst
  refine hid fun Gx hGx => ?_
  obtain ⟨a, ma, haM, Xa⟩ := id X.m1
  obtain ⟨b, mb', hbM, Xb⟩ := id X.m2
  refine hGx ?_
  clear hGx Gx
  refine wpAny_isTrue_BoolOp <| wpAny_allTrue_And_cons <| wpAny_isTrue_value <| ldL X.F.ns ma <| Xa.truthy (by lia) fun tk => ?_
  cases xs with
  | nil =>
    simp only [List.isEmpty_nil, Bool.not_true, Bool.false_eq_true, if_false]
    refine wpAny_execs_nil (hR _ _ _ _ _ _ X ?_ hb)
    rw [← hr]; rw [mrg_nil]; rw [List.append_nil]
  | cons n xs =>
  simp only [List.isEmpty_cons, Bool.not_false, if_true]
  refine wpAny_allTrue_And_cons <| wpAny_isTrue_value <| ldL X.F.ns mb' <| Xb.truthy (by simp only [List.length_cons] at hb; lia) fun tk => ?_
  cases ys with
  | nil =>
    simp only [List.isEmpty_nil, Bool.not_true, Bool.false_eq_true, if_false]
    refine wpAny_execs_nil (hR _ _ _ _ _ _ X ?_ hb)
    rw [← hr]; rw [mrg_one]; rw [List.append_nil]
  | cons n' ys =>
  simp only [List.isEmpty_cons, Bool.not_false, if_true]
  refine wpAny_allTrue_And_nil ?_
  simp only [if_true]
  have S₁ := S.stay X.F.ev.keep
  refine hid fun Gx hGx => ?_
  obtain ⟨on, es, nn, K44a, K44b, K44c, _, n2, _, n4, n5, n6⟩ := K44 w.params
  obtain ⟨nm, q, bs, sn, sub, col, dd, k0, k1, k2, k3, k5, hC45⟩ := K45 w.params
  obtain ⟨pm, cc, ct, hK, hC⟩ := K42 w.params
  obtain ⟨mA, _, _, I, _, hl2, _, _⟩ := id X.tc.is
  refine hGx ?_
  clear hGx Gx
  refine letQ ?_
  intro Qx Ex
  refine wpAny_execs_cons <| wpAny_If <| wpAny_isTrue_Compare1 <| MethodCall_ (ldL X.F.ns X.mo <| method_of (y := none) (S₁.K _ _ hC45) (mN := nsFind es) ⟨on, es, nn, S₁.K _ _ K44a, K44b, strKeysB_ok K44c, fun _ => rfl⟩ n5 n6 n2 (S₁.K _ _ hK) rfl (by rw [typeLookup_type, builtinLookup_eq_fast]; kernel_rfl) I hl2 ?_)
  refine callWith_meth (o := fnObj (fnAny "compare" "TupleComp.compare" dCmp.params (.stmts dCmp.body) dCmp.scope [] .none .none pm (.ref cc) ct)) (h₀ := h) rfl (S₁.K _ _ hK) <|
    wpAny_items_cons <| ev_item0 X.F.ns ma Xa fun v1 tk1 hv1 => wpAny_items_cons <| ev_item0 X.F.ns mb' Xb fun v2 tk2 hv2 => wpAny_items_nil ⟨fun _ _ e => e, wpAny_call ?_⟩
  refine cmp_ct S₁ X.tc.is hv1 hv2 (fx _ (.head _)) (fy _ (.head _)) hroom hh fun t h₁ tk₁ e₁ => ?_
  dsimp only at e₁ ⊢
  have X₁ := X.step e₁
  refine hid fun Gx hGx => ?_
  obtain ⟨a, ma, haM, Xa⟩ := id X₁.m1
  obtain ⟨b, mb', hbM, Xb⟩ := id X₁.m2
  obtain ⟨vs, hp, ht⟩ := X₁.ac.ex
  refine hGx ?_
  clear hGx Gx
  have hvl := ht.length
  simp only [List.length_cons] at hb
  have hsz : vs.toArray.size ≤ sizeLine := by rw [List.size_toArray, hvl, sizeLine_eq]; lia
  obtain ⟨nn', ho⟩ := id hp
  refine wpAny_Constant_int <| le_int <| wpAny_truthy_bool ?_
  rw [mrg_cons] at hr
  by_cases hc : cmpS n n' selL ≤ 0
  · rw [decide_eq_true hc]
    rw [if_pos hc] at hr
    simp only [if_true]
    refine letQ ?_
    intro Qx Ex
    refine wpAny_execs_cons <| wpAny_Expr <| MethodCall_ <| ldL X₁.F.ns X₁.mm <| getMethod_list_append ho rfl rfl <| callWith_method1 <| wpAny_items_cons <| ev_item0 X₁.F.ns ma Xa fun v tk hv => wpAny_items_nil ?_
    refine wpAny_list_append_plain (items := vs.toArray) hp (fun h₂ hp₂ hs₂ => ?_) hsz
    dsimp only at hs₂ ⊢
    have X₂ := X₁.app hp ht hv hp₂ (fun b o hb e => (hs₂.2 b hb).trans e)
    refine hid fun Gx hGx => ?_
    obtain ⟨a, ma, haM, Xa⟩ := id X₂.m1
    refine hGx ?_
    clear hGx Gx
    refine wpAny_execs_cons <| wpAny_Assign_Name <| ev_tail X₂.F.ns ma Xa (by lia) fun a' h₃ tk₃ k₃ ha' hLT => ?_
    dsimp only at k₃ ha' ⊢
    have X₃ := X₂.step (.of_keeps k₃)
    have haM' : a' ≠ M := fun q => by
      refine hid fun Gx hGx => ?_
      obtain ⟨vs, ⟨n, hp⟩, _⟩ := X₂.ac.ex
      refine hGx ?_
      clear hGx Gx
      rw [q, hp] at ha'; cases ha'
    refine wpAny_storeName_local rfl X₃.F.ns (fun h₄ hn₄ hs₄ => ?_) rfl
    dsimp only at hs₄ ⊢
    refine wpAny_execs_nil <| wpAny_execs_nil ⟨xs.length + (n' :: ys).length, by simp only [List.length_cons]; lia, _, xs, n' :: ys, _, _, _, rfl, X₃.one (fun b o hb e => (hs₄.2 b hb).trans e) hLT haM' hn₄, fun x hx => fx x (.tail _ hx), fy, ?_, ?_, rfl⟩
    · simp only [List.length_append, List.length_cons, List.length_nil]; lia
    · rw [← hr, List.append_assoc]; rfl
  · rw [decide_eq_false hc]
    rw [if_neg hc] at hr
    simp only [Bool.false_eq_true, if_false]
    refine letQ ?_
    intro Qx Ex
    refine wpAny_execs_cons <| wpAny_Expr <| MethodCall_ <| ldL X₁.F.ns X₁.mm <| getMethod_list_append ho rfl rfl <| callWith_method1 <| wpAny_items_cons <| ev_item0 X₁.F.ns mb' Xb fun v tk hv => wpAny_items_nil ?_
    refine wpAny_list_append_plain (items := vs.toArray) hp (fun h₂ hp₂ hs₂ => ?_) hsz
    dsimp only at hs₂ ⊢
    have X₂ := X₁.app hp ht hv hp₂ (fun b o hb e => (hs₂.2 b hb).trans e)
    refine hid fun Gx hGx => ?_
    obtain ⟨b, mb', hbM, Xb⟩ := id X₂.m2
    refine hGx ?_
    clear hGx Gx
    refine wpAny_execs_cons <| wpAny_Assign_Name <| ev_tail X₂.F.ns mb' Xb (by lia) fun a' h₃ tk₃ k₃ ha' hLT => ?_
    dsimp only at k₃ ha' ⊢
    have X₃ := X₂.step (.of_keeps k₃)
    have haM' : a' ≠ M := fun q => by
      refine hid fun Gx hGx => ?_
      obtain ⟨vs, ⟨n, hp⟩, _⟩ := X₂.ac.ex
      refine hGx ?_
      clear hGx Gx
      rw [q, hp] at ha'; cases ha'
    refine wpAny_storeName_local rfl X₃.F.ns (fun h₄ hn₄ hs₄ => ?_) rfl
    dsimp only at hs₄ ⊢
    refine wpAny_execs_nil <| wpAny_execs_nil ⟨(n :: xs).length + ys.length, by simp only [List.length_cons]; lia, _, n :: xs, ys, _, _, _, rfl, X₃.two (fun b o hb e => (hs₄.2 b hb).trans e) hLT haM' hn₄, fx, fun x hx => fy x (.tail _ hx), ?_, ?_, rfl⟩
    · simp only [List.length_append, List.length_cons, List.length_nil]; lia
    · rw [← hr, List.append_assoc]; rfl
end
end Mine
end

section
set_option maxHeartbeats 1000000
namespace Mine
open PySem PySem.W PyProof.Rows PySem.Calls
section
variable {prog : Program} {w : World} {A : Around} {s : Shared} {R : Result → Shared → Prop} {mg mb : Str → Option Value}

theorem mrg_ct {a b : Addr} {xs ys : List (List Int)} (S : Stat w mg mb s.heap) (Xa : LT s.heap a xs) (Xb : LT s.heap b ys) (fx : F4 xs) (fy : F4 ys) (hb : xs.length + ys.length ≤ 60) (hroom : A.depth + 2 < recursionLimit) (hh : A.handled = none)
    (h : ∀ r h' tk, Ev s.heap h' → LT h' r (mrg xs ys) → R (.ok (.ret (.ref r))) { s with heap := h', toks := tk }) :
    codeAny (model prog w) A (.call (.ref 91) ⟨[.ref a, .ref b], []⟩) R s := by
  refine hid fun Gx hGx => ?_
  obtain ⟨h₀, g, dr, tk, os⟩ := s
  refine hGx ?_
  clear hGx Gx
  dsimp only at *
  refine hid fun Gx hGx => ?_
  obtain ⟨pm, c, ct, hK, hC⟩ := K91 w.params
  refine hGx ?_
  clear hGx Gx
  refine codeAny_call_def (Nat.lt_of_succ_lt (Nat.lt_of_succ_lt hroom)) (S.K _ _ hK) rfl S.nl (codeRec_of S.K hC) rfl (BindsTo.of_eq (binds := [(("one" : Str), .ref a), (("two" : Str), .ref b)]) rfl) (show ∀ x ∈ dMrg.scope.names, x.2 ≠ .cell by decide +kernel)
    (by intro y hy; simp only [List.mem_cons, List.not_mem_nil, or_false] at hy; rcases hy with rfl | rfl <;> rfl) ?_ rfl rfl rfl
  intro h₁ hn k₁
  have hL0 : h₀.get? h₀.objs.size = none := Heap.get?_none_of_le (Nat.le_refl _)
  show wpAny _ (A.deeper (envM h₀.objs.size c)) (execs dMrg.body (envM h₀.objs.size c)) _ _ _
  dsimp only at *
  have F : Fm h₀ h₀.objs.size _ h₁ := ⟨.of_keeps k₁, hn, hL0⟩
  clear hn k₁
  generalize h₀.objs.size = L at *
  generalize hA : A.deeper (envM L c) = A'
  have hh' : A'.handled = none := by rw [← hA]; exact hh
  have hroom' : A'.depth + 1 < recursionLimit := by rw [← hA]; exact hroom
  clear hA
  have S₁ := S.stay F.ev.keep
  refine hid fun Gx hGx => ?_
  obtain ⟨on, es, nn, K44a, K44b, K44c, _, n2, _, n4, n5, n6⟩ := K44 w.params
  refine hGx ?_
  clear hGx Gx
  have CA : ClsAt h₁ 45 44 (nsFind es) := ⟨by
    refine hid fun Gx hGx => ?_
    obtain ⟨nm, q, bs, sn, sub, col, dd, k0, k1, k2, k3, k5, hC45⟩ := K45 w.params
    refine hGx ?_
    clear hGx Gx
    exact ⟨nm, q, bs, sn, sub, col, dd, k0, k1, k2, k3, k5, S₁.K _ _ hC45⟩, on, es, nn, S₁.K _ _ K44a, K44b, strKeysB_ok K44c, fun _ => rfl⟩
  refine letQ ?_
  intro Qx Ex
  refine wpAny_execs_cons <| wpAny_Assign_Name <| Call_ <| ldG S₁.g (g_TC S₁) <| callWith_cls CA <| wpAny_items_cons <| wpAny_List <|
    wpAny_items_cons <| wpAny_Tuple <| wpAny_items_cons <| wpAny_Constant_int <| wpAny_items_cons <| wpAny_UnaryOp <| wpAny_Constant_int <| PySem.P.neg_int <| wpAny_items_nil ⟨szl, ?_⟩
  refine wpAny_items_cons <| wpAny_Tuple <| wpAny_items_cons <| wpAny_Constant_int <| wpAny_items_cons <| wpAny_UnaryOp <| wpAny_Constant_int <| PySem.P.neg_int <| wpAny_items_nil ⟨szl, ?_⟩
  refine wpAny_items_cons <| wpAny_Tuple <| wpAny_items_cons <| wpAny_Constant_int <| wpAny_items_cons <| wpAny_Constant_int <| wpAny_items_nil ⟨szl, wpAny_items_nil ⟨szl, wpAny_items_nil ?_⟩⟩
  dsimp only
  generalize e1 : h₁.push _ = ha
  have k1 : ∀ b o, h₁.get? b = some o → ha.get? b = some o := by intro b o e; rw [← e1]; exact Heap.get?_push_of_some _ e
  have t1 : IntTup ha (.ref h₁.objs.size) [0, -1] := by rw [← e1]; exact ⟨_, _, _, rfl, Heap.get?_push_size _ rfl, .cons _ _ (.cons _ _ .nil)⟩
  clear e1
  generalize e2 : ha.push _ = hb'
  have k2 : ∀ b o, ha.get? b = some o → hb'.get? b = some o := by intro b o e; rw [← e2]; exact Heap.get?_push_of_some _ e
  have t2 : IntTup hb' (.ref ha.objs.size) [1, -1] := by rw [← e2]; exact ⟨_, _, _, rfl, Heap.get?_push_size _ rfl, .cons _ _ (.cons _ _ .nil)⟩
  clear e2
  generalize e3 : hb'.push _ = hc
  have k3 : ∀ b o, hb'.get? b = some o → hc.get? b = some o := by intro b o e; rw [← e3]; exact Heap.get?_push_of_some _ e
  have t3 : IntTup hc (.ref hb'.objs.size) [2, 1] := by rw [← e3]; exact ⟨_, _, _, rfl, Heap.get?_push_size _ rfl, .cons _ _ (.cons _ _ .nil)⟩
  clear e3
  have kc : ∀ b o, h₁.get? b = some o → hc.get? b = some o := fun b o e => k3 _ _ (k2 _ _ (k1 _ _ e))
  have ts : TupsAre hc [.ref h₁.objs.size, .ref ha.objs.size, .ref hb'.objs.size] selL := .cons (t1.stay (keeps_stay fun b o e => k3 _ _ (k2 _ _ e))) (.cons (t2.stay (keeps_stay k3)) (.cons t3 .nil))
  have Fc := F.keeps kc
  generalize hvs : [Value.ref h₁.objs.size, Value.ref ha.objs.size, Value.ref hb'.objs.size] = vs at *
  clear hvs k1 k2 k3 t1 t2 t3 F S₁ CA
  have kd : ∀ b o, hc.get? b = some o → (hc.push { cls := .type "list", data := .seq vs.toArray }).get? b = some o := fun b o e => Heap.get?_push_of_some _ e
  have pl : (hc.push { cls := .type "list", data := .seq vs.toArray }).PlainList hc.objs.size vs.toArray := ⟨0, Heap.get?_push_size _ rfl⟩
  refine ⟨fun b o e => kd b o (kc b o e), ?_⟩
  have Fd := Fc.keeps kd
  have td := ts.stay (keeps_stay kd)
  generalize hc.push { cls := .type "list", data := .seq vs.toArray } = hd at *
  generalize hc.objs.size = l at *
  clear kc kd Fc ts
  refine make_tc (s := ⟨hd, _, _, _, _⟩) (S.stay Fd.ev.keep) hroom' pl td fun x d h₂ tk₂ e₂ hx hd' tc => ?_
  dsimp only at e₂ hx hd' ⊢
  have F₂ := Fd.step e₂
  have hLd : ∃ oL, hd.get? L = some oL := (by obtain ⟨o, _, _, e, _⟩ := Fd.ns; exact ⟨o, e⟩)
  have xL : x ≠ L := fun q => by obtain ⟨oL, e⟩ := hLd; rw [q, e] at hx; cases hx
  have dL : d ≠ L := fun q => by obtain ⟨oL, e⟩ := hLd; rw [q, e] at hd'; cases hd'
  have lL : l ≠ L := list_ne Fd.ns pl.isList
  clear hx hd' e₂ Fd pl td hLd
  refine wpAny_storeName_local rfl F₂.ns (fun h₃ hn₃ hs₃ => ?_) rfl
  dsimp only at hs₃ ⊢
  have k₃ : But L h₂ h₃ := fun b o hb e => (hs₃.2 b hb).trans e
  have F₃ := F₂.store k₃ hn₃
  have tc₃ := tc.but (.ns F₂.ns (y := "one") (u := .ref a) (by rfl)) k₃ xL dL lL
  clear tc k₃ hs₃ hn₃ F₂
  refine wpAny_execs_cons <| wpAny_Assign_Name <| wpAny_List <| wpAny_items_nil ⟨szl, ?_⟩
  dsimp only
  have k₄ : ∀ b o, h₃.get? b = some o → (h₃.push { cls := .type "list", data := .seq [].toArray }).get? b = some o := fun b o e => Heap.get?_push_of_some _ e
  have hM0 : h₀.get? h₃.objs.size = none := F₃.ev.fresh (Nat.le_refl _)
  have hM3 : h₃.get? h₃.objs.size = none := Heap.get?_none_of_le (Nat.le_refl _)
  have pl₄ : LT (h₃.push { cls := .type "list", data := .seq [].toArray }) h₃.objs.size [] := ⟨[], ⟨0, Heap.get?_push_size _ rfl⟩, .nil⟩
  have xM : x ≠ h₃.objs.size := fun q => by obtain ⟨o, e, _⟩ := tc₃.obj; rw [q, hM3] at e; cases e
  have dM : d ≠ h₃.objs.size := fun q => by obtain ⟨o, _, _, e, _⟩ := tc₃.ns; rw [q, hM3] at e; cases e
  have lM : l ≠ h₃.objs.size := fun q => by obtain ⟨_, ⟨_, e⟩, _⟩ := tc₃.list; rw [q, hM3] at e; cases e
  have aM : a ≠ h₃.objs.size := fun q => by obtain ⟨_, ⟨_, e⟩, _⟩ := (Xa.stay F₃.ev.keep).ex; rw [q, hM3] at e; cases e
  have bM : b ≠ h₃.objs.size := fun q => by obtain ⟨_, ⟨_, e⟩, _⟩ := (Xb.stay F₃.ev.keep).ex; rw [q, hM3] at e; cases e
  have F₄ := F₃.keeps k₄
  have tc₄ := tc₃.stay (keeps_stay k₄)
  generalize h₃.push { cls := .type "list", data := .seq [].toArray } = h₄ at *
  generalize h₃.objs.size = M at *
  clear k₄ tc₃ F₃ hM3
  refine wpAny_storeName_local rfl F₄.ns (fun h₅ hn₅ hs₅ => ?_) rfl
  dsimp only at hs₅ ⊢
  have k₅ : But L h₄ h₅ := fun b o hb e => (hs₅.2 b hb).trans e
  have iL : Indep h₄ L := .ns F₄.ns (y := "one") (u := .ref a) (by rfl)
  have F₅ := F₄.store k₅ hn₅
  have X₅ : MSt h₀ L M x d l [] xs ys _ h₅ :=
    { F := F₅, tc := tc₄.but iL k₅ xL dL lL, mo := by rfl, mm := by rfl, m1 := ⟨a, by rfl, aM, Xa.stay F₅.ev.keep⟩, m2 := ⟨b, by rfl, bM, Xb.stay F₅.ev.keep⟩, ac := pl₄.indep iL k₅ (pl₄.ne F₄.ns), M0 := hM0, xL, dL, lL, xM, dM, lM }
  refine wpAny_execs_cons (wpAny_While ?_)
  refine mrg_loop (res := mrg xs ys) (N := xs.length + ys.length) rfl S (Nat.lt_of_succ_lt hroom') hh' hb ?_ X₅ fx fy (by simp) rfl
  intro h₆ tk₆ m₆ acc xs' ys' X₆ hr hlen
  refine hid fun Gx hGx => ?_
  obtain ⟨a', ma, _, vs1, ⟨n1, p1⟩, t1⟩ := X₆.m1
  obtain ⟨b', mb', _, vs2, ⟨n2, p2⟩, t2⟩ := X₆.m2
  obtain ⟨vs3, ⟨n3, p3⟩, t3⟩ := X₆.ac
  refine hGx ?_
  clear hGx Gx
  have l1 := t1.length
  have l2 := t2.length
  have l3 := t3.length
  refine wpAny_execs_cons <| wpAny_Return_some <| wpAny_BinOp <| wpAny_BinOp <| ldL X₆.F.ns X₆.mm <| ldL X₆.F.ns ma <| PySem.P.add_list p3 p1 ?_ (by rw [List.size_toArray, List.size_toArray, sizeLine_eq]; lia)
  dsimp only
  have k₇ : ∀ b o, h₆.get? b = some o → (h₆.push { cls := .type "list", data := .seq (vs3.toArray ++ vs1.toArray) }).get? b = some o := fun b o e => Heap.get?_push_of_some _ e
  refine ldL (X₆.F.ns.keeps k₇) mb' <| PySem.P.add_list (n := 0) (n2 := n2) (Heap.get?_push_size _ rfl) (k₇ _ _ p2) ?_ (by rw [Array.size_append, List.size_toArray, List.size_toArray, List.size_toArray, sizeLine_eq]; lia)
  dsimp only
  have k₈ : ∀ b o, h₆.get? b = some o → ((h₆.push { cls := .type "list", data := .seq (vs3.toArray ++ vs1.toArray) }).push { cls := .type "list", data := .seq (vs3.toArray ++ vs1.toArray ++ vs2.toArray) }).get? b = some o := fun b o e => Heap.get?_push_of_some _ (k₇ _ _ e)
  refine h _ _ _ (X₆.F.ev.trans (.of_keeps k₈)) ⟨vs3 ++ vs1 ++ vs2, ⟨0, ?_⟩, ?_⟩
  · have e : (vs3 ++ vs1 ++ vs2).toArray = vs3.toArray ++ vs1.toArray ++ vs2.toArray := by simp
    rw [e]
    exact Heap.get?_push_size _ rfl
  · rw [← hr]
    exact ((t3.append t1).append t2).stay (keeps_stay k₈)
end
end Mine
end

section
set_option maxHeartbeats 1000000
namespace Mine
open PySem PySem.W PyProof.Rows PySem.Calls

/- an exact dict with its entries -/
noncomputable def RawD (h : Heap) (d : Addr) (es : Array DictEntry) (ep : Nat) : Prop := ∃ o, h.get? d = some o ∧ o.ExactDict ∧ o.data = .dict es ep
theorem RawD.typeIs {s : Shared} {d : Addr} {es : Array DictEntry} {ep : Nat} (x : RawD s.heap d es ep) : s.TypeIs (.ref d) "dict" := (by obtain ⟨o, e, c, _⟩ := x; exact ⟨o, e, c.1⟩)
theorem RawD.at {h h' : Heap} {d : Addr} {es : Array DictEntry} {ep : Nat} (x : RawD h d es ep) (k : ∀ o, h.get? d = some o → h'.get? d = some o) : RawD h' d es ep := (by obtain ⟨o, e, r⟩ := x; exact ⟨o, k _ e, r⟩)

/- an items iterator -/
noncomputable def itO (own : Value) (f : Bool) (d : Addr) (i n ep : Nat) (ok ov : Value) : Obj := { cls := .type "dict_itemiterator", dict := none, data := .fields #[own, .bool f, .ref d, .int i 0, .int n 0, .int ep 0, ok, ov], slots := #[] }

section
variable {prog : Program} {w : World} {A : Around} {E : Value → Shared → Prop} {s : Shared} {d it : Addr} {es : Array DictEntry} {ep i : Nat}

theorem raw_items {Q : Value → Shared → Prop} (hd : (d == sysModules) = false) (hm : RawD s.heap d es ep)
    (h : Q (.ref s.heap.objs.size) { s with heap := s.heap.push { cls := .type "dict_items", data := .fields #[.ref d] } }) :
    wpAny (model prog w) A (call (.builtin "dict.items") [.ref d]) Q E s := by
  refine wpAny_call_entry F.slot_dict_items hm.typeIs F.entry_dict_items ?_ (F.args_dict_items_1 _)
  unfold Builtin.«dict.items» Builtin.Dict.noArgs
  refine wpAny_bind (wpAny_bind (wpAny_notOrdered_dict hm.typeIs (wpAny_pure ?_)))
  unfold Builtin.Dict.showsAll
  rw [if_neg (by rw [hd]; exact Bool.false_ne_true)]
  exact wpAny_bind (wpAny_pure (wpAny_bind (wpAny_newObj_type (wpAny_pure ⟨_, rfl, h⟩))))
theorem raw_values {Q : Value → Shared → Prop} (hd : (d == sysModules) = false) (hm : RawD s.heap d es ep)
    (h : Q (.ref s.heap.objs.size) { s with heap := s.heap.push { cls := .type "dict_values", data := .fields #[.ref d] } }) :
    wpAny (model prog w) A (call (.builtin "dict.values") [.ref d]) Q E s := by
  refine wpAny_call_entry F.slot_dict_values hm.typeIs F.entry_dict_values ?_ (F.args_dict_values_1 _)
  refine wpAny_bind ?_
  unfold Builtin.Dict.noArgs
  refine wpAny_bind (wpAny_notOrdered_dict hm.typeIs (wpAny_pure ?_))
  show wpAny _ _ (Builtin.Dict.showsAll d >>= _) _ _ s
  unfold Builtin.Dict.showsAll
  rw [if_neg (by rw [hd]; exact Bool.false_ne_true)]
  exact wpAny_bind (wpAny_pure (wpAny_bind (wpAny_newObj_type (wpAny_pure ⟨_, rfl, h⟩))))
theorem raw_iter_items {v : Addr} {Q : Value → Shared → Prop} (hv : s.heap.IsItemsView v d) (hm : RawD s.heap d es ep)
    (hQ : Q (.ref s.heap.objs.size) { s with heap := s.heap.push (itO .none false d 0 es.size ep .none .none) }) :
    wpAny (model prog w) A (pyIter (.ref v)) Q E s := by
  refine hid fun Gx hGx => ?_
  obtain ⟨ov, hov, hcv, hdv⟩ := id hv
  obtain ⟨o, ho, hc, hdat⟩ := hm
  refine hGx ?_
  clear hGx Gx
  refine wpAny_pyIter_slot hv.typeIs F.slot_dict_items_iter (wpAny_call_entry F.slot_dict_items_iter hv.typeIs F.entry_dict_items_iter ?_ (F.args_dict_items_iter_1 _))
  unfold Builtin.«dict_items.__iter__» Builtin.Dict_items.dictOf Builtin.Dict_items.newIterator
  refine wpAny_bind (wpAny_pure (wpAny_bind (wpAny_bind (wpAny_field hov hdv (x := .ref d) rfl (wpAny_pure ?_)))))
  refine wpAny_bind (wpAny_bind (wpAny_dictEntries ho hdat (wpAny_bind (wpAny_dictEpoch ho hdat ?_))))
  have hown : Builtin.Dict_items.ownsTuple "dict_itemiterator" = true := by decide
  simp only [hown, if_true, Bool.false_eq_true, if_false]
  refine wpAny_newObj_type (wpAny_pure ⟨_, rfl, "dict_itemiterator", _, ⟨_, Heap.get?_push_size _ rfl, rfl⟩, F.slot_dict_itemiterator_next.lookup, hQ⟩) (by simp only [sizeOk, Builtin.Dict_items.ownedTupleFields, List.size_toArray, List.length_append, List.length_cons, List.length_nil, sizeLine_eq]; lia)
theorem raw_iter_values {v : Addr} {Q : Value → Shared → Prop} (hv : s.heap.IsValuesView v d) (hm : RawD s.heap d es ep)
    (hQ : Q (.ref s.heap.objs.size) { s with heap := s.heap.push { cls := .type "dict_valueiterator", data := .fields #[.ref d, .int 0 0, .int es.size 0, .int ep 0] } }) :
    wpAny (model prog w) A (pyIter (.ref v)) Q E s := by
  refine hid fun Gx hGx => ?_
  obtain ⟨ov, hov, hcv, hdv⟩ := id hv
  obtain ⟨o, ho, hc, hdat⟩ := hm
  refine hGx ?_
  clear hGx Gx
  refine wpAny_pyIter_slot hv.typeIs F.slot_dict_values_iter (wpAny_call_entry F.slot_dict_values_iter hv.typeIs F.entry_dict_values_iter ?_ (F.args_dict_values_iter_1 _))
  unfold Builtin.«dict_values.__iter__» Builtin.Dict_items.dictOf Builtin.Dict_items.newIterator
  refine wpAny_bind (wpAny_pure (wpAny_bind (wpAny_bind (wpAny_field hov hdv (x := .ref d) rfl (wpAny_pure ?_)))))
  refine wpAny_bind (wpAny_bind (wpAny_dictEntries ho hdat (wpAny_bind (wpAny_dictEpoch ho hdat ?_))))
  have hown : Builtin.Dict_items.ownsTuple "dict_valueiterator" = false := by decide
  simp only [hown, Bool.false_eq_true, if_false]
  exact wpAny_newObj_type (wpAny_pure ⟨_, rfl, "dict_valueiterator", _, ⟨_, Heap.get?_push_size _ rfl, rfl⟩, F.slot_dict_valueiterator_next.lookup, hQ⟩)
end
end Mine
end

section
set_option maxHeartbeats 1000000
namespace Mine
open PySem PySem.W PyProof.Rows PySem.Calls

section
variable {prog : Program} {w : World} {A : Around} {E : Value → Shared → Prop} {s : Shared} {d it : Addr} {es : Array DictEntry} {ep i : Nat}

/- the owner's field: empty, or a tuple that is still there -/
noncomputable def OwnOk (h : Heap) (it : Addr) (own : Value) : Prop := own = .none ∨ ∃ a oa, own = rawInt ((a : Nat) : Int) ∧ h.get? a = some oa ∧ a ≠ it


theorem raw_next {own ok ov : Value} {f : Bool} {e : DictEntry} {Q : Option Value → Shared → Prop} (hit : s.heap.get? it = some (itO own f d i es.size ep ok ov)) (hm : RawD s.heap d es ep) (how : OwnOk s.heap it own) (hx : es[i]? = some e)
    (hQ : ∀ h' own' f' ok' ov', h'.get? it = some (itO own' f' d (i + 1) es.size ep ok' ov') → OwnOk h' it own' → (own = .none → own' = rawInt (s.heap.objs.size : Int) ∧ f' = false) →
      h'.get? s.heap.objs.size = some { cls := .type "tuple", data := .seq #[e.key, e.val] } → (∀ b o, b ≠ it → s.heap.get? b = some o → h'.get? b = some o) → Q (some (.ref s.heap.objs.size)) { s with heap := h' }) :
    wpAny (model prog w) A (pyNext (.ref it)) Q E s := by
  refine hid fun Gx hGx => ?_
  obtain ⟨hp, g, dr, tk, os⟩ := s
  refine hGx ?_
  clear hGx Gx
  dsimp only at *
  refine hid fun Gx hGx => ?_
  obtain ⟨od, hod, hcd, hdd⟩ := id hm
  refine hGx ?_
  clear hGx Gx
  have hT : Shared.TypeIs ⟨hp, g, dr, tk, os⟩ (.ref it) "dict_itemiterator" := ⟨_, hit, rfl⟩
  unfold pyNext
  refine wpAny_bind <| wpAny_attempt <| wpAny_callSpecial?_slot (name := Str.ofString "__next__") hT F.slot_dict_itemiterator_next <| wpAny_call_entry F.slot_dict_itemiterator_next hT F.entry_dict_itemiterator_next ?_ (F.args_dict_itemiterator_next_1 _)
  refine wpAny_bind <| wpAny_pure <| wpAny_bind <| wpAny_bind <| wpAny_bind <| wpAny_typeNameOfWhole_itemiter hT <| wpAny_pure <| wpAny_bind <| wpAny_fieldsOf hit rfl ?_
  have hown : Builtin.Dict_items.ownsTuple "dict_itemiterator" = true := by decide
  simp only [hown, if_true]
  show wpAny _ _ (if (Value.ref d == Value.none) = true then _ else _) _ _ _
  rw [if_neg (show ¬ ((Value.ref d == Value.none) = true) from Bool.false_ne_true)]
  refine wpAny_bind <| wpAny_pure <| wpAny_bind <| wpAny_dictEntries hod hdd ?_
  rw [if_neg (by simp)]
  refine wpAny_bind <| wpAny_pure <| wpAny_bind <| wpAny_dictEpoch hod hdd ?_
  rw [if_neg (by simp)]
  refine wpAny_pure ?_
  simp only [show ¬ ((i : Int) < 0) from by lia, if_false, Int.toNat_natCast, hx]
  refine wpAny_bind <| wpAny_bind <| wpAny_typeNameOfWhole_itemiter hT <| wpAny_pure <| wpAny_bind <| wpAny_isOneOf_itemiter hT ?_
  show wpAny _ _ (setField (.ref it) 3 (rawInt ((i : Int) + 1)) >>= _) _ _ ⟨hp, g, dr, tk, os⟩
  refine wpAny_bind (wpAny_setField_rec hit (by simp) fun h₁ he₁ hs₁ => ?_)
  replace hs₁ : Heap.SameBut it hp h₁ := hs₁
  replace he₁ : h₁.get? it = some (itO own f d (i + 1) es.size ep ok ov) := by
    have e : ((i + 1 : Nat) : Int) = (i : Int) + 1 := by lia
    unfold itO; rw [e]; simpa [rawInt, itO] using he₁
  have hT₁ : Shared.TypeIs ⟨h₁, g, dr, tk, os⟩ (.ref it) "dict_itemiterator" := ⟨_, he₁, rfl⟩
  refine wpAny_bind <| wpAny_holding <| wpAny_bind <| wpAny_isOneOf_itemiter hT₁ <| wpAny_bind <| wpAny_isOneOf_itemiter hT₁ ?_
  show wpAny _ _ (Builtin.Dict_items.pairFromOwner (.ref it) 6 e.key e.val) _ _ ⟨h₁, g, dr, tk, os⟩
  unfold Builtin.Dict_items.pairFromOwner
  refine wpAny_bind (wpAny_newTuple ?_)
  have he₂ : (h₁.push { cls := .type "tuple", data := .seq #[e.key, e.val] }).get? it = some (itO own f d (i + 1) es.size ep ok ov) := Heap.get?_push_of_some _ he₁
  have hz₁ : h₁.objs.size = hp.objs.size := hs₁.1
  have hil : it < hp.objs.size := Heap.lt_size hit
  have hTi : hp.objs.size ≠ it := Nat.ne_of_gt hil
  have ht₂ : (h₁.push { cls := .type "tuple", data := .seq #[e.key, e.val] }).get? hp.objs.size = some { cls := .type "tuple", data := .seq #[e.key, e.val] } := by rw [← hz₁]; exact Heap.get?_push_size _ rfl
  have hk₂ : ∀ b o, b ≠ it → hp.get? b = some o → (h₁.push { cls := .type "tuple", data := .seq #[e.key, e.val] }).get? b = some o := fun b o hb e => Heap.get?_push_of_some _ (hs₁.extBut b o hb e)
  show wpAny _ _ (Builtin.Dict_items.ownedTupleIsFree (.ref it) >>= _) _ _ ⟨h₁.push { cls := .type "tuple", data := .seq #[e.key, e.val] }, g, dr, tk, os⟩
  rw [hz₁]
  generalize h₁.push { cls := .type "tuple", data := .seq #[e.key, e.val] } = h₂ at *
  clear he₁ hs₁ hT₁ hz₁ h₁
  refine wpAny_bind ?_
  unfold Builtin.Dict_items.ownedTupleIsFree
  refine wpAny_bind (wpAny_field he₂ rfl (x := own) rfl ?_)
  rcases how with rfl | ⟨a, oa, rfl, ha, hai⟩
  · refine wpAny_pure ?_
    simp only [if_true]
    refine wpAny_bind <| wpAny_field he₂ rfl (x := ok) rfl <| wpAny_bind <| wpAny_field he₂ rfl (x := ov) rfl <| wpAny_bind <| wpAny_setField_rec he₂ (by simp) fun h₃ he₃ hs₃ => ?_
    refine wpAny_bind <| wpAny_setField_rec he₃ (by simp) fun h₄ he₄ hs₄ => ?_
    refine wpAny_bind <| wpAny_setField_rec he₄ (by simp) fun h₅ he₅ hs₅ => ?_
    refine wpAny_bind <| wpAny_setField_rec he₅ (by simp) fun h₆ he₆ hs₆ => ?_
    refine wpAny_bind <| wpAny_letGo <| wpAny_pure <| wpAny_pure ⟨_, rfl, wpAny_pure ?_⟩
    have kk : ∀ b o, b ≠ it → h₂.get? b = some o → h₆.get? b = some o := fun b o hb e => hs₆.extBut b o hb (hs₅.extBut b o hb (hs₄.extBut b o hb (hs₃.extBut b o hb e)))
    exact hQ h₆ (rawInt hp.objs.size) false e.key e.val he₆ (.inr ⟨_, _, rfl, kk _ _ hTi ht₂, hTi⟩) (fun _ => ⟨rfl, rfl⟩) (kk _ _ hTi ht₂) fun b o hb e => kk b o hb (hk₂ b o hb e)
  · have ha₂ : h₂.get? a = some oa := hk₂ a oa hai ha
    show wpAny _ _ (loadIfAlive ((a : Int).toNat) >>= _) _ _ _
    rw [Int.toNat_natCast]
    refine wpAny_bind (kdx_alive ha₂ ?_)
    simp only [Option.isNone_some, Bool.false_eq_true, if_false]
    refine wpAny_bind (wpAny_field he₂ rfl (x := .bool f) rfl ?_)
    have ne0 : rawInt ((a : Nat) : Int) ≠ .none := by intro q; cases q
    cases f with
    | true =>
      rw [if_neg (show ¬ ((Value.bool true != Value.bool true) = true) from Bool.false_ne_true)]
      refine wpAny_pure ?_
      simp only [Bool.false_eq_true, if_false]
      exact wpAny_pure (wpAny_pure ⟨_, rfl, wpAny_pure (hQ h₂ _ true ok ov he₂ (.inr ⟨a, oa, rfl, ha₂, hai⟩) (fun q => absurd q ne0) ht₂ hk₂)⟩)
    | false =>
      rw [if_pos (show (Value.bool false != Value.bool true) = true from rfl)]
      refine wpAny_bind (wpAny_setField_rec he₂ (by simp) fun h₃ he₃ hs₃ => ?_)
      refine wpAny_pure ?_
      simp only [Bool.false_eq_true, if_false]
      exact wpAny_pure (wpAny_pure ⟨_, rfl, wpAny_pure (hQ h₃ _ true ok ov he₃ (.inr ⟨a, oa, rfl, hs₃.extBut _ _ hai ha₂, hai⟩) (fun q => absurd q ne0) (hs₃.extBut _ _ hTi ht₂) fun b o hb e => hs₃.extBut b o hb (hk₂ b o hb e))⟩)

theorem raw_end {own ok ov : Value} {f : Bool} {Q : Option Value → Shared → Prop} (hh : A.handled = none) (hit : s.heap.get? it = some (itO own f d i es.size ep ok ov)) (hm : RawD s.heap d es ep) (hx : es[i]? = none)
    (hQ : ∀ h', Heap.ExtBut it s.heap h' → Q none { s with heap := h' }) : wpAny (model prog w) A (pyNext (.ref it)) Q E s := by
  refine hid fun Gx hGx => ?_
  obtain ⟨od, hod, hcd, hdd⟩ := id hm
  refine hGx ?_
  clear hGx Gx
  have hT : s.TypeIs (.ref it) "dict_itemiterator" := ⟨_, hit, rfl⟩
  unfold pyNext
  refine wpAny_bind <| wpAny_attempt <| wpAny_callSpecial?_slot (name := Str.ofString "__next__") hT F.slot_dict_itemiterator_next <| wpAny_call_entry F.slot_dict_itemiterator_next hT F.entry_dict_itemiterator_next ?_ (F.args_dict_itemiterator_next_1 _)
  refine wpAny_bind <| wpAny_pure <| wpAny_bind <| wpAny_bind <| wpAny_bind <| wpAny_typeNameOfWhole_itemiter hT <| wpAny_pure <| wpAny_bind <| wpAny_fieldsOf hit rfl ?_
  have hown : Builtin.Dict_items.ownsTuple "dict_itemiterator" = true := by decide
  simp only [hown, if_true]
  show wpAny _ _ (if (Value.ref d == Value.none) = true then _ else _) _ _ _
  rw [if_neg (show ¬ ((Value.ref d == Value.none) = true) from Bool.false_ne_true)]
  refine wpAny_bind <| wpAny_pure <| wpAny_bind <| wpAny_dictEntries hod hdd ?_
  rw [if_neg (by simp)]
  refine wpAny_bind <| wpAny_pure <| wpAny_bind <| wpAny_dictEpoch hod hdd ?_
  rw [if_neg (by simp)]
  refine wpAny_pure ?_
  simp only [show ¬ ((i : Int) < 0) from by lia, if_false, Int.toNat_natCast, hx]
  refine wpAny_bind <| wpAny_bind <| wpAny_typeNameOfWhole_itemiter hT <| wpAny_pure ?_
  show wpAny _ _ (setField (.ref it) 2 .none >>= _) _ _ s
  refine wpAny_bind (wpAny_setField hit rfl (by simp) ?_)
  show wpAny _ _ (newExc (.type "StopIteration") [] >>= _) _ _ _
  refine wpAny_bind ?_
  simp only [newExc, newTuple]
  refine wpAny_bind (wpAny_newObj_type ?_ (by size_fits))
  refine wpAny_bind (m := firstArgMember _ _) (wpAny_of_eq (a := Value.none) (by first | rfl | (simp only [firstArgMember]; rfl)) ?_)
  refine wpAny_newObj_type ?_ (by size_fits)
  simp only [raiseNew]
  refine wpAny_bind (wpAny_handled ?_)
  rw [show A.in1.handled = none from hh]
  refine wpAny_bind (wpAny_pure (wpAny_throw ?_))
  refine wpAny_bind (wpAny_isInstance (T := "StopIteration") (b := true) ⟨_, Heap.get?_push_size _ rfl, rfl⟩ isSubtype_stop ?_)
  exact wpAny_pure (hQ _ (((Heap.SameBut.update ..).extBut.push _).push _))
end
end Mine
end

section
set_option maxHeartbeats 1000000
namespace Mine
open PySem PySem.W PyProof.Rows PySem.Calls

section
variable {prog : Program} {w : World} {A : Around} {E : Value → Shared → Prop} {s : Shared} {d it : Addr} {es : Array DictEntry} {ep i : Nat}

theorem raw_next_val {e : DictEntry} {Q : Option Value → Shared → Prop} (hit : s.heap.IsValIter it d i es.size ep) (hm : RawD s.heap d es ep) (hx : es[i]? = some e)
    (hQ : ∀ h', h'.IsValIter it d (i + 1) es.size ep → Heap.SameBut it s.heap h' → Q (some e.val) { s with heap := h' }) :
    wpAny (model prog w) A (pyNext (.ref it)) Q E s := by
  refine hid fun Gx hGx => ?_
  obtain ⟨o, ho, hc, hd⟩ := id hit
  obtain ⟨od, hod, hcd, hdd⟩ := id hm
  refine hGx ?_
  clear hGx Gx
  unfold pyNext
  refine wpAny_bind <| wpAny_attempt <| wpAny_callSpecial?_slot (name := Str.ofString "__next__") hit.typeIs F.slot_dict_valueiterator_next <| wpAny_call_entry F.slot_dict_valueiterator_next hit.typeIs F.entry_dict_valueiterator_next ?_ (F.args_dict_valueiterator_next_1 _)
  refine wpAny_bind <| wpAny_pure <| wpAny_bind <| wpAny_bind <| wpAny_bind <| wpAny_typeNameOfWhole_valiter hit.typeIs <| wpAny_pure <| wpAny_bind <| wpAny_fieldsOf ho hd ?_
  have hown : Builtin.Dict_items.ownsTuple "dict_valueiterator" = false := by decide
  simp only [hown, Bool.false_eq_true, if_false]
  show wpAny _ _ (if (Value.ref d == Value.none) = true then _ else _) _ _ s
  rw [if_neg (show ¬ ((Value.ref d == Value.none) = true) from Bool.false_ne_true)]
  refine wpAny_bind <| wpAny_pure <| wpAny_bind <| wpAny_dictEntries hod hdd ?_
  rw [if_neg (by simp)]
  refine wpAny_bind <| wpAny_pure <| wpAny_bind <| wpAny_dictEpoch hod hdd ?_
  rw [if_neg (by simp)]
  refine wpAny_pure ?_
  simp only [show ¬ ((i : Int) < 0) from by lia, if_false, Int.toNat_natCast, hx]
  refine wpAny_bind <| wpAny_bind <| wpAny_typeNameOfWhole_valiter hit.typeIs <| wpAny_pure <| wpAny_bind <| wpAny_isOneOf_valiter hit.typeIs ?_
  show wpAny _ _ (setField (.ref it) 1 (rawInt ((i : Int) + 1)) >>= _) _ _ s
  refine wpAny_bind (wpAny_setField ho hd (by simp) ?_)
  have hit' : (s.heap.update it (Obj.mapFields (·.setIfInBounds 1 (rawInt ((i : Int) + 1))))).IsValIter it d (i + 1) es.size ep :=
    ⟨_, Heap.get?_update_self _ ho (Obj.isFreed_of_fields (Obj.data_mapFields hd _)), (Obj.cls_mapFields ..).trans hc, by rw [Obj.data_mapFields hd]; simp [rawInt]⟩
  refine wpAny_bind <| wpAny_holding <| wpAny_bind <| wpAny_isOneOf_valiter (s := { s with heap := s.heap.update it (Obj.mapFields (·.setIfInBounds 1 (rawInt ((i : Int) + 1)))) }) hit'.typeIs <|
    wpAny_bind <| wpAny_isOneOf_valiter (s := { s with heap := s.heap.update it (Obj.mapFields (·.setIfInBounds 1 (rawInt ((i : Int) + 1)))) }) hit'.typeIs ?_
  show wpAny _ _ (pure e.val) _ _ _
  exact wpAny_pure (wpAny_pure ⟨_, rfl, wpAny_pure (hQ _ hit' (Heap.SameBut.update ..))⟩)

theorem raw_end_val {Q : Option Value → Shared → Prop} (hh : A.handled = none) (hit : s.heap.IsValIter it d i es.size ep) (hm : RawD s.heap d es ep) (hx : es[i]? = none)
    (hQ : ∀ h', Heap.ExtBut it s.heap h' → Q none { s with heap := h' }) : wpAny (model prog w) A (pyNext (.ref it)) Q E s := by
  refine hid fun Gx hGx => ?_
  obtain ⟨o, ho, hc, hd⟩ := id hit
  obtain ⟨od, hod, hcd, hdd⟩ := id hm
  refine hGx ?_
  clear hGx Gx
  unfold pyNext
  refine wpAny_bind <| wpAny_attempt <| wpAny_callSpecial?_slot (name := Str.ofString "__next__") hit.typeIs F.slot_dict_valueiterator_next <| wpAny_call_entry F.slot_dict_valueiterator_next hit.typeIs F.entry_dict_valueiterator_next ?_ (F.args_dict_valueiterator_next_1 _)
  refine wpAny_bind <| wpAny_pure <| wpAny_bind <| wpAny_bind <| wpAny_bind <| wpAny_typeNameOfWhole_valiter hit.typeIs <| wpAny_pure <| wpAny_bind <| wpAny_fieldsOf ho hd ?_
  have hown : Builtin.Dict_items.ownsTuple "dict_valueiterator" = false := by decide
  simp only [hown, Bool.false_eq_true, if_false]
  show wpAny _ _ (if (Value.ref d == Value.none) = true then _ else _) _ _ s
  rw [if_neg (show ¬ ((Value.ref d == Value.none) = true) from Bool.false_ne_true)]
  refine wpAny_bind <| wpAny_pure <| wpAny_bind <| wpAny_dictEntries hod hdd ?_
  rw [if_neg (by simp)]
  refine wpAny_bind <| wpAny_pure <| wpAny_bind <| wpAny_dictEpoch hod hdd ?_
  rw [if_neg (by simp)]
  refine wpAny_pure ?_
  simp only [show ¬ ((i : Int) < 0) from by lia, if_false, Int.toNat_natCast, hx]
  refine wpAny_bind <| wpAny_bind <| wpAny_typeNameOfWhole_valiter hit.typeIs <| wpAny_pure ?_
  show wpAny _ _ (setField (.ref it) 0 .none >>= _) _ _ s
  refine wpAny_bind (wpAny_setField ho hd (by simp) ?_)
  show wpAny _ _ (newExc (.type "StopIteration") [] >>= _) _ _ _
  refine wpAny_bind ?_
  simp only [newExc, newTuple]
  refine wpAny_bind (wpAny_newObj_type ?_ (by size_fits))
  refine wpAny_bind (m := firstArgMember _ _) (wpAny_of_eq (a := Value.none) (by first | rfl | (simp only [firstArgMember]; rfl)) ?_)
  refine wpAny_newObj_type ?_ (by size_fits)
  simp only [raiseNew]
  refine wpAny_bind (wpAny_handled ?_)
  rw [show A.in1.handled = none from hh]
  refine wpAny_bind (wpAny_pure (wpAny_throw ?_))
  refine wpAny_bind (wpAny_isInstance (T := "StopIteration") (b := true) ⟨_, Heap.get?_push_size _ rfl, rfl⟩ isSubtype_stop ?_)
  exact wpAny_pure (hQ _ (((Heap.SameBut.update ..).extBut.push _).push _))
end

theorem walks_values {prog : Program} {w : World} {A : Around} (hh : A.handled = none) (I d : Addr) (hne : d ≠ I) (es : Array DictEntry) (ep : Nat) :
    Walks prog w A I [I, d] [I] es.size (fun i v => ∃ e, es[i]? = some e ∧ v = e.val) (fun i h => h.IsValIter I d i es.size ep ∧ RawD h d es ep) where
  sub := fun b hb => by simp at hb; simp [hb]
  frame := fun _ _ _ st hk => ⟨st.1.at fun o e => hk I (by simp) o e, st.2.at fun o e => hk d (by simp) o e⟩
  item := fun i s Q E hi st hQ => by
    obtain ⟨e, hx⟩ : ∃ p, es[i]? = some p := ⟨es[i], by simp [hi]⟩
    refine raw_next_val st.1 st.2 hx fun h' hit' hs' => ?_
    exact hQ e.val h' s.toks ⟨e, hx, rfl⟩ ⟨hit', st.2.at fun o e => hs'.extBut _ o hne e⟩ fun b o hb e => hs'.extBut b o (fun h => hb (by simp [h])) e
  done := fun s Q E st hQ => raw_end_val hh st.1 st.2 (by simp) fun h' he' => hQ h' s.toks fun b o hb e => he' b o (fun h => hb (by simp [h])) e
  self := fun _ _ _ _ st hQ => wpAny_pyIter_valiter st.1 hQ

section
variable {prog : Program} {w : World} {A : Around} {R : Result → Shared → Prop} {g : Array GenState} {dr : Drawn} {os : OsState}
/- a for loop over d.items() -/
theorem for_items {elts : List PySem.Expr} {kk : Nat} {pos : Pos} {body : List Stmt} {env : Env} {I d : Addr} {es : Array DictEntry} {ep : Nat} (hh : A.handled = none) (hne : d ≠ I) (Inv : Nat → Heap → Prop)
    (fr : ∀ i h h' own f ok ov, Inv i h → h.get? I = some (itO own f d i es.size ep ok ov) → But I h h' → Inv i h')
    (fr' : ∀ i h h' own f ok ov, Inv i h → h.get? I = some (itO own f d (i + 1) es.size ep ok ov) → But I h h' → Inv i h')
    (turn : ∀ i h tk e T (E : Value → Shared → Prop), es[i]? = some e → h.get? T = some { cls := .type "tuple", data := .seq #[e.key, e.val] } → (∃ ok ov, h.get? I = some (itO .none false d (i + 1) es.size ep ok ov)) → RawD h d es ep → Inv i h →
      wpAny (model prog w) A (assign (.Tuple elts kk pos) env (.ref T)) (fun _ s₂ => wpAny (model prog w) A (execs body env) (fun f s₃ => match f with
        | .next => ∃ h' tk', s₃ = ⟨h', g, dr, tk', os⟩ ∧ Inv (i + 1) h' ∧ (∀ o, h.get? I = some o → h'.get? I = some o) ∧ (∀ o, h.get? d = some o → h'.get? d = some o)
        | .cont => ∃ h' tk', s₃ = ⟨h', g, dr, tk', os⟩ ∧ Inv (i + 1) h' ∧ (∀ o, h.get? I = some o → h'.get? I = some o) ∧ (∀ o, h.get? d = some o → h'.get? d = some o)
        | .brk => R (.ok .next) s₃
        | .ret v => R (.ok (.ret v)) s₃) E s₂) E ⟨h, g, dr, tk, os⟩)
    (done : ∀ h tk, Inv es.size h → R (.ok .next) ⟨h, g, dr, tk, os⟩) {h : Heap} {tk : Nat} (hit : h.get? I = some (itO .none false d 0 es.size ep .none .none)) (hd : RawD h d es ep) (hinv : Inv 0 h) :
    codeAny (model prog w) A (.forLoop (.Tuple elts kk pos) (.ref I) body [] env) R ⟨h, g, dr, tk, os⟩ := by
  refine codeAny_forLoop_any (fun k s => ∃ i h tk, s = ⟨h, g, dr, tk, os⟩ ∧ (∃ ok ov, h.get? I = some (itO .none false d i es.size ep ok ov)) ∧ RawD h d es ep ∧ Inv i h ∧ i ≤ es.size ∧ k = es.size - i) ?_ es.size ⟨0, h, tk, rfl, ⟨_, _, hit⟩, hd, hinv, Nat.zero_le _, rfl⟩
  clear hit hd hinv
  rintro k s invX
  refine hid fun Gx hGx => ?_
  obtain ⟨i, h, tk, rfl, ⟨ok, ov, hit⟩, hd, hinv, hi, rfl⟩ := invX
  refine hGx ?_
  clear hGx Gx
  by_cases hlt : i < es.size
  · obtain ⟨e, hx⟩ : ∃ e, es[i]? = some e := ⟨es[i], by simp [hlt]⟩
    refine raw_next hit hd (.inl rfl) hx fun h₁ own' f' ok' ov' hit₁ _ hown hT k₁ => ?_
    dsimp only at *
    obtain ⟨rfl, rfl⟩ := hown rfl
    have hTI : h.objs.size ≠ I := Nat.ne_of_gt (Heap.lt_size hit)
    have hinv₁ := fr i h h₁ _ _ _ _ hinv hit k₁
    refine wpAny_letOwnedTupleGo_items hit₁ fun h₂ hit₂ hs₂ => ?_
    dsimp only at *
    have k₂ : But I h₁ h₂ := fun b o hb e => hs₂.extBut b o hb e
    have hinv₂ := fr' i h₁ h₂ _ _ _ _ hinv₁ hit₁ k₂
    refine wpAny_mono (turn i h₂ tk e h.objs.size _ hx (k₂ _ _ hTI hT) ⟨ok', ov', hit₂⟩ (hd.at fun o e => k₂ _ _ hne (k₁ _ _ hne e)) hinv₂) (fun _ s₂ q => wpAny_mono q (fun f s₃ q => ?_) fun _ _ e => e) fun _ _ e => e
    have nx : ∀ h' tk', Inv (i + 1) h' → (∀ o, h₂.get? I = some o → h'.get? I = some o) → (∀ o, h₂.get? d = some o → h'.get? d = some o) → ∃ m, m < es.size - i ∧ ∃ i h tk, (⟨h', g, dr, tk', os⟩ : Shared) = ⟨h, g, dr, tk, os⟩ ∧ (∃ ok ov, h.get? I = some (itO .none false d i es.size ep ok ov)) ∧ RawD h d es ep ∧ Inv i h ∧ i ≤ es.size ∧ m = es.size - i :=
      fun h' tk' a b c => ⟨es.size - (i + 1), by lia, i + 1, h', tk', rfl, ⟨_, _, b _ hit₂⟩, hd.at fun o e => c _ (k₂ _ _ hne (k₁ _ _ hne e)), a, hlt, rfl⟩
    cases f with
    | next => obtain ⟨h', tk', rfl, a, b, c⟩ := q; exact nx h' tk' a b c
    | cont => obtain ⟨h', tk', rfl, a, b, c⟩ := q; exact nx h' tk' a b c
    | brk => exact q
    | ret v => exact q
  · have : i = es.size := by lia
    subst this
    refine raw_end hh hit hd (by simp) fun h₁ he => ?_
    exact wpAny_execs_nil (done h₁ tk (fr _ h h₁ _ _ _ _ hinv hit fun b o hb e => he b o hb e))
end
end Mine
end

section
set_option maxHeartbeats 1000000
namespace Mine
open PySem PySem.W PyProof.Rows PySem.Calls

noncomputable abbrev MK := Str ⊕ Int
noncomputable def mixIs : MK → Value → Bool
  | .inl x, v => Value.isStrOf x v
  | .inr n, v => Value.isInt n v
noncomputable def mixKind (prog : Program) (w : World) : KeyKind prog w MK where
  is := mixIs
  hash := fun | .inl x => hashStr w x | .inr n => hashInt n
  inj := fun v a b ha hb => by
    cases a with
    | inl x =>
      cases b with
      | inl y => rw [Value.isStrOf_inj v x y ha hb]
      | inr n => obtain ⟨t, rfl⟩ := Value.isStrOf_shape ha; cases hb
    | inr n =>
      cases b with
      | inl y => obtain ⟨t, rfl⟩ := Value.isInt_shape ha; cases hb
      | inr k => rw [Value.isInt_inj v n k ha hb]
  byValue := fun k v h => by
    cases k with
    | inl x => obtain ⟨t, rfl⟩ := Value.isStrOf_shape h; rfl
    | inr n => obtain ⟨t, rfl⟩ := Value.isInt_shape h; rfl
  pyHash := fun {A E s k v Q} hv h => by
    cases k with
    | inl x => obtain ⟨t, rfl⟩ := Value.isStrOf_shape hv; exact wpAny_pyHash_str h
    | inr n => obtain ⟨t, rfl⟩ := Value.isInt_shape hv; exact wpAny_pyHash_int h
  eqBool := fun {A E s a b u v Q} ha hb h => by
    cases a with
    | inl x =>
      obtain ⟨t, rfl⟩ := Value.isStrOf_shape ha
      cases b with
      | inl y => obtain ⟨t', rfl⟩ := Value.isStrOf_shape hb; exact wpAny_eqBool_str (by simpa using h)
      | inr n => obtain ⟨t', rfl⟩ := Value.isInt_shape hb; exact SeqAt.EqAt.str_int x t n t' prog w E Q (by simpa using h)
    | inr n =>
      obtain ⟨t, rfl⟩ := Value.isInt_shape ha
      cases b with
      | inl y => obtain ⟨t', rfl⟩ := Value.isStrOf_shape hb; exact SeqAt.EqAt.int_str n t y t' prog w E Q (by simpa using h)
      | inr k => obtain ⟨t', rfl⟩ := Value.isInt_shape hb; exact wpAny_eqBool_int (by rw [show (n == k) = decide ((Sum.inr n : MK) = Sum.inr k) by by_cases q : n = k <;> simp [q]]; exact h)
  «strs» := fun k x t v h => by
    cases k with
    | inl y => exact (strKind prog w).«strs» y x t v h
    | inr n => cases h

noncomputable abbrev CK := Int × Str
noncomputable def ck (k : CK) : List MK := [.inl "page", .inr k.1, .inl k.2]
theorem ck_inj {a b : CK} (h : ck a = ck b) : a = b := by
  obtain ⟨a1, a2⟩ := a; obtain ⟨b1, b2⟩ := b
  simp only [ck, List.cons.injEq, Sum.inl.injEq, Sum.inr.injEq, and_true, true_and] at h
  rw [h.1, h.2]
inductive CVals : List (List MK × Addr × Value) → List (CK × Int) → Prop
  | nil : CVals [] []
  | cons (k : CK) (a : Addr) (n : Int) (t : Tok) {xs kvs} : CVals xs kvs → CVals ((ck k, a, .int n t) :: xs) ((k, n) :: kvs)

/- a table of callers -/
noncomputable def CD (prog : Program) (w : World) (h : Heap) (d : Addr) (kvs : List (CK × Int)) : Prop := (d == sysModules) = false ∧ ∃ xs, h.DictOfH (tupleKind (mixKind prog w)) d xs ∧ CVals xs kvs

noncomputable def getC (k : CK) (kvs : List (CK × Int)) : Option Int := (kvs.find? fun p => decide (p.1 = k)).map (·.2)
noncomputable def putC (k : CK) (v : Int) (kvs : List (CK × Int)) : List (CK × Int) := if (getC k kvs).isSome then kvs.map fun p => if p.1 = k then (p.1, v) else p else kvs ++ [(k, v)]
noncomputable def add1 (kvs : List (CK × Int)) (p : CK × Int) : List (CK × Int) := match getC p.1 kvs with
  | some n => putC p.1 (n + p.2) kvs
  | none => putC p.1 p.2 kvs
noncomputable def addC (a b : List (CK × Int)) : List (CK × Int) := b.foldl add1 (a.foldl (fun kvs p => putC p.1 p.2 kvs) [])

theorem CVals.at {xs : List (List MK × Addr × Value)} {kvs : List (CK × Int)} (X : CVals xs kvs) (k : CK) : (∀ n, getC k kvs = some n → ∃ a t, atKey xs (ck k) = some (a, .int n t)) ∧ (getC k kvs = none → atKey xs (ck k) = none) := by
  induction X with
  | nil => exact ⟨fun n h => (by cases h), fun _ => rfl⟩
  | cons k' a n t X ih =>
    by_cases hk : k' = k
    · subst hk
      rename_i xs kvs
      have e1 : getC k' ((k', n) :: kvs) = some n := by unfold getC; rw [List.find?_cons_of_pos (by simp)]; rfl
      have e2 : atKey ((ck k', a, Value.int n t) :: xs) (ck k') = some (a, .int n t) := by unfold atKey; rw [List.find?_cons_of_pos (by simp)]; rfl
      rw [e1, e2]
      exact ⟨fun m h => (by cases h; exact ⟨a, t, rfl⟩), fun h => (by cases h)⟩
    · rename_i xs kvs
      have e1 : getC k ((k', n) :: kvs) = getC k kvs := by unfold getC; rw [List.find?_cons_of_neg (by simpa using hk)]
      have e2 : atKey ((ck k', a, Value.int n t) :: xs) (ck k) = atKey xs (ck k) := by unfold atKey; rw [List.find?_cons_of_neg (by simpa using fun q => hk (ck_inj q))]
      rw [e1, e2]; exact ih
theorem CVals.map {xs : List (List MK × Addr × Value)} {kvs : List (CK × Int)} (X : CVals xs kvs) (k : CK) (v : Int) (t : Tok) : CVals (xs.map (putAt (ck k) (.int v t))) (kvs.map fun p => if p.1 = k then (p.1, v) else p) := by
  induction X with
  | nil => exact .nil
  | cons k' a n t' X ih =>
    rw [List.map_cons, List.map_cons]
    by_cases hk : k' = k
    · subst hk
      rw [if_pos rfl]
      unfold putAt
      rw [if_pos rfl]
      exact .cons _ _ _ _ ih
    · rw [if_neg hk]
      unfold putAt
      rw [if_neg fun q => hk (ck_inj q)]
      exact .cons _ _ _ _ ih
theorem CVals.snoc {xs : List (List MK × Addr × Value)} {kvs : List (CK × Int)} (X : CVals xs kvs) (k : CK) (a : Addr) (v : Int) (t : Tok) : CVals (xs ++ [(ck k, a, .int v t)]) (kvs ++ [(k, v)]) := by
  induction X with
  | nil => exact .cons _ _ _ _ .nil
  | cons k' a n t' X ih => exact .cons _ _ _ _ ih
theorem CVals.stored {xs : List (List MK × Addr × Value)} {kvs : List (CK × Int)} (X : CVals xs kvs) (k : CK) (a : Addr) (v : Int) (t : Tok) : CVals (storedH xs (ck k) a (.int v t)) (putC k v kvs) := by
  unfold putC
  cases h : getC k kvs with
  | none =>
    rw [storedH_new ((X.at k).2 h)]
    exact X.snoc k a v t
  | some n =>
    obtain ⟨a', t', e⟩ := (X.at k).1 n h
    rw [storedH_old e]
    exact X.map k v t
theorem CVals.length {xs : List (List MK × Addr × Value)} {kvs : List (CK × Int)} (X : CVals xs kvs) : xs.length = kvs.length := by
  induction X with
  | nil => rfl
  | cons _ _ _ _ _ ih => rw [List.length_cons, List.length_cons, ih]
theorem CVals.get {xs : List (List MK × Addr × Value)} {kvs : List (CK × Int)} (X : CVals xs kvs) {i : Nat} {k : CK} {n : Int} (h : kvs[i]? = some (k, n)) : ∃ a t, xs[i]? = some (ck k, a, .int n t) := by
  induction X generalizing i with
  | nil => cases h
  | cons k' a n' t' X ih =>
    cases i with
    | zero => cases h; exact ⟨a, t', rfl⟩
    | succ i => exact ih h
theorem putC_len (k : CK) (v : Int) (kvs : List (CK × Int)) : (putC k v kvs).length ≤ kvs.length + 1 := by
  unfold putC; split
  · rw [List.length_map]; lia
  · rw [List.length_append]; exact Nat.le_refl _
end Mine
end

section
set_option maxHeartbeats 1000000
namespace Mine
open PySem PySem.W PyProof.Rows PySem.Calls

theorem K63 (P : Params) : ∃ pm c ct, (KF P).lookup 63 = some (fnObj (fnAny "add_callers" "add_callers" dAC.params (.stmts dAC.body) dAC.scope [] .none .none pm (.ref c) ct)) ∧ codeIn (KF P) (.ref c) "add_callers" = true := ⟨_, _, _, rfl, by kernel_rfl⟩

section
variable {prog : Program} {w : World} {h h' : Heap} {a d : Addr} {kvs : List (CK × Int)}
theorem tk_stay (k : Stay h h') {ks : List MK} (x : (tupleKind (mixKind prog w)).is h ks a) : (tupleKind (mixKind prog w)).is h' ks a := by
  refine hid fun Gx hGx => ?_
  obtain ⟨o, its, n, e, c, r⟩ := x
  refine hGx ?_
  clear hGx Gx
  exact ⟨o, its, n, k _ _ e (not_tab (by rw [c]; nofun)), c, r⟩
theorem tk_but {oa : Obj} (hoa : h.get? d = some oa) (hs : ∀ vs n, oa.data ≠ .seq vs n) (k : But d h h') {ks : List MK} (x : (tupleKind (mixKind prog w)).is h ks a) : (tupleKind (mixKind prog w)).is h' ks a := by
  refine hid fun Gx hGx => ?_
  obtain ⟨o, its, n, e, c, hd, r⟩ := x
  refine hGx ?_
  clear hGx Gx
  exact ⟨o, its, n, k _ _ (fun q => by rw [q, hoa] at e; cases e; exact hs _ _ hd) e, c, hd, r⟩
theorem CD.stay (k : Stay h h') (X : CD prog w h d kvs) : CD prog w h' d kvs := by
  refine hid fun Gx hGx => ?_
  obtain ⟨hd, xs, ⟨o, es, ep, e, c, dd, l, ks, nd⟩, v⟩ := X
  refine hGx ?_
  clear hGx Gx
  exact ⟨hd, xs, ⟨o, es, ep, k _ _ e (not_tab (by rw [c.1]; nofun)), c, dd, l, fun x hx => tk_stay k (ks x hx), nd⟩, v⟩
theorem CD.but {oa : Obj} (hoa : h.get? a = some oa) (hs : ∀ vs n, oa.data ≠ .seq vs n) (hne : d ≠ a) (k : But a h h') (X : CD prog w h d kvs) : CD prog w h' d kvs := by
  refine hid fun Gx hGx => ?_
  obtain ⟨hd, xs, ⟨o, es, ep, e, c, dd, l, ks, nd⟩, v⟩ := X
  refine hGx ?_
  clear hGx Gx
  exact ⟨hd, xs, ⟨o, es, ep, k _ _ hne e, c, dd, l, fun x hx => tk_but hoa hs k (ks x hx), nd⟩, v⟩
theorem CD.butNs {L : Addr} {m : Str → Option Value} (hn : h.Ns L m) (hne : d ≠ L) (k : But L h h') (X : CD prog w h d kvs) : CD prog w h' d kvs := by
  refine hid fun Gx hGx => ?_
  obtain ⟨o, es, ep, e, hd, _⟩ := hn
  refine hGx ?_
  clear hGx Gx
  exact X.but e (fun vs n q => by rw [hd] at q; cases q) hne k
end

structure ASt (prog : Program) (w : World) (h₀ : Heap) (L D : Addr) (s2 : Value) (kvs : List (CK × Int)) (m : Str → Option Value) (h : Heap) : Prop where
  F : Fm h₀ L m h
  cd : CD prog w h D kvs
  D0 : h₀.get? D = none
  DL : D ≠ L
  mnew : m "new_callers" = some (.ref D)
  msrc : m "source" = some s2
section
variable {prog : Program} {w : World} {h₀ h h' : Heap} {L D I : Addr} {s2 : Value} {kvs kvs' : List (CK × Int)} {m m' : Str → Option Value}
theorem ASt.store (X : ASt prog w h₀ L D s2 kvs m h) (k : But L h h') (hn : h'.Ns L m') (e1 : m' "new_callers" = m "new_callers") (e2 : m' "source" = m "source") : ASt prog w h₀ L D s2 kvs m' h' :=
  { X with F := X.F.store k hn, cd := X.cd.butNs X.F.ns X.DL k, mnew := e1.trans X.mnew, msrc := e2.trans X.msrc }
theorem ASt.iter {oI : Obj} {fs : Array Value} (X : ASt prog w h₀ L D s2 kvs m h) (hI : h.get? I = some oI) (hc : oI.cls = .type "dict_itemiterator") (hd : oI.data = .fields fs) (h0 : h₀.get? I = none) (k : But I h h') : ASt prog w h₀ L D s2 kvs m h' := by
  have nL : L ≠ I := (ns_ne X.F.ns hI (by rw [hd]; nofun)).symm
  have nD : D ≠ I := fun q => by
    refine hid fun Gx hGx => ?_
    obtain ⟨_, xs, ⟨o, es, ep, e, c, dd, _⟩, _⟩ := X.cd
    refine hGx ?_
    clear hGx Gx
    rw [q, hI] at e; cases e; rw [hd] at dd; cases dd
  refine { X with F := ⟨X.F.ev.set hI (.of_cls (by rw [hc]; nofun) (by rw [hc]; intro q; exact absurd (Value.type.inj q) (by decide))) h0 k, X.F.ns.at' fun o e => k _ _ nL e, X.F.L0⟩, cd := X.cd.but hI (fun vs n q => by rw [hd] at q; cases q) nD k }
theorem ASt.step (X : ASt prog w h₀ L D s2 kvs m h) (x : Ev h h') : ASt prog w h₀ L D s2 kvs m h' := { X with F := X.F.step x, cd := X.cd.stay x.keep }
theorem ASt.put (X : ASt prog w h₀ L D s2 kvs m h) (k : But D h h') (c : CD prog w h' D kvs') : ASt prog w h₀ L D s2 kvs' m h' := by
  refine hid fun Gx hGx => ?_
  obtain ⟨_, xs, ⟨o, es, ep, e, _, dd, _⟩, _⟩ := X.cd
  refine hGx ?_
  clear hGx Gx
  refine { X with F := ⟨X.F.ev.set e (.of_data fun vs => by rw [dd]; nofun) X.D0 k, X.F.ns.at' fun o e => k _ _ X.DL.symm e, X.F.L0⟩, cd := c }
end

theorem foldput_len (l : List (CK × Int)) : ∀ acc : List (CK × Int), (l.foldl (fun kvs p => putC p.1 p.2 kvs) acc).length ≤ acc.length + l.length := by
  induction l with
  | nil => intro acc; exact Nat.le_refl _
  | cons p l ih => intro acc; have := ih (putC p.1 p.2 acc); have := putC_len p.1 p.2 acc; simp only [List.foldl_cons, List.length_cons]; lia
theorem add1_len (acc : List (CK × Int)) (p : CK × Int) : (add1 acc p).length ≤ acc.length + 1 := by
  unfold add1; split <;> exact putC_len ..
theorem foldadd_len (l : List (CK × Int)) : ∀ acc : List (CK × Int), (l.foldl add1 acc).length ≤ acc.length + l.length := by
  induction l with
  | nil => intro acc; exact Nat.le_refl _
  | cons p l ih => intro acc; have := ih (add1 acc p); have := add1_len acc p; simp only [List.foldl_cons, List.length_cons]; lia

section
variable {prog : Program} {w : World} {A : Around} {s : Shared} {R : Result → Shared → Prop} {mg mb : Str → Option Value}
noncomputable abbrev envA (L c : Addr) : Env := newEnv dAC.scope L mainGlobals [] (("add_callers" : Str) ++ ".<locals>.") (some 63) (.ref c) none builtinsNs

/- D[k] = v -/
theorem cd_set {E : Value → Shared → Prop} {D a : Addr} {k : CK} {v : Int} {t : Tok} {kvs : List (CK × Int)} {Q : Unit → Shared → Prop} (hu : A.units + 1 < cLine) (X : CD prog w s.heap D kvs) (hk : (tupleKind (mixKind prog w)).is s.heap (ck k) a) (hl : kvs.length ≤ 2000)
    (h : ∀ h' tk, CD prog w h' D (putC k v kvs) → But D s.heap h' → Q () { s with heap := h', toks := tk }) : wpAny (model prog w) A (setItem (.ref D) (.ref a) (.int v t)) Q E s := by
  refine hid fun Gx hGx => ?_
  obtain ⟨hd, xs, hm, V⟩ := X
  refine hGx ?_
  clear hGx Gx
  have := V.length
  exact wpAny_setItem_heap (tupleKind_room_in1 hu) hk hm (fun h' hm' hs => h h' _ ⟨hd, _, hm', V.stored k a v t⟩ fun b o hb e => (hs.2 b hb).trans e) (by rw [sizeLine_eq]; lia)
end
end Mine
end

section
set_option maxHeartbeats 1000000
namespace Mine
open PySem PySem.W PyProof.Rows PySem.Calls
section
variable {prog : Program} {w : World} {A : Around} {s : Shared} {R : Result → Shared → Prop} {mg mb : Str → Option Value}

theorem CD.raw {h : Heap} {d : Addr} {kvs : List (CK × Int)} (X : CD prog w h d kvs) : (d == sysModules) = false ∧ ∃ (es : Array DictEntry) (ep : Nat), RawD h d es ep ∧ es.size = kvs.length ∧
    ∀ (i : Nat) (e : DictEntry), es[i]? = some e → ∃ k n a t, kvs[i]? = some (k, n) ∧ e.key = .ref a ∧ e.val = .int n t ∧ (tupleKind (mixKind prog w)).is h (ck k) a := by
  refine hid fun Gx hGx => ?_
  obtain ⟨hd, xs, ⟨o, es, ep, e, c, dd, l, ks, nd⟩, V⟩ := X
  refine hGx ?_
  clear hGx Gx
  have hsz : es.size = kvs.length := by rw [← Array.length_toList, l, List.length_map, V.length]
  refine ⟨hd, es, ep, ⟨o, e, c, dd⟩, hsz, fun i en hi => ?_⟩
  have hlt : i < kvs.length := by
    rcases Nat.lt_or_ge i kvs.length with q | q
    · exact q
    · rw [Array.getElem?_eq_none (by lia)] at hi; cases hi
  obtain ⟨⟨k, n⟩, hkv⟩ : ∃ p, kvs[i]? = some p := ⟨kvs[i], by simp [hlt]⟩
  obtain ⟨a, t, hx⟩ := V.get hkv
  have e2 : es[i]? = some (entryOfKey (tupleKind (mixKind prog w)) (ck k, a, .int n t)) := by rw [← Array.getElem?_toList, l, List.getElem?_map, hx]; rfl
  rw [e2] at hi; cases hi
  exact ⟨k, n, a, t, hkv, rfl, rfl, ks _ (List.mem_of_getElem? hx)⟩
theorem RawD.stay {h h' : Heap} (k : Stay h h') {d : Addr} {es : Array DictEntry} {ep : Nat} (x : RawD h d es ep) : RawD h' d es ep := (by obtain ⟨o, e, c, r⟩ := x; exact ⟨o, k _ _ e (not_tab (by rw [c.1]; nofun)), c, r⟩)

/- d.items() -/
theorem ev_items {E : Value → Shared → Prop} {env : Env} {x : Str} {p1 p2 p3 : Pos} {m : Str → Option Value} {d : Addr} {es : Array DictEntry} {ep : Nat} {Q : Value → Shared → Prop}
    (hn : s.heap.Ns env.locals m) (hx : m x = some (.ref d)) (hd : (d == sysModules) = false) (hm : RawD s.heap d es ep)
    (h : ∀ I h', (∀ b o, s.heap.get? b = some o → h'.get? b = some o) → s.heap.get? I = none → h'.get? I = some (itO .none false d 0 es.size ep .none .none) → Q (.ref I) { s with heap := h' })
    (h1 : env.scope.kind = .function := by rfl) (h2 : env.kindOf x = some .local := by rfl) (h3 : (x == ("__debug__" : Str)) = false := by decide +kernel)
    {pl : Sem Bool} (he : eval (.Call (.Attribute (.Name x p1) "items" p2) [] [] p3) env = (do
      let ov ← eval (.Name x p1) env
      standAt p2.atName
      let (f, first) ← holding [ov] (getMethod ov "items" pl)
      callWith p3 f first (backTo p3 (starEach [] env)) []) := by rfl) :
    wpAny (model prog w) A (eval (.Call (.Attribute (.Name x p1) "items" p2) [] [] p3) env) (fun v s₁ => wpAny (model prog w) A (pyIter v) Q E s₁) E s := by
  refine MethodCall_ (ldL hn hx (getMethod_builtin hm.typeIs PySem.F.plainAttrs_dict PySem.F.slot_dict_items PySem.F.type_dict_items (fun a q => by cases q; obtain ⟨o, e, c, _⟩ := hm; exact ⟨o, e, c.2.1⟩) (callWith_method0 (raw_items hd hm ?_))) h1 h2 h3) he
  have k : ∀ b o, s.heap.get? b = some o → (s.heap.push { cls := .type "dict_items", data := .fields #[.ref d] }).get? b = some o := fun b o e => Heap.get?_push_of_some _ e
  refine raw_iter_items ⟨_, Heap.get?_push_size _ rfl, rfl, rfl⟩ (hm.at fun o e => k _ _ e) ?_
  exact h _ _ (fun b o e => Heap.get?_push_of_some _ (k _ _ e)) (Heap.get?_none_of_le (by rw [Heap.size_push]; lia)) (Heap.get?_push_size _ rfl)

theorem ac_loop1 {L D d1 c : Addr} {h₀ : Heap} {s2 : Value} {g : Array GenState} {dr : Drawn} {os : OsState} {tgt : PySem.Expr} {it : PySem.Expr} {body : List Stmt} {pos : Pos} {kvs1 : List (CK × Int)} {E : Value → Shared → Prop} {Q : Flow → Shared → Prop}
    (hst : stAt dAC.body 1 = .For tgt it body [] pos) (hh : A.handled = none) (hu : A.units + 1 < cLine) (X1 : CD prog w h₀ d1 kvs1) (hb : kvs1.length ≤ 500)
    (hR : ∀ h tk m, ASt prog w h₀ L D s2 (kvs1.foldl (fun kvs p => putC p.1 p.2 kvs) []) m h → Q .next ⟨h, g, dr, tk, os⟩)
    {m : Str → Option Value} {h : Heap} {tk : Nat} (X : ASt prog w h₀ L D s2 [] m h) (mt : m "target" = some (.ref d1)) :
    wpAny (model prog w) A (exec (.For tgt it body [] pos) (envA L c)) Q E ⟨h, g, dr, tk, os⟩ := by
  have e : Stmt.For tgt it body [] pos = stAt dAC.body 1 := hst.symm
  cases e
  clear hst
  refine hid fun Gx hGx => ?_
  obtain ⟨hd, es, ep, hm, hsz, hes⟩ := X1.raw
  refine hGx ?_
  clear hGx Gx
  refine wpAny_For ?_
  refine ev_items X.F.ns mt hd (hm.stay X.F.ev.keep) fun I h₁ k₁ hI hit => ?_
  have X₁ := X.step (.of_keeps k₁)
  have hI0 : h₀.get? I = none := by
    cases q : h₀.get? I with
    | none => rfl
    | some o =>
      by_cases ht : IsTab o
      · obtain ⟨ps, rfl⟩ := ht
        obtain ⟨ps', e⟩ := X.F.ev.tab _ _ q
        rw [hI] at e; cases e
      · have := X.F.ev.keep _ _ q ht
        rw [hI] at this; cases this
  have hne : d1 ≠ I := fun q => by obtain ⟨o, e, _⟩ := hm; rw [q, hI0] at e; cases e
  have hdD : d1 ≠ D := fun q => by obtain ⟨o, e, _⟩ := hm; rw [q, X.D0] at e; cases e
  have hdL : d1 ≠ L := fun q => by obtain ⟨o, e, _⟩ := hm; rw [q, X.F.L0] at e; cases e
  refine for_items (ep := ep) hh hne (fun i h => ∃ m, ASt prog w h₀ L D s2 ((kvs1.take i).foldl (fun kvs p => putC p.1 p.2 kvs) []) m h) ?_ ?_ ?_ ?_ hit (hm.stay X₁.F.ev.keep) ⟨_, X₁⟩
  · rintro i h h' own f ok ov ⟨m, X⟩ hit k
    exact ⟨m, X.iter hit rfl rfl hI0 k⟩
  · rintro i h h' own f ok ov ⟨m, X⟩ hit k
    exact ⟨m, X.iter hit rfl rfl hI0 k⟩
  · rintro i h tk e T E hx hT ⟨ok, ov, hit⟩ hrd ⟨m, X⟩
    refine hid fun Gx hGx => ?_
    obtain ⟨k, n, a, t, hkv, e1, e2, hka⟩ := hes i e hx
    refine hGx ?_
    clear hGx Gx
    rw [e1, e2] at hT
    have nIL : I ≠ L := ns_ne X.F.ns hit nofun
    have nID : I ≠ D := fun q => by
      refine hid fun Gx hGx => ?_
      obtain ⟨_, xs, ⟨o, es, ep, e, c, dd, _⟩, _⟩ := X.cd
      refine hGx ?_
      clear hGx Gx
      rw [← q, hit] at e; cases e; cases dd
    refine assign_tup (items := #[.ref a, .int n t]) hh ⟨_, hT, rfl, _, rfl⟩ X.F.ns rfl rfl rfl (by intro y hy; simp only [List.mem_cons, List.not_mem_nil, or_false] at hy; rcases hy with rfl | rfl <;> rfl) rfl ?_
    intro h₂ tk₂ hn₂ k₂
    dsimp only at k₂ ⊢
    have X₂ := X.store k₂ hn₂ rfl rfl
    refine letQ ?_
    intro Qx Ex
    refine wpAny_execs_cons <| wpAny_Assign_Subscript <| ldL X₂.F.ns (by rfl) <| ldL X₂.F.ns X₂.mnew <| ldL X₂.F.ns (by rfl) <| cd_set (k := k) hu X₂.cd (tk_stay X₂.F.ev.keep hka) ?_ fun h₃ tk₃ c₃ k₃ => ?_
    · have := foldput_len (kvs1.take i) []
      rw [List.length_take] at this
      simp only [List.length_nil] at this
      lia
    dsimp only at c₃ k₃
    have et : (kvs1.take (i + 1)).foldl (fun kvs p => putC p.1 p.2 kvs) [] = putC k n ((kvs1.take i).foldl (fun kvs p => putC p.1 p.2 kvs) []) := by
      rw [List.take_add_one, hkv, List.foldl_append]; rfl
    have X₃ := X₂.put k₃ c₃
    rw [← et] at X₃
    exact wpAny_execs_nil ⟨h₃, tk₃, rfl, ⟨_, X₃⟩, fun o e => k₃ _ _ nID (k₂ _ _ nIL e), fun o e => k₃ _ _ hdD (k₂ _ _ hdL e)⟩
  · rintro h tk ⟨m, X⟩
    rw [hsz, List.take_length] at X
    exact hR h tk m X
end
end Mine
end

section
set_option maxHeartbeats 1000000
namespace Mine
open PySem PySem.W PyProof.Rows PySem.Calls
section
variable {prog : Program} {w : World} {A : Around} {s : Shared} {R : Result → Shared → Prop} {mg mb : Str → Option Value}

theorem Ev.none {h₀ h : Heap} (x : Ev h₀ h) {I : Addr} (hI : h.get? I = none) : h₀.get? I = none := by
  cases q : h₀.get? I with
  | none => rfl
  | some o =>
    by_cases ht : IsTab o
    · obtain ⟨ps, rfl⟩ := ht
      obtain ⟨ps', e⟩ := x.tab _ _ q
      rw [hI] at e; cases e
    · have := x.keep _ _ q ht
      rw [hI] at this; cases this

theorem ac_loop2 {L D d1 c : Addr} {h₀ : Heap} {g : Array GenState} {dr : Drawn} {os : OsState} {tgt : PySem.Expr} {it : PySem.Expr} {body : List Stmt} {pos : Pos} {kvs1 base : List (CK × Int)} {E : Value → Shared → Prop} {Q : Flow → Shared → Prop}
    (hst : stAt dAC.body 2 = .For tgt it body [] pos) (S : Stat w mg mb h₀) (hh : A.handled = none) (hu : A.units + 1 < cLine) (X1 : CD prog w h₀ d1 kvs1) (hb : kvs1.length ≤ 500) (hb' : base.length ≤ 500)
    (hR : ∀ h tk m, ASt prog w h₀ L D (.ref d1) (kvs1.foldl add1 base) m h → Q .next ⟨h, g, dr, tk, os⟩)
    {m : Str → Option Value} {h : Heap} {tk : Nat} (X : ASt prog w h₀ L D (.ref d1) base m h) :
    wpAny (model prog w) A (exec (.For tgt it body [] pos) (envA L c)) Q E ⟨h, g, dr, tk, os⟩ := by
  have e : Stmt.For tgt it body [] pos = stAt dAC.body 2 := hst.symm
  cases e
  clear hst
  refine hid fun Gx hGx => ?_
  obtain ⟨hd, es, ep, hm, hsz, hes⟩ := X1.raw
  refine hGx ?_
  clear hGx Gx
  refine wpAny_For ?_
  refine ev_items X.F.ns X.msrc hd (hm.stay X.F.ev.keep) fun I h₁ k₁ hI hit => ?_
  have X₁ := X.step (.of_keeps k₁)
  have hI0 : h₀.get? I = none := X.F.ev.none hI
  have hne : d1 ≠ I := fun q => by obtain ⟨o, e, _⟩ := hm; rw [q, hI0] at e; cases e
  have hdD : d1 ≠ D := fun q => by obtain ⟨o, e, _⟩ := hm; rw [q, X.D0] at e; cases e
  have hdL : d1 ≠ L := fun q => by obtain ⟨o, e, _⟩ := hm; rw [q, X.F.L0] at e; cases e
  refine for_items (ep := ep) hh hne (fun i h => ∃ m, ASt prog w h₀ L D (.ref d1) ((kvs1.take i).foldl add1 base) m h) ?_ ?_ ?_ ?_ hit (hm.stay X₁.F.ev.keep) ⟨_, X₁⟩
  · rintro i h h' own f ok ov ⟨m, X⟩ hit k
    exact ⟨m, X.iter hit rfl rfl hI0 k⟩
  · rintro i h h' own f ok ov ⟨m, X⟩ hit k
    exact ⟨m, X.iter hit rfl rfl hI0 k⟩
  · rintro i h tk e T E hx hT ⟨ok, ov, hit⟩ hrd ⟨m, X⟩
    refine hid fun Gx hGx => ?_
    obtain ⟨k, n, a, t, hkv, e1, e2, hka⟩ := hes i e hx
    refine hGx ?_
    clear hGx Gx
    rw [e1, e2] at hT
    have nIL : I ≠ L := ns_ne X.F.ns hit nofun
    have nID : I ≠ D := fun q => by
      refine hid fun Gx hGx => ?_
      obtain ⟨_, xs, ⟨o, es, ep, e, c, dd, _⟩, _⟩ := X.cd
      refine hGx ?_
      clear hGx Gx
      rw [← q, hit] at e; cases e; cases dd
    have hlen : ((kvs1.take i).foldl add1 base).length ≤ 2000 := by
      have := foldadd_len (kvs1.take i) base
      rw [List.length_take] at this
      lia
    have et : (kvs1.take (i + 1)).foldl add1 base = add1 ((kvs1.take i).foldl add1 base) (k, n) := by
      rw [List.take_add_one, hkv, List.foldl_append]; rfl
    rw [et]
    generalize (kvs1.take i).foldl add1 base = kvs at *
    refine assign_tup (items := #[.ref a, .int n t]) hh ⟨_, hT, rfl, _, rfl⟩ X.F.ns rfl rfl rfl (by intro y hy; simp only [List.mem_cons, List.not_mem_nil, or_false] at hy; rcases hy with rfl | rfl <;> rfl) rfl ?_
    intro h₂ tk₂ hn₂ k₂
    dsimp only at k₂ ⊢
    have X₂ := X.store k₂ hn₂ rfl rfl
    have hka₂ := tk_stay X₂.F.ev.keep hka
    have S₂ := S.stay X₂.F.ev.keep
    refine hid fun Gx hGx => ?_
    obtain ⟨hDs, xs, hm₂, V⟩ := id X₂.cd
    refine hGx ?_
    clear hGx Gx
    refine wpAny_execs_cons <| wpAny_If <| wpAny_isTrue_Compare1 <| ldL X₂.F.ns (by rfl) <| ldL X₂.F.ns X₂.mnew <| wpAny_in_heap (tupleKind_room_in1 hu) hka₂ hDs hm₂ <| wpAny_truthy_bool ?_
    unfold add1
    dsimp only
    cases hg : getC k kvs with
    | none =>
      rw [(V.at k).2 hg]
      simp only [Option.isSome_none, Bool.false_eq_true, if_false]
      refine wpAny_execs_cons <| wpAny_Assign_Subscript <| ldL X₂.F.ns (by rfl) <| ldL X₂.F.ns X₂.mnew <| ldL X₂.F.ns (by rfl) <| cd_set (k := k) hu X₂.cd hka₂ hlen fun h₃ tk₃ c₃ k₃ => ?_
      dsimp only at c₃ k₃
      have X₃ := X₂.put k₃ c₃
      exact wpAny_execs_nil <| wpAny_execs_nil ⟨h₃, tk₃, rfl, ⟨_, X₃⟩, fun o e => k₃ _ _ nID (k₂ _ _ nIL e), fun o e => k₃ _ _ hdD (k₂ _ _ hdL e)⟩
    | some n' =>
      obtain ⟨a', t', ha'⟩ := (V.at k).1 n' hg
      rw [ha']
      simp only [Option.isSome_some, if_true]
      refine wpAny_execs_cons <| wpAny_If <| wpAny_isTrue_value <| Call_ <| ldB S₂.g (g_isinstance S₂) S₂.b (b_isinstance S₂) <| PyProof.Rows.callWith_builtin1 <| wpAny_items_cons <| ldL X₂.F.ns (by rfl) <| wpAny_items_cons <| ldB S₂.g (g_tuple S₂) S₂.b (b_tuple S₂) <| wpAny_items_nil <| IsiPair.int_tuple <| wpAny_truthy_bool ?_
      simp only [Bool.false_eq_true, if_false]
      refine wpAny_execs_cons <| wpAny_AugAssign_Subscript <| ldL X₂.F.ns X₂.mnew <| ldL X₂.F.ns (by rfl) <| wpAny_getItem_heap (tupleKind_room_in1 hu) hka₂ hm₂ ha' <| ldL X₂.F.ns (by rfl) <| PySem.P.iadd_int <| cd_set (k := k) hu X₂.cd hka₂ hlen fun h₃ tk₃ c₃ k₃ => ?_
      dsimp only at c₃ k₃
      have X₃ := X₂.put k₃ c₃
      exact wpAny_execs_nil <| wpAny_execs_nil <| wpAny_execs_nil ⟨h₃, tk₃, rfl, ⟨_, X₃⟩, fun o e => k₃ _ _ nID (k₂ _ _ nIL e), fun o e => k₃ _ _ hdD (k₂ _ _ hdL e)⟩
  · rintro h tk ⟨m, X⟩
    rw [hsz, List.take_length] at X
    exact hR h tk m X

theorem ac_ct {d1 d2 : Addr} {k1 k2 : List (CK × Int)} (S : Stat w mg mb s.heap) (X1 : CD prog w s.heap d1 k1) (X2 : CD prog w s.heap d2 k2) (h1 : k1.length ≤ 500) (h2 : k2.length ≤ 500) (hroom : A.depth < recursionLimit) (hh : A.handled = none) (hu : A.units + 4 < cLine)
    (h : ∀ d h' tk, Ev s.heap h' → s.heap.get? d = none → CD prog w h' d (addC k1 k2) → R (.ok (.ret (.ref d))) { s with heap := h', toks := tk }) :
    codeAny (model prog w) A (.call (.ref 63) ⟨[.ref d1, .ref d2], []⟩) R s := by
  refine hid fun Gx hGx => ?_
  obtain ⟨h₀, g, dr, tk, os⟩ := s
  refine hGx ?_
  clear hGx Gx
  dsimp only at *
  refine hid fun Gx hGx => ?_
  obtain ⟨pm, c, ct, hK, hC⟩ := K63 w.params
  refine hGx ?_
  clear hGx Gx
  refine codeAny_call_def hroom (S.K _ _ hK) rfl S.nl (codeRec_of S.K hC) rfl (BindsTo.of_eq (binds := [(("target" : Str), .ref d1), (("source" : Str), .ref d2)]) rfl) (show ∀ x ∈ dAC.scope.names, x.2 ≠ .cell by decide +kernel)
    (by intro y hy; simp only [List.mem_cons, List.not_mem_nil, or_false] at hy; rcases hy with rfl | rfl <;> rfl) ?_ rfl rfl rfl
  intro h₁ hn k₁
  have hL0 : h₀.get? h₀.objs.size = none := Heap.get?_none_of_le (Nat.le_refl _)
  show wpAny _ (A.deeper (envA h₀.objs.size c)) (execs dAC.body (envA h₀.objs.size c)) _ _ _
  dsimp only at *
  have F : Fm h₀ h₀.objs.size _ h₁ := ⟨.of_keeps k₁, hn, hL0⟩
  have h63 : 63 < h₀.objs.size := Heap.lt_size (S.K _ _ hK)
  clear hn k₁
  generalize h₀.objs.size = L at *
  generalize hA : A.deeper (envA L c) = A'
  have hh' : A'.handled = none := by rw [← hA]; exact hh
  have hu' : A'.units + 1 < cLine := by rw [← hA]; exact hu
  clear hA
  refine letQ ?_
  intro Qx Ex
  refine wpAny_execs_cons <| wpAny_Assign_Name <| wpAny_Dict_empty ?_
  dsimp only
  have hD0 : h₀.get? h₁.objs.size = none := F.ev.fresh (Nat.le_refl _)
  have kp : ∀ b o, h₁.get? b = some o → (h₁.push { cls := .type "dict", data := .dict #[] }).get? b = some o := fun b o e => Heap.get?_push_of_some _ e
  have hLD : L < h₁.objs.size := F.ns.lt
  have cd : CD prog w (h₁.push { cls := .type "dict", data := .dict #[] }) h₁.objs.size [] := ⟨by
    have : h₁.objs.size ≠ sysModules := by intro q; rw [q] at hLD; have : L < 1 := hLD; lia
    simpa using this, [], Heap.DictOfH.new _, .nil⟩
  have F₂ := F.keeps kp
  generalize h₁.push { cls := .type "dict", data := .dict #[] } = h₂ at *
  generalize h₁.objs.size = D at *
  clear kp F
  refine wpAny_storeName_local rfl F₂.ns (fun h₃ hn₃ hs₃ => ?_) rfl
  dsimp only at hs₃ ⊢
  have k₃ : But L h₂ h₃ := fun b o hb e => (hs₃.2 b hb).trans e
  have DL : D ≠ L := Nat.ne_of_gt hLD
  have X : ASt prog w h₀ L D (.ref d2) [] _ h₃ := { F := F₂.store k₃ hn₃, cd := cd.butNs F₂.ns DL k₃, D0 := hD0, DL, mnew := by rfl, msrc := by rfl }
  refine wpAny_execs_cons <| ac_loop1 rfl hh' hu' X1 h1 ?_ X (by rfl)
  intro h₄ tk₄ m₄ X₄
  refine wpAny_execs_cons <| ac_loop2 rfl S hh' hu' X2 h2 ?_ ?_ X₄
  · have := foldput_len k1 []
    simp only [List.length_nil] at this
    lia
  intro h₅ tk₅ m₅ X₅
  refine wpAny_execs_cons <| wpAny_Return_some <| ldL X₅.F.ns X₅.mnew ?_
  exact h D _ _ X₅.F.ev X₅.D0 X₅.cd
end
end Mine
end

section
set_option maxHeartbeats 1000000
namespace Mine
open PySem PySem.W PyProof.Rows PySem.Calls

theorem K70 (P : Params) : ∃ pm c ct, (KF P).lookup 70 = some (fnObj (fnAny "count_calls" "count_calls" dCC.params (.stmts dCC.body) dCC.scope [] .none .none pm (.ref c) ct)) ∧ codeIn (KF P) (.ref c) "count_calls" = true := ⟨_, _, _, rfl, by kernel_rfl⟩
theorem K56 (P : Params) : ∃ pm c ct, (KF P).lookup 56 = some (fnObj (fnAny "add_func_stats" "add_func_stats" dAFS.params (.stmts dAFS.body) dAFS.scope [] .none .none pm (.ref c) ct)) ∧ codeIn (KF P) (.ref c) "add_func_stats" = true := ⟨_, _, _, rfl, by kernel_rfl⟩
noncomputable def sumI (l : List Int) : Int := l.foldl (· + ·) 0

section
variable {prog : Program} {w : World} {A : Around} {s : Shared} {R : Result → Shared → Prop} {mg mb : Str → Option Value}
noncomputable abbrev envCC (L c : Addr) : Env := newEnv dCC.scope L mainGlobals [] (("count_calls" : Str) ++ ".<locals>.") (some 70) (.ref c) none builtinsNs
noncomputable abbrev envF (L c : Addr) : Env := newEnv dAFS.scope L mainGlobals [] (("add_func_stats" : Str) ++ ".<locals>.") (some 56) (.ref c) none builtinsNs

theorem cc_ct {d : Addr} {kvs : List (CK × Int)} (S : Stat w mg mb s.heap) (X1 : CD prog w s.heap d kvs) (hroom : A.depth < recursionLimit) (hh : A.handled = none)
    (h : ∀ t h' tk, Ev s.heap h' → R (.ok (.ret (.int (sumI (kvs.map (·.2))) t))) { s with heap := h', toks := tk }) :
    codeAny (model prog w) A (.call (.ref 70) ⟨[.ref d], []⟩) R s := by
  refine hid fun Gx hGx => ?_
  obtain ⟨h₀, g, dr, tk, os⟩ := s
  refine hGx ?_
  clear hGx Gx
  dsimp only at *
  refine hid fun Gx hGx => ?_
  obtain ⟨pm, c, ct, hK, hC⟩ := K70 w.params
  refine hGx ?_
  clear hGx Gx
  refine codeAny_call_def hroom (S.K _ _ hK) rfl S.nl (codeRec_of S.K hC) rfl (BindsTo.of_eq (binds := [(("callers" : Str), .ref d)]) rfl) (show ∀ x ∈ dCC.scope.names, x.2 ≠ .cell by decide +kernel)
    (by intro y hy; simp only [List.mem_cons, List.not_mem_nil, or_false] at hy; rcases hy with rfl; rfl) ?_ rfl rfl rfl
  intro h₁ hn k₁
  have hL0 : h₀.get? h₀.objs.size = none := Heap.get?_none_of_le (Nat.le_refl _)
  show wpAny _ (A.deeper (envCC h₀.objs.size c)) (execs dCC.body (envCC h₀.objs.size c)) _ _ _
  dsimp only at *
  have F : Fm h₀ h₀.objs.size _ h₁ := ⟨.of_keeps k₁, hn, hL0⟩
  clear hn k₁
  generalize h₀.objs.size = L at *
  generalize hA : A.deeper (envCC L c) = A'
  have hh' : A'.handled = none := by rw [← hA]; exact hh
  clear hA
  refine wpAny_execs_cons <| wpAny_Assign_Name <| wpAny_Constant_int ?_
  refine wpAny_storeName_local rfl F.ns (fun h₂ hn₂ hs₂ => ?_) rfl
  dsimp only at hs₂ ⊢
  have F₂ := F.store (fun b o hb e => (hs₂.2 b hb).trans e) hn₂
  clear hs₂ hn₂ F
  refine hid fun Gx hGx => ?_
  obtain ⟨hd, es, ep, hm, hsz, hes⟩ := X1.raw
  refine hGx ?_
  clear hGx Gx
  have hm₂ := hm.stay F₂.ev.keep
  refine wpAny_execs_cons <| wpAny_For <| MethodCall_ (ldL F₂.ns (by rfl) (getMethod_builtin (v := .ref d) hm₂.typeIs PySem.F.plainAttrs_dict PySem.F.slot_dict_values PySem.F.type_dict_values (fun a q => by cases q; obtain ⟨o, e, c, _⟩ := hm₂; exact ⟨o, e, c.2.1⟩) (callWith_method0 (raw_values hd hm₂ ?_))))
  have kp : ∀ b o, h₂.get? b = some o → (h₂.push { cls := .type "dict_values", data := .fields #[.ref d] }).get? b = some o := fun b o e => Heap.get?_push_of_some _ e
  dsimp only
  refine raw_iter_values ⟨_, Heap.get?_push_size _ rfl, rfl, rfl⟩ (hm₂.at fun o e => kp _ _ e) ?_
  dsimp only
  generalize hv : h₂.push { cls := .type "dict_values", data := .fields #[.ref d] } = h₃ at *
  clear hv
  have k₄ : ∀ b o, h₃.get? b = some o → (h₃.push { cls := .type "dict_valueiterator", data := .fields #[.ref d, .int 0 0, .int es.size 0, .int ep 0] }).get? b = some o := fun b o e => Heap.get?_push_of_some _ e
  have hI : (h₃.push { cls := .type "dict_valueiterator", data := .fields #[.ref d, .int 0 0, .int es.size 0, .int ep 0] }).IsValIter h₃.objs.size d 0 es.size ep := ⟨_, Heap.get?_push_size _ rfl, rfl, rfl⟩
  have F₃ := F₂.keeps kp
  have hI0 : h₀.get? h₃.objs.size = none := F₃.ev.fresh (Nat.le_refl _)
  have F₄ := F₃.keeps k₄
  generalize h₃.push { cls := .type "dict_valueiterator", data := .fields #[.ref d, .int 0 0, .int es.size 0, .int ep 0] } = h₄ at *
  generalize h₃.objs.size = I at *
  have hne : d ≠ I := fun q => by obtain ⟨o, e, _⟩ := hm; rw [q, hI0] at e; cases e
  have hdL : d ≠ L := fun q => by obtain ⟨o, e, _⟩ := hm; rw [q, hL0] at e; cases e
  clear kp k₄ F₃ F₂ hm₂
  refine for_walk (walks_values hh' I d hne es ep) (fun i h => ∃ m t, Fm h₀ L m h ∧ m "nc" = some (.int (sumI ((kvs.take i).map (·.2))) t)) ?_ ?_ ?_ ⟨hI, hm.stay F₄.ev.keep⟩ ⟨_, _, F₄, rfl⟩
  · rintro i h h' ⟨m, t, F, a⟩ ⟨⟨oI, eI, hc, hd⟩, _⟩ k
    have k' : But I h h' := fun b o hb e => k b o (fun q => hb (List.mem_singleton.mp q)) e
    have nL : L ≠ I := (ns_ne F.ns eI (by rw [hd]; nofun)).symm
    exact ⟨m, t, ⟨F.ev.set eI (.of_cls (by rw [hc]; nofun) (by rw [hc]; intro q; exact absurd (Value.type.inj q) (by decide))) hI0 k', F.ns.at' fun o e => k' _ _ nL e, F.L0⟩, a⟩
  · rintro i h tk v E hi ⟨e, hx, rfl⟩ st invX
    refine hid fun Gx hGx => ?_
    obtain ⟨m, t, F, mn⟩ := invX
    refine hGx ?_
    clear hGx Gx
    refine letGo_valiter st.1 ?_
    refine hid fun Gx hGx => ?_
    obtain ⟨k, n, a, t', hkv, e1, e2, _⟩ := hes i e hx
    refine hGx ?_
    clear hGx Gx
    rw [e2]
    have nIL : I ≠ L := by obtain ⟨oI, eI, hc, hd⟩ := st.1; exact ns_ne F.ns eI (by rw [hd]; nofun)
    refine wpAny_assign_Name <| wpAny_storeName_local rfl F.ns (fun h₁ hn₁ hs₁ => ?_) rfl
    dsimp only at hs₁ ⊢
    have k₁ : But L h h₁ := fun b o hb e => (hs₁.2 b hb).trans e
    have F₁ := F.store k₁ hn₁
    refine wpAny_execs_cons <| wpAny_AugAssign_Name <| wpAny_loadName_local rfl rfl F₁.ns (by exact mn) <| ldL F₁.ns (by rfl) <| PySem.P.iadd_int ?_
    refine wpAny_storeName_local rfl F₁.ns (fun h₂ hn₂ hs₂ => ?_) rfl
    dsimp only at hs₂ ⊢
    have k₂ : But L h₁ h₂ := fun b o hb e => (hs₂.2 b hb).trans e
    have F₂ := F₁.store k₂ hn₂
    have es' : sumI ((kvs.take (i + 1)).map (·.2)) = sumI ((kvs.take i).map (·.2)) + n := by
      rw [List.take_add_one, hkv]; unfold sumI; rw [List.map_append, List.foldl_append]; rfl
    rw [es']
    refine wpAny_execs_nil ⟨h₂, _, rfl, ⟨_, _, F₂, by rfl⟩, fun b hb o e => ?_⟩
    have : b ≠ L := by
      simp only [List.mem_cons, List.not_mem_nil, or_false] at hb
      rcases hb with rfl | rfl
      · exact nIL
      · exact hdL
    exact k₂ _ _ this (k₁ _ _ this e)
  · rintro h' tk' invX
    refine hid fun Gx hGx => ?_
    obtain ⟨m, t, F, mn⟩ := invX
    refine hGx ?_
    clear hGx Gx
    rw [hsz, List.take_length] at mn
    refine wpAny_execs_cons <| wpAny_Return_some <| ldL F.ns mn ?_
    exact h _ _ _ F.ev
end
end Mine
end

section
set_option maxHeartbeats 1000000
namespace Mine
open PySem PySem.W PyProof.Rows PySem.Calls

/- a ledger: four ints and a table of callers -/
noncomputable def Led (prog : Program) (w : World) (h : Heap) (v : Value) (a b c e : Int) (d : Addr) (kvs : List (CK × Int)) : Prop :=
  ∃ t n u1 u2 u3 u4, v = .ref t ∧ h.get? t = some { cls := .type "tuple", data := .seq #[.int a u1, .int b u2, .int c u3, .int e u4, .ref d] n } ∧ CD prog w h d kvs
theorem Led.stay {prog : Program} {w : World} {h h' : Heap} (k : Stay h h') {v : Value} {a b c e : Int} {d : Addr} {kvs : List (CK × Int)} (X : Led prog w h v a b c e d kvs) : Led prog w h' v a b c e d kvs := by
  refine hid fun Gx hGx => ?_
  obtain ⟨t, n, u1, u2, u3, u4, r, ht, cd⟩ := X
  refine hGx ?_
  clear hGx Gx
  exact ⟨t, n, u1, u2, u3, u4, r, k _ _ ht (not_tab nofun), cd.stay k⟩

section
variable {prog : Program} {w : World} {A : Around} {s : Shared} {R : Result → Shared → Prop} {mg mb : Str → Option Value}

theorem afs_ct {tv sv : Value} {a b c e a' b' c' e' : Int} {d1 d2 : Addr} {k1 k2 : List (CK × Int)} (S : Stat w mg mb s.heap) (X1 : Led prog w s.heap tv a b c e d1 k1) (X2 : Led prog w s.heap sv a' b' c' e' d2 k2) (h1 : k1.length ≤ 500) (h2 : k2.length ≤ 500) (hroom : A.depth + 1 < recursionLimit) (hh : A.handled = none) (hu : A.units + 7 < cLine)
    (h : ∀ v d h' tk, Ev s.heap h' → s.heap.get? d = none → Led prog w h' v (a' + a) (b' + b) (c' + c) (e' + e) d (addC k1 k2) → R (.ok (.ret v)) { s with heap := h', toks := tk }) :
    codeAny (model prog w) A (.call (.ref 56) ⟨[tv, sv], []⟩) R s := by
  refine hid fun Gx hGx => ?_
  obtain ⟨h₀, g, dr, tk, os⟩ := s
  refine hGx ?_
  clear hGx Gx
  dsimp only at *
  refine hid fun Gx hGx => ?_
  obtain ⟨pm, cd, ct, hK, hC⟩ := K56 w.params
  refine hGx ?_
  clear hGx Gx
  refine codeAny_call_def (Nat.lt_of_succ_lt hroom) (S.K _ _ hK) rfl S.nl (codeRec_of S.K hC) rfl (BindsTo.of_eq (binds := [(("target" : Str), tv), (("source" : Str), sv)]) rfl) (show ∀ x ∈ dAFS.scope.names, x.2 ≠ .cell by decide +kernel)
    (by intro y hy; simp only [List.mem_cons, List.not_mem_nil, or_false] at hy; rcases hy with rfl | rfl <;> rfl) ?_ rfl rfl rfl
  intro h₁ hn k₁
  have hL0 : h₀.get? h₀.objs.size = none := Heap.get?_none_of_le (Nat.le_refl _)
  show wpAny _ (A.deeper (envF h₀.objs.size cd)) (execs dAFS.body (envF h₀.objs.size cd)) _ _ _
  dsimp only at *
  have F : Fm h₀ h₀.objs.size _ h₁ := ⟨.of_keeps k₁, hn, hL0⟩
  clear hn k₁
  generalize h₀.objs.size = L at *
  generalize hA : A.deeper (envF L cd) = A'
  have hh' : A'.handled = none := by rw [← hA]; exact hh
  have hroom' : A'.depth < recursionLimit := by rw [← hA]; exact hroom
  have hu' : A'.units + 4 < cLine := by rw [← hA]; exact hu
  clear hA
  refine hid fun Gx hGx => ?_
  obtain ⟨t1, n1, u1, u2, u3, u4, rfl, ht1, cd1⟩ := X1
  obtain ⟨t2, n2, v1, v2, v3, v4, rfl, ht2, cd2⟩ := X2
  refine hGx ?_
  clear hGx Gx
  refine letQ ?_
  intro Qx Ex
  refine wpAny_execs_cons (Assign_Tuple (ldL F.ns (by rfl) ?_))
  refine assign_tup (items := #[.int a' v1, .int b' v2, .int c' v3, .int e' v4, .ref d2]) hh' ⟨_, F.ev.keep _ _ ht2 (not_tab nofun), rfl, _, rfl⟩ F.ns rfl rfl rfl (by intro y hy; simp only [List.mem_cons, List.not_mem_nil, or_false] at hy; rcases hy with rfl | rfl | rfl | rfl | rfl <;> rfl) rfl ?_
  intro h₂ tk₂ hn₂ k₂
  dsimp only at k₂ ⊢
  have F₂ := F.store k₂ hn₂
  refine wpAny_execs_cons (Assign_Tuple (ldL F₂.ns (by rfl) ?_))
  refine assign_tup (items := #[.int a u1, .int b u2, .int c u3, .int e u4, .ref d1]) hh' ⟨_, F₂.ev.keep _ _ ht1 (not_tab nofun), rfl, _, rfl⟩ F₂.ns rfl rfl rfl (by intro y hy; simp only [List.mem_cons, List.not_mem_nil, or_false] at hy; rcases hy with rfl | rfl | rfl | rfl | rfl <;> rfl) rfl ?_
  intro h₃ tk₃ hn₃ k₃
  dsimp only at k₃ ⊢
  have F₃ := F₂.store k₃ hn₃
  clear k₂ k₃ hn₂ hn₃ F F₂
  have S₃ := S.stay F₃.ev.keep
  refine hid fun Gx hGx => ?_
  obtain ⟨pm', c', ct', hK', hC'⟩ := K63 w.params
  refine hGx ?_
  clear hGx Gx
  refine wpAny_execs_cons <| wpAny_Return_some <| wpAny_Tuple <| wpAny_items_cons <| wpAny_BinOp <| ldL F₃.ns (by rfl) <| ldL F₃.ns (by rfl) <| wpAny_add_int <| wpAny_items_cons <| wpAny_BinOp <| ldL F₃.ns (by rfl) <| ldL F₃.ns (by rfl) <| wpAny_add_int <|
    wpAny_items_cons <| wpAny_BinOp <| ldL F₃.ns (by rfl) <| ldL F₃.ns (by rfl) <| wpAny_add_int <| wpAny_items_cons <| wpAny_BinOp <| ldL F₃.ns (by rfl) <| ldL F₃.ns (by rfl) <| wpAny_add_int ?_
  refine wpAny_items_cons <| Call_ <| ldG S₃.g (g_ac S₃) <| callWith_def (o := fnObj (fnAny "add_callers" "add_callers" dAC.params (.stmts dAC.body) dAC.scope [] .none .none pm' (.ref c') ct')) rfl <|
    wpAny_items_cons <| ldL F₃.ns (by rfl) <| wpAny_items_cons <| ldL F₃.ns (by rfl) <| wpAny_items_nil ⟨S₃.K _ _ hK', wpAny_call ?_⟩
  refine ac_ct S₃ (cd1.stay F₃.ev.keep) (cd2.stay F₃.ev.keep) h1 h2 hroom' hh' hu' fun d h₄ tk₄ x₄ hd₄ cd₄ => ?_
  dsimp only at x₄ ⊢
  refine wpAny_items_nil ⟨szl, ?_⟩
  dsimp only
  refine h _ d _ _ ((F₃.ev.trans x₄).trans (.push _)) (F₃.ev.none hd₄) ⟨_, 0, _, _, _, _, rfl, Heap.get?_push_size _ rfl, cd₄.stay (Ev.push _).keep⟩
end
end Mine
end

section
set_option maxHeartbeats 1000000
namespace Mine
open PySem PySem.W PyProof.Rows PySem.Calls

theorem K98 (P : Params) : ∃ pm c ct, (KF P).lookup 98 = some (fnObj (fnAny "_law_summed" "_law_summed" dSum.params (.stmts dSum.body) dSum.scope [] .none .none pm (.ref c) ct)) ∧ codeIn (KF P) (.ref c) "_law_summed" = true := ⟨_, _, _, rfl, by kernel_rfl⟩

structure Sm where
  a : Int
  b : Int
  c : Int
  e : Int
  kvs : List (CK × Int)
noncomputable def sm1 (words : List Str) (s : Sm) (x : List Int) : Sm :=
  ⟨(if 1 < x.getD 2 0 then 1 else x.getD 2 0) + s.a, 1 + s.b, x.getD 2 0 + s.c, x.getD 2 0 * x.getD 2 0 + s.e, addC s.kvs [((x.getD 0 0, words.getD (x.getD 3 0).toNat ""), 1)]⟩
noncomputable def smAll (words : List Str) (xs : List (List Int)) : Sm := xs.foldl (sm1 words) ⟨0, 0, 0, 0, []⟩
noncomputable def HitOk (n : Nat) (x : List Int) : Prop := ∃ l f z k : Int, x = [l, f, z, k] ∧ 0 ≤ z ∧ z < 2 ^ 20 ∧ 0 ≤ k ∧ k < n

theorem addC_len (k1 k2 : List (CK × Int)) : (addC k1 k2).length ≤ k1.length + k2.length := by
  unfold addC
  have h1 := foldadd_len k2 (k1.foldl (fun kvs p => putC p.1 p.2 kvs) [])
  have h2 := foldput_len k1 []
  simp only [List.length_nil] at h2
  lia
theorem sm_len (words : List Str) (xs : List (List Int)) : (smAll words xs).kvs.length ≤ xs.length := by
  unfold smAll
  suffices H : ∀ (xs : List (List Int)) (s : Sm), (xs.foldl (sm1 words) s).kvs.length ≤ s.kvs.length + xs.length by simpa using H xs ⟨0, 0, 0, 0, []⟩
  intro xs
  induction xs with
  | nil => intro s; exact Nat.le_refl _
  | cons x xs ih =>
    intro s
    have h1 := ih (sm1 words s x)
    have h2 : (sm1 words s x).kvs.length ≤ s.kvs.length + 1 := addC_len _ _
    simp only [List.foldl_cons, List.length_cons]; lia

section
variable {prog : Program} {w : World} {A : Around} {s : Shared} {R : Result → Shared → Prop} {mg mb : Str → Option Value}
noncomputable abbrev envSm (L c : Addr) : Env := newEnv dSum.scope L mainGlobals [] (("_law_summed" : Str) ++ ".<locals>.") (some 98) (.ref c) none builtinsNs

/- {(page, line, word): 1} -/
theorem ev_one {E : Value → Shared → Prop} {env : Env} {m : Str → Option Value} {r : Addr} {vs : List Value} {words : List Str} {l : Int} {k : Nat} {ul uk : Tok} {wd : Str} {q1 q2 q3 q4 q5 q6 q7 q8 : Pos} {kd1 kd2 kd3 : Nat} {Q : Value → Shared → Prop}
    (hs0 : 1 < s.heap.objs.size) (hu : A.units + 1 < cLine) (hn : s.heap.Ns env.locals m) (hx : m "words" = some (.ref r)) (hy : m "number" = some (.int k uk)) (hz : m "line" = some (.int l ul)) (hl : s.heap.IsList r vs.toArray) (hs : StrsAre vs words) (hk : words[k]? = some wd) (hb : k < 2 ^ 20)
    (h : ∀ d h' tk, (∀ b o, s.heap.get? b = some o → h'.get? b = some o) → s.heap.get? d = none → CD prog w h' d [((l, wd), 1)] → Q (.ref d) { s with heap := h', toks := tk })
    (h1 : env.scope.kind = .function := by rfl) (h2 : env.kindOf "words" = some .local := by rfl) (h4 : env.kindOf "number" = some .local := by rfl) (h5 : env.kindOf "line" = some .local := by rfl)
    (h6 : ∀ i, subscripted (.Name "number" q2) false (.ref r) i = operate [.ref r, i] (getItem (.ref r) i) := by intro i; with_unfolding_all rfl)
    (h7 : starEach [.Constant (.str "page") kd1 q4, .Name "line" q5, .Subscript (.Name "words" q1) (.Name "number" q2) q3] env = (false, eval (.Constant (.str "page") kd1 q4) env) :: starEach [.Name "line" q5, .Subscript (.Name "words" q1) (.Name "number" q2) q3] env := by rfl)
    (h8 : starEach [.Name "line" q5, .Subscript (.Name "words" q1) (.Name "number" q2) q3] env = (false, eval (.Name "line" q5) env) :: starEach [.Subscript (.Name "words" q1) (.Name "number" q2) q3] env := by rfl)
    (h9 : starEach [.Subscript (.Name "words" q1) (.Name "number" q2) q3] env = (false, eval (.Subscript (.Name "words" q1) (.Name "number" q2) q3) env) :: starEach [] env := by rfl) :
    wpAny (model prog w) A (eval (.Dict [some (.Tuple [.Constant (.str "page") kd1 q4, .Name "line" q5, .Subscript (.Name "words" q1) (.Name "number" q2) q3] kd2 q6)] [.Constant (.int 1) kd3 q7] q8) env) Q E s := by
  refine hid fun Gx hGx => ?_
  obtain ⟨h₀, g, dr, tk, os⟩ := s
  refine hGx ?_
  clear hGx Gx
  dsimp only at *
  refine wpAny_Dict_any rfl rfl (by intro q; cases q) (show 1 ≤ 15 by decide) ?_
  dsimp only
  have k₁ : ∀ b o, h₀.get? b = some o → (h₀.push { cls := .type "dict", data := .dict #[] }).get? b = some o := fun b o e => Heap.get?_push_of_some _ e
  have hD : (h₀.push { cls := .type "dict", data := .dict #[] }).DictOfH (tupleKind (mixKind prog w)) h₀.objs.size [] := Heap.DictOfH.new _
  have hD0 : h₀.get? h₀.objs.size = none := Heap.get?_none_of_le (Nat.le_refl _)
  have hds : (h₀.objs.size == sysModules) = false := by
    have : h₀.objs.size ≠ sysModules := by intro q; rw [q] at hs0; exact absurd hs0 (by decide)
    simpa using this
  generalize h₀.push { cls := .type "dict", data := .dict #[] } = hp at *
  generalize h₀.objs.size = d at *
  refine evalPairs_cons ?_
  refine wpAny_Tuple <| wpAny_items_cons (he := h7) <| wpAny_Constant_str <| wpAny_items_cons (he := h8) <| ldL (hn.keeps k₁) hz ?_ h1 h5
  refine wpAny_items_cons (he := h9) <| ev_row (hn.keeps k₁) hx hy (IsList.stay (keeps_stay k₁) hl) hs hk hb (fun t' => wpAny_items_nil ⟨szl, ?_⟩) h1 h2 (by decide +kernel) h4 (by decide +kernel) h6
  dsimp only
  have k₂ : ∀ b o, hp.get? b = some o → (hp.push { cls := .type "tuple", data := .seq [.str "page" tk, .int l ul, .str wd t'].toArray }).get? b = some o := fun b o e => Heap.get?_push_of_some _ e
  have hT : (tupleKind (mixKind prog w)).is (hp.push { cls := .type "tuple", data := .seq [.str "page" tk, .int l ul, .str wd t'].toArray }) (ck (l, wd)) hp.objs.size :=
    ⟨_, _, _, Heap.get?_push_size _ rfl, rfl, rfl, .cons (by simp [mixKind, mixIs, Value.isStrOf]) (.cons (by simp [mixKind, mixIs, Value.isInt]) (.cons (by simp [mixKind, mixIs, Value.isStrOf]) .nil))⟩
  have hD₂ : (hp.push { cls := .type "tuple", data := .seq [.str "page" tk, .int l ul, .str wd t'].toArray }).DictOfH (tupleKind (mixKind prog w)) d [] := by
    refine hid fun Gx hGx => ?_
    obtain ⟨o, es, ep, e, c, dd, r1, r2, r3⟩ := hD
    refine hGx ?_
    clear hGx Gx
    exact ⟨o, es, ep, k₂ _ _ e, c, dd, r1, fun x hx => (by cases hx), r3⟩
  generalize hp.push { cls := .type "tuple", data := .seq [.str "page" tk, .int l ul, .str wd t'].toArray } = hq at *
  refine wpAny_bind <| wpAny_Constant_int <| wpAny_bind <| wpAny_standAt <| wpAny_pure <| evalPairs_nil ?_
  unfold storeAll
  rw [List.forIn_cons]
  refine wpAny_bind <| wpAny_bind <| wpAny_dictSet_heap (knd := tupleKind (mixKind prog w)) (k := ck (l, wd)) (Nat.lt_of_succ_lt hu) hT hD₂ (fun h' hm' hs' => ?_) (by show 0 ≤ sizeLine; exact Nat.zero_le _)
  refine wpAny_pure ?_
  dsimp only
  rw [List.forIn_nil]
  refine wpAny_pure ?_
  refine h d _ _ (fun b o e => (hs'.2 b (fun q => by rw [q, hD0] at e; cases e)).trans (k₂ _ _ (k₁ _ _ e))) hD0 ⟨hds, _, hm', ?_⟩
  exact CVals.nil.stored (l, wd) _ 1 _
end
end Mine
end

section
set_option maxHeartbeats 1000000
namespace Mine
open PySem PySem.W PyProof.Rows PySem.Calls
section
variable {prog : Program} {w : World} {A : Around} {s : Shared} {R : Result → Shared → Prop} {mg mb : Str → Option Value}

noncomputable def LedS (prog : Program) (w : World) (h : Heap) (v : Value) (d : Addr) (q : Sm) : Prop := Led prog w h v q.a q.b q.c q.e d q.kvs
theorem Led.but {h h' : Heap} {x : Addr} {ox : Obj} (hox : h.get? x = some ox) (hs : ∀ vs n, ox.data ≠ .seq vs n) (k : But x h h') {v : Value} {a b c e : Int} {d : Addr} {kvs : List (CK × Int)} (hd : d ≠ x) (X : Led prog w h v a b c e d kvs) : Led prog w h' v a b c e d kvs := by
  refine hid fun Gx hGx => ?_
  obtain ⟨t, n, u1, u2, u3, u4, r, ht, cd⟩ := X
  refine hGx ?_
  clear hGx Gx
  exact ⟨t, n, u1, u2, u3, u4, r, k _ _ (fun q => by rw [q, hox] at ht; cases ht; exact hs _ _ rfl) ht, cd.but hox hs hd k⟩

theorem sum_ct {r l : Addr} {vs : List Value} {words : List Str} {xs : List (List Int)} (S : Stat w mg mb s.heap) (X : LT s.heap l xs) (hl : s.heap.IsList r vs.toArray) (hs : StrsAre vs words) (hw : words.length < 2 ^ 20) (hok : ∀ x ∈ xs, HitOk words.length x) (hb : xs.length ≤ 60)
    (hroom : A.depth + 2 < recursionLimit) (hh : A.handled = none) (hu : A.units + 10 < cLine)
    (h : ∀ v d h' tk, Ev s.heap h' → s.heap.get? d = none → LedS prog w h' v d (smAll words xs) → R (.ok (.ret v)) { s with heap := h', toks := tk }) :
    codeAny (model prog w) A (.call (.ref 98) ⟨[.ref l, .ref r], []⟩) R s := by
  refine hid fun Gx hGx => ?_
  obtain ⟨h₀, g, dr, tk, os⟩ := s
  refine hGx ?_
  clear hGx Gx
  dsimp only at *
  refine hid fun Gx hGx => ?_
  obtain ⟨pm, c, ct, hK, hC⟩ := K98 w.params
  refine hGx ?_
  clear hGx Gx
  refine codeAny_call_def (Nat.lt_of_succ_lt (Nat.lt_of_succ_lt hroom)) (S.K _ _ hK) rfl S.nl (codeRec_of S.K hC) rfl (BindsTo.of_eq (binds := [(("hits" : Str), .ref l), (("words" : Str), .ref r)]) rfl) (show ∀ x ∈ dSum.scope.names, x.2 ≠ .cell by decide +kernel)
    (by intro y hy; simp only [List.mem_cons, List.not_mem_nil, or_false] at hy; rcases hy with rfl | rfl <;> rfl) ?_ rfl rfl rfl
  intro h₁ hn k₁
  have hL0 : h₀.get? h₀.objs.size = none := Heap.get?_none_of_le (Nat.le_refl _)
  have h98 : 98 < h₀.objs.size := Heap.lt_size (S.K _ _ hK)
  show wpAny _ (A.deeper (envSm h₀.objs.size c)) (execs dSum.body (envSm h₀.objs.size c)) _ _ _
  dsimp only at *
  have F : Fm h₀ h₀.objs.size _ h₁ := ⟨.of_keeps k₁, hn, hL0⟩
  clear hn k₁
  generalize h₀.objs.size = L at *
  generalize hA : A.deeper (envSm L c) = A'
  have hh' : A'.handled = none := by rw [← hA]; exact hh
  have hroom' : A'.depth + 1 < recursionLimit := by rw [← hA]; exact hroom
  have hu' : A'.units + 7 < cLine := by rw [← hA]; exact hu
  clear hA
  have big : ∀ {m : Str → Option Value} {h : Heap}, h.Ns L m → 1 < h.objs.size := fun hn => Nat.lt_trans (Nat.lt_trans (by decide : 1 < 98) h98) hn.lt
  refine letQ ?_
  intro Qx Ex
  refine wpAny_execs_cons <| wpAny_Assign_Name <| wpAny_Tuple <| wpAny_items_cons <| wpAny_Constant_int <| wpAny_items_cons <| wpAny_Constant_int <| wpAny_items_cons <| wpAny_Constant_int <| wpAny_items_cons <| wpAny_Constant_int <| wpAny_items_cons <| wpAny_Dict_empty <| wpAny_items_nil ⟨szl, ?_⟩
  dsimp only
  have kp : ∀ b o, h₁.get? b = some o → (h₁.push { cls := .type "dict", data := .dict #[] }).get? b = some o := fun b o e => Heap.get?_push_of_some _ e
  have hLD : L < h₁.objs.size := F.ns.lt
  have cd : CD prog w (h₁.push { cls := .type "dict", data := .dict #[] }) h₁.objs.size [] := ⟨by
    have : h₁.objs.size ≠ sysModules := by intro q; rw [q] at hLD; have : L < 1 := hLD; lia
    simpa using this, [], Heap.DictOfH.new _, .nil⟩
  have hD0 : h₀.get? h₁.objs.size = none := F.ev.fresh (Nat.le_refl _)
  have F₂ := F.keeps kp
  generalize h₁.push { cls := .type "dict", data := .dict #[] } = h₂ at *
  have DL : h₁.objs.size ≠ L := Nat.ne_of_gt hLD
  generalize h₁.objs.size = D at *
  generalize hp : h₂.push _ = h₃
  have k₃ : ∀ b o, h₂.get? b = some o → h₃.get? b = some o := by intro b o e; rw [← hp]; exact Heap.get?_push_of_some _ e
  have led₃ : LedS prog w h₃ (.ref h₂.objs.size) D ⟨0, 0, 0, 0, []⟩ := by
    rw [← hp]; exact ⟨h₂.objs.size, 0, _, _, _, _, rfl, Heap.get?_push_size _ rfl, cd.stay (Ev.push _).keep⟩
  have F₃ := F₂.keeps k₃
  clear hp k₃ kp cd F F₂
  generalize h₂.objs.size = T at *
  refine wpAny_storeName_local rfl F₃.ns (fun h₄ hn₄ hs₄ => ?_) rfl
  dsimp only at hs₄ ⊢
  have k₄ : But L h₃ h₄ := fun b o hb e => (hs₄.2 b hb).trans e
  obtain ⟨oL, eL, pL⟩ : ∃ oL, h₃.get? L = some oL ∧ ∀ vs n, oL.data ≠ .seq vs n := by obtain ⟨o, es, ep, e, hd, _⟩ := F₃.ns; exact ⟨o, e, fun vs n q => by rw [hd] at q; cases q⟩
  have led₄ : LedS prog w h₄ (.ref T) D ⟨0, 0, 0, 0, []⟩ := Led.but eL pL k₄ DL led₃
  have F₄ := F₃.store k₄ hn₄
  clear led₃ F₃ k₄ hs₄ hn₄ eL pL
  obtain ⟨ws, hpl, hts⟩ := X.ex
  have hpl₄ := PlainList.stay F₄.ev.keep hpl
  refine wpAny_execs_cons <| wpAny_For <| ldL F₄.ns (by rfl) <| wpAny_pyIter_list (l := l) hpl₄.isList ?_
  dsimp only
  have y : Ev h₄ (h₄.push { cls := .type "list_iterator", data := .fields #[.ref l, .int 0 0] }) := .push _
  have hI : (h₄.push { cls := .type "list_iterator", data := .fields #[.ref l, .int 0 0] }).IsListIter h₄.objs.size l 0 := ⟨_, Heap.get?_push_size _ rfl, rfl, rfl⟩
  have hI0 : h₀.get? h₄.objs.size = none := F₄.ev.fresh (Nat.le_refl _)
  have hlI : l ≠ h₄.objs.size := Nat.ne_of_lt ((by obtain ⟨_, e⟩ := hpl₄; exact Heap.lt_size e))
  have F₅ := F₄.step y
  have hl₅ := PlainList.stay y.keep hpl₄
  have led₅ := Led.stay y.keep led₄
  generalize h₄.push { cls := .type "list_iterator", data := .fields #[.ref l, .int 0 0] } = h₅ at *
  generalize h₄.objs.size = J at *
  clear y F₄ hpl₄ led₄
  have W := Walks.list (prog := prog) (w := w) hh' J l hlI ws.toArray
  have hsz : ws.toArray.size = xs.length := by rw [List.size_toArray, hts.length]
  refine for_walk W (fun i h => ∃ m v d, Fm h₀ L m h ∧ m "words" = some (.ref r) ∧ m "summed" = some v ∧ (d ≠ L ∧ h₀.get? d = none) ∧ LedS prog w h v d (smAll words (xs.take i))) ?_ ?_ ?_ ⟨hI, hl₅.isList⟩ ⟨_, _, D, F₅, rfl, rfl, ⟨DL, hD0⟩, led₅⟩
  · rintro i h h' ⟨m, v, d, F, mw, ms, dL, led⟩ st k
    have k' : But J h h' := fun b o hb e => k b o (fun q => hb (List.mem_singleton.mp q)) e
    refine hid fun Gx hGx => ?_
    obtain ⟨oJ, eJ, hc, hd⟩ := id st.1
    refine hGx ?_
    clear hGx Gx
    have nd : d ≠ J := fun q => by
      refine hid fun Gx hGx => ?_
      obtain ⟨_, _, _, _, _, _, _, _, _, _, ⟨o, es, ep, e, _, dd, _⟩, _⟩ := led
      refine hGx ?_
      clear hGx Gx
      rw [q, eJ] at e; cases e; rw [hd] at dd; cases dd
    exact ⟨m, v, d, F.setListIter st.1 hI0 k', mw, ms, dL, Led.but eJ (fun vs n q => by rw [hd] at q; cases q) k' nd led⟩
  · rintro i h tk v E hi hv st invX
    refine hid fun Gx hGx => ?_
    obtain ⟨m, vv, d, F, mw, ms, dL, led⟩ := invX
    refine hGx ?_
    clear hGx Gx
    obtain ⟨ns, hns, hT⟩ := hts.get (i := i) (v := v) (by simpa using hv)
    have hmem : ns ∈ xs := List.mem_of_getElem? hns
    refine hid fun Gx hGx => ?_
    obtain ⟨li, fi, z, k, rfl, hz0, hz1, hk0, hk1⟩ := hok _ hmem
    obtain ⟨k, rfl⟩ := Int.eq_ofNat_of_zero_le hk0
    obtain ⟨T, its, n, rfl, hT, hints⟩ := hT
    refine hGx ?_
    clear hGx Gx
    have hT' := F.ev.keep _ _ hT (not_tab nofun)
    have hkl : k < words.length := by lia
    have hwd : words[k]? = some (words.getD k "") := by rw [List.getD_eq_getElem?_getD, List.getElem?_eq_getElem hkl]; rfl
    refine wpAny_letOwnedTupleGo_listiter st.1 ?_
    obtain ⟨u0, u1, u2, u3, rfl⟩ : ∃ u0 u1 u2 u3, its = [.int li u0, .int fi u1, .int z u2, .int (k : Int) u3] := by
      cases hints with
      | cons _ u0 hints => cases hints with
        | cons _ u1 hints => cases hints with
          | cons _ u2 hints => cases hints with
            | cons _ u3 hints => cases hints; exact ⟨u0, u1, u2, u3, rfl⟩
    have et : smAll words (xs.take (i + 1)) = sm1 words (smAll words (xs.take i)) [li, fi, z, (k : Int)] := by
      unfold smAll
      rw [List.take_add_one, hns, List.foldl_append]; rfl
    have hkl' : (smAll words (xs.take i)).kvs.length ≤ 500 := by
      have := sm_len words (xs.take i)
      rw [List.length_take] at this
      lia
    rw [et]
    generalize smAll words (xs.take i) = q at *
    clear et
    have jL : J ≠ L := listIter_ne F.ns st.1
    have lL : l ≠ L := list_ne F.ns st.2
    obtain ⟨oL, eL, pL⟩ : ∃ oL, h.get? L = some oL ∧ ∀ vs n, oL.data ≠ .seq vs n := by obtain ⟨o, es, ep, e, hd, _⟩ := F.ns; exact ⟨o, e, fun vs n q => by rw [hd] at q; cases q⟩
    refine assign_tup (items := [.int li u0, .int fi u1, .int z u2, .int (k : Int) u3].toArray) hh' ⟨_, hT', rfl, _, rfl⟩ F.ns rfl rfl rfl (by intro y hy; simp only [List.mem_cons, List.not_mem_nil, or_false] at hy; rcases hy with rfl | rfl | rfl | rfl <;> rfl) rfl ?_
    intro h₃ tk₃ hn₃ k₃
    dsimp only at k₃ ⊢
    have F₃ := F.store k₃ hn₃
    have led₃ : LedS prog w h₃ vv d q := Led.but eL pL k₃ dL.1 led
    clear eL pL
    have S₃ := S.stay F₃.ev.keep
    refine hid fun Gx hGx => ?_
    obtain ⟨pm', c', ct', hK', hC'⟩ := K56 w.params
    refine hGx ?_
    clear hGx Gx
    refine letQ ?_
    intro Qx Ex
    refine wpAny_execs_cons <| wpAny_Assign_Name <| Call_ <| ldG S₃.g (g_afs S₃) <| callWith_def (o := fnObj (fnAny "add_func_stats" "add_func_stats" dAFS.params (.stmts dAFS.body) dAFS.scope [] .none .none pm' (.ref c') ct')) rfl <|
      wpAny_items_cons <| ldL F₃.ns ms <| wpAny_items_cons <| wpAny_Tuple <| wpAny_items_cons <| Call_ <| ldB S₃.g (g_min S₃) S₃.b (b_min S₃) <| PyProof.Rows.callWith_builtin1 <| wpAny_items_cons <| ldL F₃.ns (by rfl) <| wpAny_items_cons <| wpAny_Constant_int <| wpAny_items_nil <| min_two_ints hh' fun h₄ tk₄ k₄ => ?_
    dsimp only at k₄ ⊢
    have F₄ := F₃.keeps k₄
    refine wpAny_items_cons <| wpAny_Constant_int <| wpAny_items_cons <| ldL F₄.ns (by rfl) <| wpAny_items_cons <| wpAny_BinOp <| ldL F₄.ns (by rfl) <| ldL F₄.ns (by rfl) <| PySem.P.mul_int (hm := IntMulOk.of_left (intBits_le_64 (by lia) (by lia))) <| wpAny_items_cons ?_
    refine ev_one (words := words) (wd := words.getD k "") (big F₄.ns) (by lia) F₄.ns (by exact mw) (by rfl) (by rfl) (IsList.stay F₄.ev.keep hl) hs hwd (by lia) fun d' h₅ tk₅ k₅ hd' cd' => ?_
    dsimp only at k₅ hd' ⊢
    have F₅ := F₄.keeps k₅
    refine wpAny_items_nil ⟨szl, wpAny_items_nil ?_⟩
    dsimp only
    have em : ∀ a b : Tok, (if (1 : Int) < z then Value.int 1 a else Value.int z b) = Value.int (if 1 < z then 1 else z) (if 1 < z then a else b) := fun a b => by by_cases hc : (1 : Int) < z <;> simp only [hc, if_true, if_false]
    rw [em]
    generalize hp : h₅.push _ = h₆
    have k₆ : ∀ b o, h₅.get? b = some o → h₆.get? b = some o := by intro b o e; rw [← hp]; exact Heap.get?_push_of_some _ e
    have src : Led prog w h₆ (.ref h₅.objs.size) (if 1 < z then 1 else z) 1 z (z * z) d' [((li, words.getD k ""), 1)] := by
      rw [← hp]; exact ⟨_, 0, _, _, _, _, rfl, Heap.get?_push_size _ rfl, cd'.stay (Ev.push _).keep⟩
    clear hp
    have F₆ := F₅.keeps k₆
    have led₆ : LedS prog w h₆ vv d q := Led.stay (keeps_stay fun b o e => k₆ _ _ (k₅ _ _ (k₄ _ _ e))) led₃
    have S₆ := S.stay F₆.ev.keep
    refine ⟨S₆.K _ _ hK', wpAny_call ?_⟩
    refine afs_ct (s := ⟨h₆, _, _, _, _⟩) S₆ led₆ src hkl' (show 1 ≤ 500 by decide) hroom' hh' hu' fun v' d'' h₇ tk₇ x₇ hd'' led₇ => ?_
    dsimp only at x₇ hd'' ⊢
    have F₇ := F₆.step x₇
    have ndL : d'' ≠ L := fun q => by obtain ⟨o, es, ep, e, _⟩ := F₆.ns; rw [q, e] at hd''; cases hd''
    obtain ⟨oL, eL, pL⟩ : ∃ oL, h₇.get? L = some oL ∧ ∀ vs n, oL.data ≠ .seq vs n := by obtain ⟨o, es, ep, e, hd, _⟩ := F₇.ns; exact ⟨o, e, fun vs n q => by rw [hd] at q; cases q⟩
    have hJ : ∀ b ∈ [J, l], ∀ o, h.get? b = some o → ¬ IsTab o := by
      intro b hb o e
      simp only [List.mem_cons, List.not_mem_nil, or_false] at hb
      rcases hb with rfl | rfl
      · obtain ⟨o', e', c, _⟩ := st.1; rw [e'] at e; cases e; exact not_tab (by rw [c]; nofun)
      · obtain ⟨o', e', c, _⟩ := st.2; rw [e'] at e; cases e; exact not_tab (by rw [c]; nofun)
    refine wpAny_storeName_local rfl F₇.ns (fun h₈ hn₈ hs₈ => ?_) rfl
    dsimp only at hs₈ ⊢
    have k₈ : But L h₇ h₈ := fun b o hb e => (hs₈.2 b hb).trans e
    refine wpAny_execs_nil ⟨h₈, _, rfl, ⟨_, v', d'', F₇.store k₈ hn₈, by exact mw, by rfl, ⟨ndL, F₆.ev.none hd''⟩, Led.but eL pL k₈ ndL led₇⟩, fun b hb o e => ?_⟩
    have nt := hJ b hb o e
    have : b ≠ L := by
      simp only [List.mem_cons, List.not_mem_nil, or_false] at hb
      rcases hb with rfl | rfl
      · exact jL
      · exact lL
    exact k₈ _ _ this (x₇.keep _ _ (k₆ _ _ (k₅ _ _ (k₄ _ _ (k₃ _ _ this e)))) nt)
  · rintro h' tk' invX
    refine hid fun Gx hGx => ?_
    obtain ⟨m, v, d, F, mw, ms, dL, led⟩ := invX
    refine hGx ?_
    clear hGx Gx
    rw [hsz, List.take_length] at led
    refine letQ ?_
    intro Qx Ex
    refine wpAny_execs_cons <| wpAny_Return_some <| ldL F.ns ms ?_
    exact h v d _ _ F.ev dL.2 led
end
end Mine
end

section
set_option maxHeartbeats 1000000
namespace Mine
open PySem PySem.W PyProof.Rows PySem.Calls

/-! the sorting tree, asked by a key without ties -/
section
variable (f : Nat → Int) (n : Nat) (s₀ : Shared)
noncomputable def pcmp (i j : Nat) (C : Bool → Shared → Prop) (s : Shared) : Prop := s = s₀ ∧ i < n ∧ j < n ∧ C (decide (f i < f j)) s₀
variable {f n s₀}
theorem pcmp_to {α : Type} {cmp : Nat → Nat → (Bool → Shared → Prop) → Shared → Prop} {Q : α → Shared → Prop} (hc : ∀ i j C, i < n → j < n → C (decide (f i < f j)) s₀ → cmp i j C s₀) :
    ∀ (t : KasT α) (s : Shared), t.kasWp (pcmp f n s₀) Q s → t.kasWp cmp Q s
  | .ret _, _, h => h
  | .ask i j k, s, h => by
    refine hid fun Gx hGx => ?_
    obtain ⟨hs, hi, hj, h⟩ := h
    refine hGx ?_
    clear hGx Gx
    rw [hs]
    exact hc i j _ hi hj (pcmp_to hc (k _) _ h)

noncomputable def Kf (f : Nat → Int) (p : Array Nat) (k : Nat) : Int := f (p.getD k 0)
structure PB (n : Nat) (p : Array Nat) : Prop where
  perm : p.Perm (List.toArray (List.range n))
theorem PB.size {p : Array Nat} (h : PB n p) : p.size = n := by rw [h.perm.size_eq]; simp
theorem PB.get {p : Array Nat} (h : PB n p) {k : Nat} (hk : k < n) : p.getD k 0 < n := by
  have hk' : k < p.size := by rw [h.size]; exact hk
  have hm : p.getD k 0 ∈ p := by
    have e : p.getD k 0 = p[k] := by simp [Array.getD, hk']
    rw [e]; exact Array.getElem_mem hk'
  have := h.perm.mem_iff.mp hm
  simpa using this
theorem PB.inj {p : Array Nat} (h : PB n p) {i j : Nat} (hi : i < n) (hj : j < n) (e : p.getD i 0 = p.getD j 0) : i = j := by
  have hnd : p.toList.Nodup := (Array.perm_iff_toList_perm.mp h.perm).nodup_iff.mpr (by simpa using List.nodup_range)
  have hi' : i < p.size := by rw [h.size]; exact hi
  have hj' : j < p.size := by rw [h.size]; exact hj
  have e1 : p.getD i 0 = p[i] := by simp [Array.getD, hi']
  have e2 : p.getD j 0 = p[j] := by simp [Array.getD, hj']
  rw [e1, e2] at e
  exact (List.getElem_inj (h₀ := by simpa using hi') (h₁ := by simpa using hj') hnd).mp (by simpa using e)
noncomputable def Asc (f : Nat → Int) (p : Array Nat) (k : Nat) : Prop := ∀ i j, i < j → j < k → Kf f p i < Kf f p j

variable (hf : ∀ i j, i < n → j < n → f i = f j → i = j)
include hf
theorem kf_ne {p : Array Nat} (B : PB n p) {i j : Nat} (hi : i < n) (hj : j < n) (hne : i ≠ j) : Kf f p i ≠ Kf f p j := fun e => hne (B.inj hi hj (hf _ _ (B.get hi) (B.get hj) e))

theorem asc_wp {p : Array Nat} {Q : Nat → Shared → Prop} (B : PB n p) (hQ : ∀ m, 1 ≤ m → m ≤ n → Asc f p m → (m = n ∨ Kf f p m < Kf f p (m - 1)) → Q m s₀) :
    ∀ (g a : Nat), 1 ≤ a → a + g = n → Asc f p a → (kas_asc p g a).kasWp (pcmp f n s₀) Q s₀
  | 0, a, h1, h2, hA => hQ a h1 (by lia) hA (.inl (by lia))
  | g + 1, a, h1, h2, hA => by
    refine ⟨rfl, B.get (by lia), B.get (by lia), ?_⟩
    by_cases hlt : f (p.getD a 0) < f (p.getD (a - 1) 0)
    · rw [decide_eq_true hlt]; dsimp only; rw [if_pos rfl]
      exact hQ a h1 (by lia) hA (.inr hlt)
    · rw [decide_eq_false hlt]; dsimp only; rw [if_neg (by simp)]
      refine asc_wp B hQ g (a + 1) (by lia) (by lia) fun i j hij hj => ?_
      have h3 : Kf f p (a - 1) < Kf f p a := by
        have := kf_ne hf B (i := a - 1) (j := a) (by lia) (by lia) (by lia)
        unfold Kf at *; lia
      by_cases hja : j = a
      · subst hja
        by_cases hi : i = j - 1
        · subst hi; exact h3
        · have := hA i (j - 1) (by lia) (by lia); lia
      · exact hA i j hij (by lia)

theorem desc_wp {p : Array Nat} {Q : Array Nat × Nat × Nat → Shared → Prop} (B : PB n p) (hQ : ∀ m, 2 ≤ m → m ≤ n → (∀ i j, i < j → j < m → Kf f p j < Kf f p i) → Q (p, m, 0) s₀) :
    ∀ (g a : Nat), 2 ≤ a → a + g = n → (∀ i j, i < j → j < a → Kf f p j < Kf f p i) → (kas_desc g p a 0).kasWp (pcmp f n s₀) Q s₀
  | 0, a, h1, h2, hA => hQ a h1 (by lia) hA
  | g + 1, a, h1, h2, hA => by
    refine ⟨rfl, B.get (by lia), B.get (by lia), ?_⟩
    by_cases hlt : f (p.getD a 0) < f (p.getD (a - 1) 0)
    · rw [decide_eq_true hlt]; dsimp only; rw [if_pos rfl, if_neg (by lia)]
      refine desc_wp B hQ g (a + 1) (by lia) (by lia) fun i j hij hj => ?_
      by_cases hja : j = a
      · subst hja
        by_cases hi : i = j - 1
        · subst hi; exact hlt
        · have h4 := hA i (j - 1) (by lia) (by lia)
          unfold Kf at *; lia
      · exact hA i j hij (by lia)
    · rw [decide_eq_false hlt]; dsimp only; rw [if_neg (by simp)]
      have h3 : f (p.getD (a - 1) 0) < f (p.getD a 0) := by
        have := kf_ne hf B (i := a - 1) (j := a) (by lia) (by lia) (by lia)
        unfold Kf at *; lia
      refine ⟨rfl, B.get (by lia), B.get (by lia), ?_⟩
      rw [decide_eq_true h3]; dsimp only; rw [if_pos rfl]
      exact hQ a h1 (by lia) hA

theorem place_wp {p : Array Nat} {k : Nat} {Q : Nat → Shared → Prop} (B : PB n p) (hk : k < n) (hA : Asc f p k) (hQ : ∀ l, l ≤ k → (∀ i, i < l → Kf f p i < Kf f p k) → (∀ i, l ≤ i → i < k → Kf f p k < Kf f p i) → Q l s₀) :
    ∀ (g l r : Nat), l ≤ r → r ≤ k → r - l ≤ g → (∀ i, i < l → Kf f p i < Kf f p k) → (∀ i, r ≤ i → i < k → Kf f p k < Kf f p i) → (kas_place p k g l r).kasWp (pcmp f n s₀) Q s₀
  | 0, l, r, h1, h2, h3, h4, h5 => hQ l (by lia) h4 fun i hi hik => h5 i (by lia) hik
  | g + 1, l, r, h1, h2, h3, h4, h5 => by
    unfold kas_place
    by_cases hlr : l ≥ r
    · rw [if_pos hlr]
      exact hQ l (by lia) h4 fun i hi hik => h5 i (by lia) hik
    · rw [if_neg hlr]
      have hmid : (l + r) / 2 < r ∧ l ≤ (l + r) / 2 := by lia
      generalize hm : (l + r) / 2 = q at *
      refine ⟨rfl, B.get (by lia), B.get (by lia), ?_⟩
      by_cases hlt : f (p.getD k 0) < f (p.getD q 0)
      · rw [decide_eq_true hlt]; dsimp only; rw [if_pos rfl]
        refine place_wp B hk hA hQ g l q (by lia) (by lia) (by lia) h4 fun i hi hik => ?_
        by_cases hiq : i = q
        · subst hiq; exact hlt
        · have := hA q i (by lia) hik; unfold Kf at *; lia
      · rw [decide_eq_false hlt]; dsimp only; rw [if_neg (by simp)]
        have h6 : Kf f p q < Kf f p k := by
          have := kf_ne hf B (i := q) (j := k) (by lia) hk (by lia)
          unfold Kf at *; lia
        refine place_wp B hk hA hQ g (q + 1) r (by lia) h2 (by lia) (fun i hi => ?_) h5
        by_cases hiq : i = q
        · subst hiq; exact h6
        · have := hA i q (by lia) (by lia); lia

omit hf in
theorem kf_bubble {p : Array Nat} {k d : Nat} (hk : k < p.size) (hd : d ≤ k) (i : Nat) : Kf f (bubble p k d) i = if i = k - d then Kf f p k else if k - d < i ∧ i ≤ k then Kf f p (i - 1) else Kf f p i := by
  have e := getElem?_bubble hk d hd i
  have g : ∀ (q : Array Nat) (j : Nat), q.getD j 0 = (q[j]?).getD 0 := fun q j => by simp [Array.getD_eq_getD_getElem?]
  unfold Kf
  rw [g, g, g, g, e]
  repeat' split
  all_goals rfl
omit hf in
theorem kf_rev {p : Array Nat} {m : Nat} (hm : m ≤ p.size) (i : Nat) : Kf f (kas_rev p 0 m) i = if i < m then Kf f p (m - 1 - i) else Kf f p i := by
  have e := getElem?_mirror_all (xs := p) (i := 0) hm i
  have g : ∀ (q : Array Nat) (j : Nat), q.getD j 0 = (q[j]?).getD 0 := fun q j => by simp [Array.getD_eq_getD_getElem?]
  unfold Kf kas_rev
  rw [g, g, g, e]
  by_cases h : i < m
  · rw [if_pos ⟨Nat.zero_le _, h⟩, if_pos h]; congr 3; lia
  · rw [if_neg (by lia), if_neg h]

theorem bin_wp {Q : Array Nat → Shared → Prop} (hQ : ∀ p, PB n p → Asc f p n → Q p s₀) :
    ∀ (g k : Nat) (p : Array Nat), k + g = n → 1 ≤ k → PB n p → Asc f p k → (kas_bin g p k).kasWp (pcmp f n s₀) Q s₀
  | 0, k, p, h1, h2, B, hA => hQ p B ((show k = n by lia) ▸ hA)
  | g + 1, k, p, h1, h2, B, hA => by
    unfold kas_bin
    rw [KasT.kasWp_bind]
    refine place_wp hf B (by lia) hA ?_ k 0 k (Nat.zero_le _) (Nat.le_refl _) (by lia) (fun i hi => absurd hi (Nat.not_lt_zero _)) (fun i hi hik => by lia)
    intro l hl hlo hhi
    have hks : k < p.size := by rw [B.size]; lia
    have hb := kf_bubble (f := f) hks (show k - l ≤ k by lia)
    have e0 : k - (k - l) = l := by lia
    rw [e0] at hb
    refine bin_wp hQ g (k + 1) _ (by lia) (by lia) ⟨(bubble_perm _ _ _).trans B.perm⟩ fun i j hij hj => ?_
    rw [hb, hb]
    by_cases hi1 : i = l
    · rw [if_pos hi1, if_neg (show ¬ j = l by lia), if_pos (show l < j ∧ j ≤ k by lia)]
      exact hhi (j - 1) (by lia) (by lia)
    · rw [if_neg hi1]
      by_cases hj1 : j = l
      · rw [if_pos hj1, if_neg (show ¬ (l < i ∧ i ≤ k) by lia)]
        exact hlo i (by lia)
      · rw [if_neg hj1]
        by_cases hi2 : l < i ∧ i ≤ k
        · rw [if_pos hi2, if_pos (show l < j ∧ j ≤ k by lia)]
          exact hA _ _ (by lia) (by lia)
        · rw [if_neg hi2]
          by_cases hj2 : l < j ∧ j ≤ k
          · rw [if_pos hj2]; exact hA _ _ (by lia) (by lia)
          · rw [if_neg hj2]; exact hA _ _ (by lia) (by lia)

theorem sort_wp {Q : Array Nat → Shared → Prop} (h1 : 1 ≤ n) (hQ : ∀ p, PB n p → Asc f p n → Q p s₀) : (kas_sort n).kasWp (pcmp f n s₀) Q s₀ := by
  have B : PB n (List.toArray (List.range n)) := ⟨Array.Perm.refl _⟩
  unfold kas_sort
  rw [KasT.kasWp_bind]
  have fin : ∀ m p, 1 ≤ m → m ≤ n → PB n p → Asc f p m → (if m < n then kas_bin (n - max m 1) p (max m 1) else KasT.ret p).kasWp (pcmp f n s₀) Q s₀ := by
    intro m p hm1 hm2 B hA
    have e : max m 1 = m := by lia
    rw [e]
    by_cases hlt : m < n
    · rw [if_pos hlt]; exact bin_wp hf hQ (n - m) m p (by lia) hm1 B hA
    · rw [if_neg hlt]
      have : m = n := by lia
      exact hQ p B (this ▸ hA)
  unfold kas_count
  rw [KasT.kasWp_bind]
  refine asc_wp hf B ?_ (n - 1) 1 (Nat.le_refl _) (by lia) (fun i j hij hj => by lia)
  intro m hm1 hm2 hA hor
  by_cases hmn : m = n
  · rw [if_pos (by simpa using hmn)]
    exact fin m _ hm1 hm2 B hA
  · rw [if_neg (by simpa using hmn)]
    have hlt := hor.resolve_left hmn
    by_cases hgt : m > 1
    · rw [if_pos hgt]
      refine ⟨rfl, B.get (by lia), B.get (by lia), ?_⟩
      have h0 : f ((List.toArray (List.range n)).getD 0 0) < f ((List.toArray (List.range n)).getD (m - 1) 0) := hA 0 (m - 1) (by lia) (by lia)
      rw [decide_eq_true h0]; dsimp only; rw [if_pos rfl]
      exact fin m _ hm1 hm2 B hA
    · rw [if_neg hgt]
      have hm : m = 1 := by lia
      subst hm
      unfold kas_descPart
      rw [KasT.kasWp_bind]
      refine desc_wp hf B ?_ (n - (1 + 1)) (1 + 1) (by lia) (by lia) (fun i j hij hj => ?_)
      · intro q hq1 hq2 hD
        rw [if_neg (by simp)]
        unfold kas_tail3
        rw [KasT.kasWp_bind]
        have B' : PB n (kas_rev (List.toArray (List.range n)) 0 q) := ⟨(mirror_perm _ _ _ _).trans B.perm⟩
        refine asc_wp hf B' ?_ (n - q) q (by lia) (by lia) (fun i j hij hj => ?_)
        · intro m hm1 hm2 hA _
          exact fin m _ hm1 hm2 B' hA
        · rw [kf_rev (by rw [B.size]; lia), kf_rev (by rw [B.size]; lia), if_pos (by lia), if_pos (by lia)]
          exact hD _ _ (by lia) (by lia)
      · have hi : i = 0 := by lia
        have hj : j = 1 := by lia
        subst hi hj
        exact hlt
end
end Mine
end

section
set_option maxHeartbeats 1000000
namespace Mine
open PySem PySem.W PyProof.Rows PySem.Calls

section
variable {prog : Program} {w : World} {A : Around} {E : Value → Shared → Prop} {s : Shared} {vs : List Value}
/- list.sort on a list of tuples, the comparisons being asked of a tree -/
theorem tree_sort {a : Addr} {n : Nat} {T : Value} {fs : List Value} {P : PySem.Fin → Shared → Prop} {G : Array Nat → Shared → Prop} (ho : s.heap.get? a = some (seqObj "list" vs.toArray n)) (h2 : 2 ≤ vs.length) (h64 : vs.length < 64)
    (tt : ∀ h', (∀ b o, b ≠ a → s.heap.get? b = some o → h'.get? b = some o) → KatTups h' vs fs) (hT : ∀ h', ∀ v ∈ fs, Looks (model prog w) h' (typeOf v) T) (hT2 : (T == T) = true)
    (ask : ∀ h', (∀ b o, b ≠ a → s.heap.get? b = some o → h'.get? b = some o) → (kas_sort vs.length).kasWp (kas_ask prog w A (tuples' (T != Value.type "tuple")) vs) (fun p s' => s' = { s with heap := h' } ∧ G p s') { s with heap := h' })
    (h : ∀ (p : Array Nat) s', p.size = vs.length → G p s' → P (.done (.ret .none)) { s with heap := sortedHeap s.heap a vs (List.toArray (p.toList.map fun i => vs.getD i Value.none)) }) :
    wpAny (model prog w) A (Builtin.«list.sort» ⟨[.ref a], []⟩) P E s := by
  rw [list_sort_plain]
  have ha : a < s.heap.objs.size := Heap.lt_size ho
  refine wpAny_bind (listItems_at ho rfl ?_)
  refine wpAny_bind (listUpdate_at ho rfl ?_ (by rw [List.size_toArray, sizeLine_eq]; lia) (Nat.zero_le _))
  obtain ⟨e1, ho1⟩ : ∃ e1, (s.heap.update a (Obj.mapSeq fun _ => #[])).get? a = some (seqObj "list" #[] e1) := ⟨_, get?_update_seq ho (fun _ => #[])⟩
  refine wpAny_bind (seqEpoch_at ho1 rfl ?_)
  refine wpAny_bind (wpAny_newTuple ?_ (by show vs.length ≤ _; rw [sizeLine_eq]; lia))
  refine wpAny_bind (wpAny_newList ?_ (Nat.zero_le _))
  refine wpAny_holding ?_
  have ho6 : (((s.heap.update a (Obj.mapSeq fun _ => #[])).push (seqObj "tuple" vs.toArray 0)).push (seqObj "list" #[] 0)).get? a = some (seqObj "list" #[] e1) := by
    rw [Heap.get?_push_ne _ _ _ (by rw [size_push', Heap.size_update]; exact Nat.ne_of_lt (Nat.lt_succ_of_lt ha)), Heap.get?_push_ne _ _ _ (by rw [Heap.size_update]; exact Nat.ne_of_lt ha)]
    exact ho1
  have kk : ∀ b o, b ≠ a → s.heap.get? b = some o → (((s.heap.update a (Obj.mapSeq fun _ => #[])).push (seqObj "tuple" vs.toArray 0)).push (seqObj "list" #[] 0)).get? b = some o := fun b o hb e => Heap.get?_push_of_some _ (Heap.get?_push_of_some _ ((Heap.get?_update_ne _ _ _ _ hb).trans e))
  show wpAny (model prog w) A _ P E { s with heap := ((s.heap.update a (Obj.mapSeq fun _ => #[])).push (seqObj "tuple" vs.toArray 0)).push (seqObj "list" #[] 0) }
  dsimp only
  have hn2 : ¬ vs.toArray.size < 2 := by rw [List.size_toArray]; lia
  rw [if_neg hn2, if_neg hn2]
  have hfs : 0 < fs.length := by
    have := tt _ kk
    match vs, fs, this, h2 with
    | _ :: _, _ :: _, _, _ => simp
    | [], _, _, h => simp at h
  refine wpAny_bind (kat_kind (tt _ kk) hfs (hT _) hT2 ?_)
  refine wpAny_bind (wpAny_mono (kat_run (ks := vs) (Q := fun st' s' => ∃ p : Array Nat, p.size = vs.length ∧ arrOf st' = p.map (kas_item (vs.toArray.zip vs.toArray)) ∧ failedOf st' = none ∧ s' = { s with heap := ((s.heap.update a (Obj.mapSeq fun _ => #[])).push (seqObj "tuple" vs.toArray 0)).push (seqObj "list" #[] 0) } ∧ G p s')
    rfl h2 h64 (fun p' st' s' a1 a2 a3 a4 => ⟨p', a1, a2, a3, a4.1, a4.2⟩) (ask _ kk)) ?_ fun _ _ e => e)
  rintro ⟨⟨⟩, st'⟩ s' invX
  refine hid fun Gx hGx => ?_
  obtain ⟨p, hp, har, hf, rfl, hG⟩ := invX
  refine hGx ?_
  clear hGx Gx
  dsimp only
  have hout := kat_snds rfl har
  have hsz : (List.toArray (p.toList.map fun i => vs.getD i Value.none)).size = vs.length := by rw [List.size_toArray, List.length_map, Array.length_toList, hp]
  rw [hout]
  refine wpAny_bind (seqEpoch_at ho6 rfl ?_)
  refine wpAny_bind (listUpdate_at ho6 rfl ?_ (Nat.zero_le _) (Nat.le_trans (Nat.le_of_eq hsz) (by rw [sizeLine_eq]; lia)))
  rw [hf]
  simp only [bne_self_eq_false, Bool.false_eq_true, if_false]
  exact wpAny_pure (h p _ hp hG)

theorem tree_sorted {l : Addr} {T : Value} {fs : List Value} {Q : Value → Shared → Prop} {G : Array Nat → Shared → Prop} (hl : s.heap.IsList l vs.toArray) (h2 : 2 ≤ vs.length) (h64 : vs.length < 64)
    (tt : ∀ h', (∀ b o, s.heap.get? b = some o → h'.get? b = some o) → KatTups h' vs fs) (hT : ∀ h', ∀ v ∈ fs, Looks (model prog w) h' (typeOf v) T) (hT2 : (T == T) = true)
    (ask : ∀ h', (∀ b o, s.heap.get? b = some o → h'.get? b = some o) → (kas_sort vs.length).kasWp (kas_ask prog w A.in1.in1 (tuples' (T != Value.type "tuple")) vs) (fun p s' => s' = { s with heap := h' } ∧ G p s') { s with heap := h' })
    (h : ∀ (p : Array Nat) s', p.size = vs.length → G p s' → Q (.ref (s.heap.objs.size + 1)) { s with heap := sortedAll s.heap vs (List.toArray (p.toList.map fun i => vs.getD i Value.none)) }) :
    wpAny (model prog w) A (call (.builtin "sorted") [.ref l]) Q E s := by
  refine Calls.call_function_entry kind_sorted plain_sorted entry_sorted (args_sorted1 _) ?_
  unfold Builtin.«sorted»
  refine wpAny_bind (m := checkCount "sorted" 1 1 _) (wpAny_pure ?_)
  refine wpAny_bind (collect_list hl ?_ (by rw [sizeLine_eq]; lia))
  refine wpAny_bind (wpAny_newList ?_ (by rw [sizeLine_eq]; lia))
  have hsz : ((s.heap.push (seqObj "list" #[] 0)).update s.heap.objs.size (Obj.mapSeq (· ++ vs.toArray))).objs.size = s.heap.objs.size + 1 := by
    rw [Heap.size_update, size_push']
  have hoL : (((s.heap.push (seqObj "list" #[] 0)).update s.heap.objs.size (Obj.mapSeq (· ++ vs.toArray))).push (seqObj "list" vs.toArray 0)).get? (s.heap.objs.size + 1) = some (seqObj "list" vs.toArray 0) := by
    rw [← hsz]; exact Heap.get?_push_size _ rfl
  have keep : ∀ b o, s.heap.get? b = some o → b ≠ s.heap.objs.size + 1 ∧ (((s.heap.push (seqObj "list" #[] 0)).update s.heap.objs.size (Obj.mapSeq (· ++ vs.toArray))).push (seqObj "list" vs.toArray 0)).get? b = some o := fun b o q => by
    have hlt : b < s.heap.objs.size := Heap.lt_size q
    refine ⟨Nat.ne_of_lt (Nat.lt_succ_of_lt hlt), ?_⟩
    rw [Heap.get?_push_ne _ _ _ (by rw [hsz]; exact Nat.ne_of_lt (Nat.lt_succ_of_lt hlt)), Heap.get?_update_ne _ _ _ _ (Nat.ne_of_lt hlt), Heap.get?_push_ne _ _ _ (Nat.ne_of_lt hlt)]
    exact q
  show wpAny _ _ _ _ _ { s with heap := ((s.heap.push (seqObj "list" #[] 0)).update s.heap.objs.size (Obj.mapSeq (· ++ vs.toArray))).push (seqObj "list" vs.toArray 0) }
  rw [hsz]
  refine wpAny_bind (wpAny_holding (wpAny_call_entry slot_list_sort ⟨_, hoL, rfl⟩ entry_list_sort (tree_sort (G := G) (fs := fs) (T := T) hoL h2 h64 (fun h' k => tt h' fun b o e => k b o (keep b o e).1 (keep b o e).2) hT hT2 (fun h' k => ask h' fun b o e => k b o (keep b o e).1 (keep b o e).2) fun p s' hp hG => ⟨_, rfl, ?_⟩) (args_list_sort _)))
  exact wpAny_pure ⟨_, rfl, h p s' hp hG⟩
end
end Mine
end

section
set_option maxHeartbeats 1000000
namespace Mine
open PySem PySem.W PyProof.Rows PySem.Calls

noncomputable def enc (x : List Int) : Int := x.getD 0 0 * 1000000 + x.getD 1 0 * 1000 + x.getD 2 0
noncomputable def T3 (x : List Int) : Prop := ∃ a b c : Int, x = [a, b, c] ∧ 0 ≤ b ∧ b < 1000 ∧ 0 ≤ c ∧ c < 1000

section
variable {prog : Program} {w : World} {A : Around} {E : Value → Shared → Prop} {s : Shared}
theorem lex3 {a b c a' b' c' : Int} {t1 t2 t3 u1 u2 u3 : Tok} {Q : Bool → Shared → Prop} (hb : 0 ≤ b) (hb1 : b < 1000) (hc : 0 ≤ c) (hc1 : c < 1000) (hb' : 0 ≤ b') (hb1' : b' < 1000) (hc' : 0 ≤ c') (hc1' : c' < 1000)
    (h : Q (decide (enc [a, b, c] < enc [a', b', c'])) s) : KatLex prog w A true false Q [(.int a t1, .int a' u1), (.int b t2, .int b' u2), (.int c t3, .int c' u3)] 0 s := by
  have ee : enc [a, b, c] < enc [a', b', c'] ↔ a < a' ∨ (a = a' ∧ (b < b' ∨ (b = b' ∧ c < c'))) := by
    show a * 1000000 + b * 1000 + c < a' * 1000000 + b' * 1000 + c' ↔ _
    lia
  refine kat_cons (wpAny_eqBool_int ?_)
  by_cases h1 : a = a'
  · rw [show (a == a') = true by simpa using h1]
    refine kat_yes (kat_cons (wpAny_eqBool_int ?_))
    by_cases h2 : b = b'
    · rw [show (b == b') = true by simpa using h2]
      refine kat_yes (kat_cons (wpAny_eqBool_int ?_))
      by_cases h3 : c = c'
      · rw [show (c == c') = true by simpa using h3]
        refine kat_yes (kat_nil ?_)
        rwa [decide_eq_false (by rw [ee]; lia)] at h
      · rw [show (c == c') = false by simpa using h3]
        refine kat_no (kat_one _ _ (wpAny_lt_int ?_))
        rwa [show decide (enc [a, b, c] < enc [a', b', c']) = decide (c < c') by rw [decide_eq_decide, ee]; lia] at h
    · rw [show (b == b') = false by simpa using h2]
      refine kat_no (kat_one _ _ (wpAny_lt_int ?_))
      rwa [show decide (enc [a, b, c] < enc [a', b', c']) = decide (b < b') by rw [decide_eq_decide, ee]; lia] at h
  · rw [show (a == a') = false by simpa using h1]
    refine kat_no (oneLt_int ?_)
    rwa [show decide (enc [a, b, c] < enc [a', b', c']) = decide (a < a') by rw [decide_eq_decide, ee]; lia] at h

theorem TupsAre.at {h : Heap} {vs : List Value} {xs : List (List Int)} (X : TupsAre h vs xs) {i : Nat} (hi : i < xs.length) : IntTup h (vs.getD i Value.none) (xs.getD i []) := by
  induction X generalizing i with
  | nil => exact absurd hi (Nat.not_lt_zero _)
  | cons a _ ih =>
    cases i with
    | zero => exact a
    | succ i => exact ih (Nat.lt_of_succ_lt_succ hi)
theorem TupsAre.pick {h : Heap} {vs : List Value} {xs : List (List Int)} (X : TupsAre h vs xs) : ∀ (p : List Nat), (∀ i ∈ p, i < xs.length) → TupsAre h (p.map fun i => vs.getD i Value.none) (p.map fun i => xs.getD i [])
  | [], _ => .nil
  | i :: p, hp => .cons (X.at (hp i (.head _))) (X.pick p fun j hj => hp j (.tail _ hj))
theorem tups_firsts {h : Heap} {vs : List Value} {xs : List (List Int)} (X : TupsAre h vs xs) (h3 : ∀ x ∈ xs, T3 x) : ∃ fs, (∀ v ∈ fs, ∃ a t, v = Value.int a t) ∧ ∀ h', (∀ b o, h.get? b = some o → h'.get? b = some o) → KatTups h' vs fs := by
  induction X with
  | nil => exact ⟨[], nofun, fun _ _ => KatTups.nil⟩
  | cons a _ ih =>
    refine hid fun Gx hGx => ?_
    obtain ⟨fs, f1, f2⟩ := ih fun x hx => h3 x (.tail _ hx)
    obtain ⟨x, y, z, rfl, _⟩ := h3 _ (.head _)
    obtain ⟨T, its, n, rfl, hT, hi⟩ := a
    refine hGx ?_
    clear hGx Gx
    cases hi with
    | cons _ t hi =>
      refine ⟨.int x t :: fs, fun v hv => ?_, fun h' k => KatTups.cons (k _ _ hT) rfl rfl rfl (f2 h' k)⟩
      rcases List.mem_cons.mp hv with rfl | hv
      · exact ⟨_, _, rfl⟩
      · exact f1 v hv

theorem sorted_trip {l : Addr} {vs : List Value} {xs : List (List Int)} {Q : Value → Shared → Prop} (hl : s.heap.IsList l vs.toArray) (X : TupsAre s.heap vs xs) (h3 : ∀ x ∈ xs, T3 x) (hnd : (xs.map enc).Nodup) (h2 : 2 ≤ xs.length) (h64 : xs.length < 64)
    (h : ∀ D h' ys, (∀ b o, s.heap.get? b = some o → h'.get? b = some o) → s.heap.get? D = none → LT h' D ys → ys.Perm xs → (ys.map enc).Pairwise (· < ·) → Q (.ref D) { s with heap := h' }) :
    wpAny (model prog w) A (call (.builtin "sorted") [.ref l]) Q E s := by
  have hlen := X.length
  obtain ⟨fs, f1, f2⟩ := tups_firsts X h3
  have hf : ∀ i j, i < xs.length → j < xs.length → enc (xs.getD i []) = enc (xs.getD j []) → i = j := by
    intro i j hi hj e
    have e1 : enc (xs.getD i []) = (xs.map enc)[i]'(by simpa using hi) := by simp [hi]
    have e2 : enc (xs.getD j []) = (xs.map enc)[j]'(by simpa using hj) := by simp [hj]
    rw [e1, e2] at e
    exact (List.getElem_inj hnd).mp e
  refine tree_sorted (fs := fs) (T := .type "int") (G := fun p _ => PB xs.length p ∧ Asc (fun i => enc (xs.getD i [])) p xs.length) hl (by lia) (by lia) (fun h' k => f2 h' k) (fun h' v hv => ?_) (by decide) (fun h' k => ?_) (fun p s' hp hG => ?_)
  · obtain ⟨a, t, rfl⟩ := f1 v hv
    exact Looks.of_pure rfl
  · rw [hlen]
    refine pcmp_to (f := fun i => enc (xs.getD i [])) (n := xs.length) (s₀ := { s with heap := h' }) ?_ _ _ (sort_wp hf (by lia) fun p B hA => ⟨rfl, B, hA⟩)
    intro i j C hi hj hC
    refine hid fun Gx hGx => ?_
    obtain ⟨Ti, iti, ni, e1, hTi, hii⟩ := (X.stay (keeps_stay k)).at hi
    obtain ⟨Tj, itj, nj, e2, hTj, hij⟩ := (X.stay (keeps_stay k)).at hj
    refine hGx ?_
    clear hGx Gx
    have m1 : xs.getD i [] ∈ xs := by rw [List.getD_eq_getElem?_getD, List.getElem?_eq_getElem hi]; exact List.getElem_mem hi
    have m2 : xs.getD j [] ∈ xs := by rw [List.getD_eq_getElem?_getD, List.getElem?_eq_getElem hj]; exact List.getElem_mem hj
    refine hid fun Gx hGx => ?_
    obtain ⟨a, b, c, q1, hb, hb1, hc, hc1⟩ := h3 _ m1
    obtain ⟨a', b', c', q2, hb', hb1', hc', hc1'⟩ := h3 _ m2
    refine hGx ?_
    clear hGx Gx
    rw [q1] at hii hC
    rw [q2] at hij hC
    obtain ⟨t1, t2, t3, rfl⟩ : ∃ t1 t2 t3, iti = [.int a t1, .int b t2, .int c t3] := by
      cases hii with
      | cons _ t1 hii => cases hii with
        | cons _ t2 hii => cases hii with
          | cons _ t3 hii => cases hii; exact ⟨_, _, _, rfl⟩
    obtain ⟨u1, u2, u3, rfl⟩ : ∃ t1 t2 t3, itj = [.int a' t1, .int b' t2, .int c' t3] := by
      cases hij with
      | cons _ t1 hij => cases hij with
        | cons _ t2 hij => cases hij with
          | cons _ t3 hij => cases hij; exact ⟨_, _, _, rfl⟩
    unfold kas_ask
    rw [e1, e2]
    exact kat_lt hTi rfl hTj rfl (lex3 hb hb1 hc hc1 hb' hb1' hc' hc1' hC)
  · obtain ⟨B, hA⟩ := hG
    obtain ⟨e, hD⟩ := sortedAll_at s.heap vs (List.toArray (p.toList.map fun i => vs.getD i Value.none))
    have k : ∀ b o, s.heap.get? b = some o → (sortedAll s.heap vs (List.toArray (p.toList.map fun i => vs.getD i Value.none))).get? b = some o := fun b o e => sortedAll_old e
    have hperm : p.toList.Perm (List.range xs.length) := by simpa using Array.perm_iff_toList_perm.mp B.perm
    have hmem : ∀ i ∈ p.toList, i < xs.length := fun i hi => by simpa using hperm.mem_iff.mp hi
    refine h _ _ (p.toList.map fun i => xs.getD i []) k (Heap.get?_none_of_le (Nat.le_succ _)) ⟨_, ⟨e, hD⟩, (X.pick p.toList hmem).stay (keeps_stay k)⟩ ?_ ?_
    · refine (hperm.map _).trans (.of_eq ?_)
      refine List.ext_getElem (by simp) fun i h1 h2 => ?_
      have : i < xs.length := by simpa using h2
      simp [this]
    · rw [List.map_map, List.pairwise_iff_getElem]
      intro i j hi hj hij
      have hi' : i < p.size := by simpa using hi
      have hj' : j < p.size := by simpa using hj
      have := hA i j hij (by have := B.size; lia)
      unfold Kf at this
      simpa [Array.getD, hi', hj'] using this
end
end Mine
end

section
set_option maxHeartbeats 1000000
namespace Mine
open PySem PySem.W PyProof.Rows PySem.Calls

noncomputable def SoftA (h : Heap) (a : Addr) : Prop := ∃ o, h.get? a = some o ∧ Plain o ∧ ∀ vs n, o.data = .seq vs n → o.cls ≠ .type "tuple"
theorem SoftA.ns {h : Heap} {L : Addr} {m : Str → Option Value} (hn : h.Ns L m) : SoftA h L := by
  refine hid fun Gx hGx => ?_
  obtain ⟨o, es, ep, e, hd, _⟩ := hn
  refine hGx ?_
  clear hGx Gx
  exact ⟨o, e, .of_data fun vs => by rw [hd]; nofun, fun vs n q => by rw [hd] at q; cases q⟩
theorem SoftA.list {h : Heap} {l : Addr} {its : Array Value} (x : h.IsList l its) : SoftA h l := by
  refine hid fun Gx hGx => ?_
  obtain ⟨o, e, hp, _, _, i3, _⟩ := Indep.list x
  refine hGx ?_
  clear hGx Gx
  exact ⟨o, e, hp, i3⟩
theorem SoftA.listIter {h : Heap} {I l : Addr} {i : Nat} (x : h.IsListIter I l i) : SoftA h I := by
  refine hid fun Gx hGx => ?_
  obtain ⟨o, e, hp, _, _, i3, _⟩ := Indep.listIter x
  refine hGx ?_
  clear hGx Gx
  exact ⟨o, e, hp, i3⟩
theorem SoftA.rangeIter {h : Heap} {I : Addr} {x l st : Int} (hi : IsRangeIter h I x l st) : SoftA h I := by
  refine hid fun Gx hGx => ?_
  obtain ⟨o, e, hp, _, _, i3, _⟩ := Indep.rangeIter hi
  refine hGx ?_
  clear hGx Gx
  exact ⟨o, e, hp, i3⟩
theorem Ev.soft {h₀ h h' : Heap} {a : Addr} (x : Ev h₀ h) (I : SoftA h a) (hn : h₀.get? a = Option.none) (k : But a h h') : Ev h₀ h' := (by obtain ⟨_, ho, hp, _⟩ := I; exact x.set ho hp hn k)
theorem IntTup.soft {h h' : Heap} {a : Addr} (I : SoftA h a) (k : But a h h') {v : Value} {ns : List Int} (x : IntTup h v ns) : IntTup h' v ns := by
  refine hid fun Gx hGx => ?_
  obtain ⟨o, ho, hp, i3⟩ := I
  obtain ⟨t, its, n, e, ht, hi⟩ := x
  refine hGx ?_
  clear hGx Gx
  exact ⟨t, its, n, e, k _ _ (fun q => by rw [q, ho] at ht; cases ht; exact i3 _ _ rfl rfl) ht, hi⟩
theorem TupsAre.soft {h h' : Heap} {a : Addr} (I : SoftA h a) (k : But a h h') {vs : List Value} {nss : List (List Int)} (x : TupsAre h vs nss) : TupsAre h' vs nss := by
  induction x with
  | nil => exact .nil
  | cons y _ ih => exact .cons (y.soft I k) ih
theorem LT.soft {h h' : Heap} {b a : Addr} (I : SoftA h b) (k : But b h h') (hne : a ≠ b) {xs : List (List Int)} (X : LT h a xs) : LT h' a xs := (by obtain ⟨vs, ⟨n, p⟩, t⟩ := X.ex; exact ⟨vs, ⟨n, k _ _ hne p⟩, t.soft I k⟩)

/- what a comprehension's items bear -/
structure FOk (F : Nat → Heap → Value → Prop) : Prop where
  stay : ∀ i h h' y, Stay h h' → F i h y → F i h' y
  soft : ∀ i h h' a y, SoftA h a → y ≠ .ref a → But a h h' → F i h y → F i h' y
inductive FL (F : Nat → Heap → Value → Prop) (h : Heap) : List Nat → List Value → Prop
  | nil : FL F h [] []
  | cons {i y is ys} : F i h y → FL F h is ys → FL F h (i :: is) (y :: ys)
section
variable {F : Nat → Heap → Value → Prop} {h h' : Heap} {is : List Nat} {ys : List Value}
theorem FL.stay (O : FOk F) (k : Stay h h') (x : FL F h is ys) : FL F h' is ys := by
  induction x with
  | nil => exact .nil
  | cons a _ ih => exact .cons (O.stay _ _ _ _ k a) ih
theorem FL.soft (O : FOk F) {a : Addr} (I : SoftA h a) (k : But a h h') (hn : ∀ y ∈ ys, y ≠ .ref a) (x : FL F h is ys) : FL F h' is ys := by
  induction x with
  | nil => exact .nil
  | cons b _ ih => exact .cons (O.soft _ _ _ _ _ I (hn _ (.head _)) k b) (ih fun y hy => hn y (.tail _ hy))
theorem FL.snoc {i : Nat} {y : Value} (x : FL F h is ys) (hf : F i h y) : FL F h (is ++ [i]) (ys ++ [y]) := by
  induction x with
  | nil => exact .cons hf .nil
  | cons a _ ih => exact .cons a ih
theorem FL.length (x : FL F h is ys) : ys.length = is.length := by
  induction x with
  | nil => rfl
  | cons _ _ ih => rw [List.length_cons, List.length_cons, ih]
end

section
variable {prog : Program} {w : World} {A : Around} {R : Result → Shared → Prop} {g : Array GenState} {dr : Drawn} {os : OsState}

theorem compLoop_any {elt target iter : PySem.Expr} {ifs : List PySem.Expr} {scope : Scope} {pos : Pos} {it acc : Value} {env : Env} {s : Shared} (I : Nat → Shared → Prop)
    (turn : ∀ n s, I n s → wpAny (model prog w) A (pyNext it) (fun r s₁ => match r with
      | none => R (.ok .next) s₁
      | some v => wpAny (model prog w) A (letOwnedTupleGo target it v) (fun _ s₁ => wpAny (model prog w) A (assign target env v) (fun _ s₂ =>
          wpAny (model prog w) A (forIn ifs true fun c r => if r = true then do let ok ← isTrue c env (eval c env); pure (ForInStep.yield ok) else pure (ForInStep.yield r)) (fun ok s₃ =>
            if ok = true then wpAny (model prog w) A (eval elt env) (fun x s₄ =>
              wpAny (model prog w) A (call (.builtin "list.append") [acc, x]) (fun _ s₅ => ∃ m, m < n ∧ I m s₅) (notedBy (model prog w) A env fun e s' => R (.error e) s') s₄) (notedBy (model prog w) A env fun e s' => R (.error e) s') s₃
            else ∃ m, m < n ∧ I m s₃) (notedBy (model prog w) A env fun e s' => R (.error e) s') s₂) (notedBy (model prog w) A env fun e s' => R (.error e) s') s₁) (notedBy (model prog w) A env fun e s' => R (.error e) s') s₁) (notedBy (model prog w) A env fun e s' => R (.error e) s') s)
    (n : Nat) (h : I n s) :
    codeAny (model prog w) A (.compLoop (.ListComp elt [⟨target, iter, ifs, 0⟩] scope pos) 0 it acc env) R s := by
  refine codeAny_loop rfl I (fun n s hI => ?_) n h
  show wpAny _ A ((compTurn (.ListComp elt [⟨target, iter, ifs, 0⟩] scope pos) 0 it acc env).onRaise (fun x => do noteFrame x env; theTreesLotGoes x)) _ _ s
  refine wpAny_noted ?_
  rw [compTurn_list]
  refine wpAny_bind (wpAny_standAt (wpAny_bind (wpAny_mono (turn n s hI) (fun r s₁ h₁ => ?_) fun _ _ h' => h')))
  cases r with
  | none => exact wpAny_pure h₁
  | some v =>
    refine wpAny_bind (wpAny_mono h₁ (fun _ s₁ h₁ => ?_) fun _ _ h' => h')
    refine wpAny_bind (wpAny_mono h₁ (fun _ s₂ h₂ => wpAny_bind (wpAny_mono h₂ (fun ok s₃ h₃ => ?_) fun _ _ h' => h')) fun _ _ h' => h')
    cases ok with
    | false => exact wpAny_pure ⟨rfl, h₃⟩
    | true =>
      exact wpAny_bind (wpAny_bind (wpAny_mono h₃ (fun x s₄ h₄ => wpAny_bind (wpAny_mono h₄ (fun _ s₅ h₅ => wpAny_pure (wpAny_pure ⟨rfl, h₅⟩)) fun _ _ h' => h')) fun _ _ h' => h'))

/- what the user of a comprehension shows -/
structure CompUse (prog : Program) (w : World) (A : Around) (g : Array GenState) (dr : Drawn) (os : OsState) (env : Env) (scope : Scope) (cl : List (Str × Addr)) (target : PySem.Expr) (ifs : List PySem.Expr) (elt : PySem.Expr) (I : Addr) (n : Nat) (P : Nat → Value → Prop) (St : Nat → Heap → Prop)
    (h₁ : Heap) (V : Nat → (Str → Option Value) → Prop) (p : Nat → Bool) (F : Nat → Heap → Value → Prop) : Prop where
  asg : ∀ i v C m h tk (E : Value → Shared → Prop), i < n → P i v → St (i + 1) h → Ev h₁ h → h.Ns C m →
    wpAny (model prog w) A (letOwnedTupleGo target (.ref I) v) (fun _ s₁ => wpAny (model prog w) A (assign target (compEnvC scope cl C env) v) (fun _ s₂ => ∃ h' tk' m', s₂ = ⟨h', g, dr, tk', os⟩ ∧ h'.Ns C m' ∧ But C h h' ∧ V i m') E s₁) E ⟨h, g, dr, tk, os⟩
  test : ∀ i C m h tk (E : Value → Shared → Prop), i < n → V i m → h.Ns C m → Ev h₁ h →
    wpAny (model prog w) A (forIn ifs true fun c r => if r = true then do let ok ← isTrue c (compEnvC scope cl C env) (eval c (compEnvC scope cl C env)); pure (ForInStep.yield ok) else pure (ForInStep.yield r)) (fun ok s' => ok = p i ∧ ∃ h' tk', s' = ⟨h', g, dr, tk', os⟩ ∧ Ev h h') E ⟨h, g, dr, tk, os⟩
  elt : ∀ i C m h tk (E : Value → Shared → Prop), i < n → p i = true → V i m → h.Ns C m → Ev h₁ h →
    wpAny (model prog w) A (eval elt (compEnvC scope cl C env)) (fun y s' => ∃ h' tk', s' = ⟨h', g, dr, tk', os⟩ ∧ Ev h h' ∧ F i h' y ∧ ∀ a, y = .ref a → h.get? a = none) E ⟨h, g, dr, tk, os⟩

theorem comp_loop {elt target iter : PySem.Expr} {ifs : List PySem.Expr} {scope : Scope} {cl : List (Str × Addr)} {pos : Pos} {env : Env} {I D C : Addr} {fp : List Addr} {n : Nat} {P : Nat → Value → Prop} {St : Nat → Heap → Prop} {h₁ : Heap} {V : Nat → (Str → Option Value) → Prop} {p : Nat → Bool} {F : Nat → Heap → Value → Prop}
    (W : Walks prog w A I fp [I] n P St) (hn : n ≤ 2000) (sI : ∀ i h, St i h → SoftA h I) (sT : ∀ i h, St i h → ∀ b ∈ fp, ∀ o, h.get? b = some o → ¬ IsTab o) (hI0 : h₁.get? I = none) (hD0 : h₁.get? D = none) (hC0 : h₁.get? C = none) (hDC : D ≠ C) (hDI : D ≠ I) (hCI : C ≠ I) (hDf : D ∉ fp) (hCf : C ∉ fp)
    (U : CompUse prog w A g dr os env scope cl target ifs elt I n P St h₁ V p F) (O : FOk F)
    (hR : ∀ h' tk m' ys, h'.Ns C m' → h'.PlainList D ys.toArray → Ev h₁ h' → FL F h' ((List.range n).filter p) ys → (∀ y ∈ ys, y ≠ .ref C ∧ ∀ a, y = .ref a → h₁.get? a = none) → R (.ok .next) ⟨h', g, dr, tk, os⟩)
    {h : Heap} {tk : Nat} {m : Str → Option Value} (hst : St 0 h) (hns : h.Ns C m) (hpl : h.PlainList D #[]) (hev : Ev h₁ h) :
    codeAny (model prog w) A (.compLoop (.ListComp elt [⟨target, iter, ifs, 0⟩] scope pos) 0 (.ref I) (.ref D) (compEnvC scope cl C env)) R ⟨h, g, dr, tk, os⟩ := by
  refine compLoop_any (fun k s => ∃ i h tk m ys, s = ⟨h, g, dr, tk, os⟩ ∧ Ev h₁ h ∧ St i h ∧ h.Ns C m ∧ h.PlainList D (List.toArray ys) ∧ FL F h ((List.range i).filter p) ys ∧ (∀ y ∈ ys, y ≠ .ref C ∧ y ≠ .ref D ∧ y ≠ .ref I ∧ ∀ a, y = .ref a → h₁.get? a = none) ∧ i ≤ n ∧ k = n + 1 - i) ?_ (n + 1)
    ⟨0, h, tk, m, [], rfl, hev, hst, hns, hpl, .nil, nofun, Nat.zero_le _, rfl⟩
  clear hst hns hpl hev
  rintro k s invX
  refine hid fun Gx hGx => ?_
  obtain ⟨i, h, tk, m, ys, rfl, hev, hst, hns, hpl, hfl, hnr, hi, rfl⟩ := invX
  refine hGx ?_
  clear hGx Gx
  have hys : ys.length ≤ i := by
    rw [hfl.length]; exact Nat.le_trans (List.length_filter_le _ _) (by simp)
  by_cases hlt : i < n
  · refine W.item i _ _ _ hlt hst fun v h₂ tk₂ hP hst₂ k₂ => ?_
    dsimp only at k₂ ⊢
    have k₂' : But I h h₂ := fun b o hb e => k₂ b o (fun q => hb (List.mem_singleton.mp q)) e
    have hev₂ := hev.soft (sI _ _ hst) hI0 k₂'
    have hns₂ := hns.at' fun o e => k₂' _ _ hCI e
    have hpl₂ := hpl.at fun o e => k₂' _ _ hDI e
    have hfl₂ := hfl.soft O (sI _ _ hst) k₂' fun y hy => (hnr y hy).2.2.1
    refine wpAny_mono (U.asg i v C m h₂ tk₂ _ hlt hP hst₂ hev₂ hns₂) (fun _ s₁ q => wpAny_mono q (fun _ s₂ q => ?_) fun _ _ e => e) fun _ _ e => e
    refine hid fun Gx hGx => ?_
    obtain ⟨h₃, tk₃, m₃, rfl, hns₃, k₃, hV⟩ := q
    refine hGx ?_
    clear hGx Gx
    have hev₃ := hev₂.soft (.ns hns₂) hC0 k₃
    have hpl₃ := hpl₂.at fun o e => k₃ _ _ hDC e
    have hfl₃ := hfl₂.soft O (.ns hns₂) k₃ fun y hy => (hnr y hy).1
    have hst₃ : St (i + 1) h₃ := W.frame _ _ _ hst₂ fun b hb o e => k₃ _ _ (fun q => hCf (q ▸ hb)) e
    refine wpAny_mono (U.test i C m₃ h₃ tk₃ _ hlt hV hns₃ hev₃) (fun ok s₃ q => ?_) fun _ _ e => e
    refine hid fun Gx hGx => ?_
    obtain ⟨rfl, h₄, tk₄, rfl, x₄⟩ := q
    refine hGx ?_
    clear hGx Gx
    have hev₄ := hev₃.trans x₄
    have hns₄ := Ns.stay x₄.keep hns₃
    have hpl₄ := PlainList.stay x₄.keep hpl₃
    have hfl₄ := hfl₃.stay O x₄.keep
    have hst₄ : St (i + 1) h₄ := W.frame _ _ _ hst₃ fun b hb o e => x₄.keep _ _ e (sT _ _ hst₃ b hb o e)
    cases hp : p i with
    | false =>
      simp only [Bool.false_eq_true, if_false]
      refine ⟨n + 1 - (i + 1), by lia, i + 1, h₄, tk₄, m₃, ys, rfl, hev₄, hst₄, hns₄, hpl₄, ?_, hnr, hlt, rfl⟩
      rw [List.range_succ, List.filter_append]
      simpa [hp] using hfl₄
    | true =>
      simp only [if_true]
      refine wpAny_mono (U.elt i C m₃ h₄ tk₄ _ hlt hp hV hns₄ hev₄) (fun y s₄ q => ?_) fun _ _ e => e
      refine hid fun Gx hGx => ?_
      obtain ⟨h₅, tk₅, rfl, x₅, hF, hfr⟩ := q
      refine hGx ?_
      clear hGx Gx
      have hev₅ := hev₄.trans x₅
      have hns₅ := Ns.stay x₅.keep hns₄
      have hpl₅ := PlainList.stay x₅.keep hpl₄
      have hfl₅ := (hfl₄.stay O x₅.keep).snoc hF
      have hst₅ : St (i + 1) h₅ := W.frame _ _ _ hst₄ fun b hb o e => x₅.keep _ _ e (sT _ _ hst₄ b hb o e)
      have hnr₅ : ∀ z ∈ ys ++ [y], z ≠ .ref C ∧ z ≠ .ref D ∧ z ≠ .ref I ∧ ∀ a, z = .ref a → h₁.get? a = none := by
        intro z hz
        rcases List.mem_append.mp hz with hz | hz
        · exact hnr z hz
        · rw [List.mem_singleton.mp hz]
          refine ⟨fun q => ?_, fun q => ?_, fun q => ?_, fun a q => hev₄.none (hfr _ q)⟩
          · have := hfr _ q; obtain ⟨o, _, _, e, _⟩ := hns₄; rw [this] at e; cases e
          · have := hfr _ q; obtain ⟨n, e⟩ := hpl₄; rw [this] at e; cases e
          · have := hfr _ q; obtain ⟨o, e, _⟩ := sI _ _ hst₄; rw [this] at e; cases e
      refine wpAny_list_append_plain hpl₅ (fun h₆ hpl₆ hs₆ => ?_) (by rw [List.size_toArray, sizeLine_eq]; lia)
      dsimp only at hs₆ ⊢
      have k₆ : But D h₅ h₆ := fun b o hb e => (hs₆.2 b hb).trans e
      refine ⟨n + 1 - (i + 1), by lia, i + 1, h₆, tk₅, m₃, ys ++ [y], rfl, hev₅.soft (.list hpl₅.isList) hD0 k₆, W.frame _ _ _ hst₅ fun b hb o e => k₆ _ _ (fun q => hDf (q ▸ hb)) e, hns₅.at' fun o e => k₆ _ _ hDC.symm e, ?_, ?_, hnr₅, hlt, rfl⟩
      · rw [← List.push_toArray]; exact hpl₆
      · rw [List.range_succ, List.filter_append]
        have := hfl₅.soft O (.list hpl₅.isList) k₆ fun z hz => (hnr₅ z hz).2.1
        simpa [hp] using this
  · have : i = n := by lia
    subst this
    refine W.done _ _ _ hst fun h₂ tk₂ k₂ => ?_
    dsimp only at k₂ ⊢
    have k₂' : But I h h₂ := fun b o hb e => k₂ b o (fun q => hb (List.mem_singleton.mp q)) e
    exact hR h₂ tk₂ m ys (hns.at' fun o e => k₂' _ _ hCI e) (hpl.at fun o e => k₂' _ _ hDI e) (hev.soft (sI _ _ hst) hI0 k₂') (hfl.soft O (sI _ _ hst) k₂' fun y hy => (hnr y hy).2.2.1) fun y hy => ⟨(hnr y hy).1, (hnr y hy).2.2.2⟩
end
end Mine
end

section
set_option maxHeartbeats 1000000
namespace Mine
open PySem PySem.W PyProof.Rows PySem.Calls

section
variable {prog : Program} {w : World} {A : Around} {E : Value → Shared → Prop} {env : Env} {g : Array GenState} {dr : Drawn} {os : OsState}

/- all that a comprehension over an iterator needs -/
structure CompAt (prog : Program) (w : World) (A : Around) (g : Array GenState) (dr : Drawn) (os : OsState) (env : Env) (scope : Scope) (cl : List (Str × Addr)) (target : PySem.Expr) (ifs : List PySem.Expr) (elt : PySem.Expr) (I : Addr) (fp : List Addr) (n : Nat) (P : Nat → Value → Prop) (St : Nat → Heap → Prop)
    (h₁ : Heap) (V : Nat → (Str → Option Value) → Prop) (p : Nat → Bool) (F : Nat → Heap → Value → Prop) (h₂ : Heap) : Prop where
  W : Walks prog w A I fp [I] n P St
  n2 : n ≤ 2000
  sI : ∀ i h, St i h → SoftA h I
  sT : ∀ i h, St i h → ∀ b ∈ fp, ∀ o, h.get? b = some o → ¬ IsTab o
  st : St 0 h₂
  fpl : ∀ b ∈ fp, b < h₂.objs.size
  ev : Ev h₁ h₂
  I0 : h₁.get? I = none
  If : I ∈ fp
  U : CompUse prog w A g dr os env scope cl target ifs elt I n P St h₁ V p F
  O : FOk F

theorem comp_block {elt target iter : PySem.Expr} {ifs : List PySem.Expr} {scope : Scope} {cl : List (Str × Addr)} {pos : Pos} {I : Addr} {fp : List Addr} {n : Nat} {P : Nat → Value → Prop} {St : Nat → Heap → Prop} {h₁ : Heap} {V : Nat → (Str → Option Value) → Prop} {p : Nat → Bool} {F : Nat → Heap → Value → Prop} {h₂ : Heap} {tk : Nat}
    (X : CompAt prog w A g dr os env scope cl target ifs elt I fp n P St h₁ V p F h₂) {RR : Value → Addr → Result → Shared → Prop}
    (hcell : ∀ y ∈ scope.names, y.2 ≠ .cell) (hkind : scope.kind = .function)
    (hRR : ∀ D C h' tk m' ys, h₁.get? D = none → h₁.get? C = none → D ≠ C → h'.Ns C m' → h'.PlainList D ys.toArray → Ev h₁ h' → FL F h' ((List.range n).filter p) ys → (∀ y ∈ ys, y ≠ .ref C ∧ ∀ a, y = .ref a → h₁.get? a = none) → RR (.ref D) C (.ok .next) ⟨h', g, dr, tk, os⟩) :
    wpAny (model prog w) A (newList []) (fun acc s₃ => wpAny (model prog w) A (newFunctionEnv scope env.globals cl [] env.qual none .none (some env)) (fun cenv s₄ =>
      codeAny (model prog w) A (.compStart (.ListComp elt [⟨target, iter, ifs, 0⟩] scope pos) 0 (.ref I) acc { cenv with scope := relabel scope env }) (RR acc cenv.locals) s₄) E s₃) E ⟨h₂, g, dr, tk, os⟩ := by
  refine wpAny_newObj_type (wpAny_newFunctionEnv hcell (by intro y hy; simp at hy) (fun h₃ hns₃ hsb₃ => ?_) hkind)
  dsimp only at hns₃ hsb₃ ⊢
  generalize hH2 : h₂.push { cls := .type "list", dict := none, data := .seq ([] : List Value).toArray } = H2 at hns₃ hsb₃ ⊢
  have hC : H2.objs.size = h₂.objs.size + 1 := by rw [← hH2, Heap.size_push]
  have hDC : h₂.objs.size ≠ H2.objs.size := by rw [hC]; exact Nat.ne_of_lt (Nat.lt_succ_self _)
  have below : ∀ b, b < h₂.objs.size → b ≠ H2.objs.size ∧ b ≠ h₂.objs.size := fun b hb => ⟨by rw [hC]; exact Nat.ne_of_lt (Nat.lt_succ_of_lt hb), Nat.ne_of_lt hb⟩
  have hDf : h₂.objs.size ∉ fp := fun hm => Nat.lt_irrefl _ (X.fpl _ hm)
  have hCf : H2.objs.size ∉ fp := fun hm => by have := X.fpl _ hm; rw [hC] at this; exact Nat.lt_irrefl _ (Nat.lt_of_succ_lt this)
  have old : ∀ b o, h₂.get? b = some o → h₃.get? b = some o := fun b o e => hsb₃.extBut b o (below b (Heap.lt_size e)).1 (Heap.get?_push_of_some _ (hH2 ▸ Heap.get?_push_of_some _ e))
  have hacc : h₃.PlainList h₂.objs.size #[] := ⟨_, hsb₃.extBut _ _ hDC (Heap.get?_push_of_some _ (hH2 ▸ Heap.get?_push_size _ rfl))⟩
  have hst₃ : St 0 h₃ := X.W.frame _ _ _ X.st fun b _ o e => old b o e
  have hD0 : h₁.get? h₂.objs.size = none := X.ev.fresh (Nat.le_refl _)
  have hC0 : h₁.get? H2.objs.size = none := X.ev.fresh (by rw [hC]; exact Nat.le_succ _)
  have hI : I < h₂.objs.size := X.fpl _ X.If
  have loop : ∀ s₃ : Shared, s₃ = ⟨h₃, g, dr, tk + ([] : List (Str × Value)).length, os⟩ →
      codeAny (model prog w) A (.compLoop (.ListComp elt [⟨target, iter, ifs, 0⟩] scope pos) 0 (.ref I) (.ref h₂.objs.size) (compEnvC scope cl H2.objs.size env)) (RR (.ref h₂.objs.size) H2.objs.size) s₃ := by
    rintro s₃ rfl
    exact comp_loop X.W X.n2 X.sI X.sT X.I0 hD0 hC0 hDC (below I hI).2.symm (below I hI).1.symm hDf hCf X.U X.O (fun h' tk m' ys a b c d e => hRR _ _ h' tk m' ys hD0 hC0 hDC a b c d e) hst₃ hns₃ hacc (X.ev.keeps old)
  exact codeAny_compStart_list (loop _ rfl) (X.W.self 0 _ _ _ hst₃ (loop _ rfl))

theorem eval_comp {s : Shared} {elt target iter : PySem.Expr} {ifs : List PySem.Expr} {scope : Scope} {cl : List (Str × Addr)} {pos : Pos} {Q : Value → Shared → Prop}
    (hclos : closureFor scope env = pure cl) (hcell : ∀ y ∈ scope.names, y.2 ≠ .cell) (hkind : scope.kind = .function) (hnames : ∀ y ∈ scope.names, y.2 = .local → scope.names.lookup y.1 = some .local)
    (h : wpAny (model prog w) A (eval iter env) (fun xv s₁ => wpAny (model prog w) A (pyIter xv) (fun it s₂ => ∃ I fp n P St h₁ V p F g dr os h₂ tk, s₂ = ⟨h₂, g, dr, tk, os⟩ ∧ it = .ref I ∧ CompAt prog w A g dr os env scope cl target ifs elt I fp n P St h₁ V p F h₂ ∧
      (∀ D h' tk ys, h₁.get? D = none → h'.PlainList D ys.toArray → Ev h₁ h' → FL F h' ((List.range n).filter p) ys → Q (.ref D) ⟨h', g, dr, tk, os⟩)) E s₁) E s)
    (hs : ∀ x, foldedSetIterable iter env x = pure x := by intro _; rfl) :
    wpAny (model prog w) A (eval (.ListComp elt [⟨target, iter, ifs, 0⟩] scope pos) env) Q E s := by
  rw [eval_ListComp]
  refine wpAny_comprehension_free (use := none) rfl hs hclos hkind hnames (wpAny_mono h (fun xv s₁ h₁ => wpAny_mono h₁ (fun it s₂ h₂ => ?_) fun _ _ e => e) fun _ _ e => e)
  refine hid fun Gx hGx => ?_
  obtain ⟨I, fp, n, P, St, h₁, V, p, F, g, dr, os, h₂, tk, rfl, rfl, X, hQ⟩ := h₂
  refine hGx ?_
  clear hGx Gx
  refine comp_block (RR := fun acc C => compPost (model prog w) A E none Q acc C) X hcell hkind ?_
  intro D C h' tk m' ys hD hC hDC hn hpl hev hfl hnr
  refine ⟨m', hn, fun h'' hs'' => ?_⟩
  have k : But C h' h'' := fun b o hb e => hs''.extBut b o hb e
  exact hQ D h'' tk ys hD (hpl.at fun o e => k _ _ hDC e) (hev.soft (.ns hn) hC k) (hfl.soft X.O (.ns hn) k fun y hy => (hnr y hy).1)

/- y = [..], y being a name that an object b (the namespace or a cell) bears -/
theorem assign_comp {s : Shared} {elt target iter : PySem.Expr} {ifs : List PySem.Expr} {scope : Scope} {cl : List (Str × Addr)} {pos spos py : Pos} {y : Str} {Q : Flow → Shared → Prop}
    (hsw : swapsWith (.ListComp elt [⟨target, iter, ifs, 0⟩] scope pos) (some (.Name y py)) spos.line env = pure true)
    (hclos : closureFor scope env = pure cl) (hcell : ∀ y ∈ scope.names, y.2 ≠ .cell) (hkind : scope.kind = .function) (hnames : ∀ y ∈ scope.names, y.2 = .local → scope.names.lookup y.1 = some .local)
    (h : wpAny (model prog w) A (eval iter env) (fun xv s₁ => wpAny (model prog w) A (pyIter xv) (fun it s₂ => ∃ I fp n P St h₁ V p F g dr os h₂ tk b, ∃ (B : Value → Heap → Prop), s₂ = ⟨h₂, g, dr, tk, os⟩ ∧ it = .ref I ∧ CompAt prog w A g dr os env scope cl target ifs elt I fp n P St h₁ V p F h₂ ∧
      SoftA h₁ b ∧ (∀ v h' tk (Q' : Unit → Shared → Prop), Ev h₁ h' → (∀ h2 tk2, B v h2 → But b h' h2 → Q' () ⟨h2, g, dr, tk2, os⟩) → wpAny (model prog w) A (storeName env y v) Q' E ⟨h', g, dr, tk, os⟩) ∧
      (∀ v h h', B v h → (∀ o, h.get? b = some o → h'.get? b = some o) → B v h') ∧
      (∀ D h' tk ys, h₁.get? D = none → h'.PlainList D ys.toArray → FL F h' ((List.range n).filter p) ys → B (.ref D) h' → (∀ h₀, Ev h₀ h₁ → h₀.get? b = none → Ev h₀ h') → (∀ b' o, b' ≠ b → h₁.get? b' = some o → ¬ IsTab o → h'.get? b' = some o) → Q .next ⟨h', g, dr, tk, os⟩)) E s₁) E s)
    (hs : ∀ x, foldedSetIterable iter env x = pure x := by intro _; rfl) :
    wpAny (model prog w) A (exec (.Assign [.Name y py] (.ListComp elt [⟨target, iter, ifs, 0⟩] scope pos) spos) env) Q E s := by
  rw [exec_Assign_Name_used _ _ _ _ hsw]
  refine wpAny_bind (wpAny_standAt (wpAny_bind ?_))
  show wpAny _ A (do let _ ← comprehension (.ListComp elt [⟨target, iter, ifs, 0⟩] scope pos) scope env _ (newList []) false (eval iter env) (some (assign (.Name y py) env))) _ _ s
  refine wpAny_bind (wpAny_mono (wpAny_comprehension_free (use := some (assign (.Name y py) env)) (Q := fun _ s' => Q .next s') rfl hs hclos hkind hnames
    (wpAny_mono h (fun xv s₁ h₁ => wpAny_mono h₁ (fun it s₂ h₂ => ?_) fun _ _ e => e) fun _ _ e => e)) (fun _ s' hq => wpAny_pure (wpAny_pure hq)) fun _ _ e => e)
  refine hid fun Gx hGx => ?_
  obtain ⟨I, fp, n, P, St, h₁, V, p, F, g, dr, os, h₂, tk, b, B, rfl, rfl, X, hb, hst, hBs, hQ⟩ := h₂
  refine hGx ?_
  clear hGx Gx
  refine comp_block (RR := fun acc C => compPost (model prog w) A E (some (assign (.Name y py) env)) (fun _ s' => Q .next s') acc C) X hcell hkind ?_
  intro D C h' tk m' ys hD hC hDC hn hpl hev hfl hnr
  show wpAny _ A (assign (.Name y py) env (.ref D)) _ _ _
  refine wpAny_assign_Name (hst (.ref D) h' tk _ hev fun hb2 tk2 hB k => ?_)
  refine hid fun Gx hGx => ?_
  obtain ⟨ob, eb, pb, tb⟩ := id hb
  refine hGx ?_
  clear hGx Gx
  have hbC : b ≠ C := fun q => by rw [q, hC] at eb; cases eb
  have hbD : b ≠ D := fun q => by rw [q, hD] at eb; cases eb
  have sb : SoftA h' b := ⟨ob, hev.keep _ _ eb pb.1, pb, tb⟩
  have hn2 := hn.at' fun o e => k _ _ hbC.symm e
  refine ⟨m', hn2, fun hb3 hs3 => ?_⟩
  have k3 : But C hb2 hb3 := fun b o hb e => hs3.extBut b o hb e
  refine hQ D hb3 tk2 ys hD ((hpl.at fun o e => k _ _ hbD.symm e).at fun o e => k3 _ _ hDC e) ?_ (hBs _ _ _ hB fun o e => k3 _ _ hbC e) (fun h₀ x h0 => ((x.trans hev).soft sb h0 k).soft (.ns hn2) (x.none hC) k3) (fun b' o hb' e nt => k3 _ _ (fun q => by rw [q, hC] at e; cases e) (k _ _ hb' (hev.keep _ _ e nt)))
  refine (hfl.soft X.O sb k fun y hy q => ?_).soft X.O (.ns hn2) k3 fun y hy => (hnr y hy).1
  have := (hnr y hy).2 _ q
  rw [eb] at this; cases this
end
end Mine
end

section
set_option maxHeartbeats 1000000
namespace Mine
open PySem PySem.W PyProof.Rows PySem.Calls

section
variable {prog : Program} {w : World} {A : Around} {env : Env} {g : Array GenState} {dr : Drawn} {os : OsState} {scope : Scope} {cl : List (Str × Addr)} {ifs : List PySem.Expr} {elt : PySem.Expr} {p : Nat → Bool} {F : Nat → Heap → Value → Prop}

noncomputable abbrev TestOk (prog : Program) (w : World) (A : Around) (g : Array GenState) (dr : Drawn) (os : OsState) (env : Env) (scope : Scope) (cl : List (Str × Addr)) (ifs : List PySem.Expr) (n : Nat) (h₁ : Heap) (V : Nat → (Str → Option Value) → Prop) (p : Nat → Bool) : Prop :=
  ∀ i C m h tk (E : Value → Shared → Prop), i < n → V i m → h.Ns C m → Ev h₁ h →
    wpAny (model prog w) A (forIn ifs true fun c r => if r = true then do let ok ← isTrue c (compEnvC scope cl C env) (eval c (compEnvC scope cl C env)); pure (ForInStep.yield ok) else pure (ForInStep.yield r)) (fun ok s' => ok = p i ∧ ∃ h' tk', s' = ⟨h', g, dr, tk', os⟩ ∧ Ev h h') E ⟨h, g, dr, tk, os⟩
noncomputable abbrev EltOk (prog : Program) (w : World) (A : Around) (g : Array GenState) (dr : Drawn) (os : OsState) (env : Env) (scope : Scope) (cl : List (Str × Addr)) (elt : PySem.Expr) (n : Nat) (h₁ : Heap) (V : Nat → (Str → Option Value) → Prop) (p : Nat → Bool) (F : Nat → Heap → Value → Prop) : Prop :=
  ∀ i C m h tk (E : Value → Shared → Prop), i < n → p i = true → V i m → h.Ns C m → Ev h₁ h →
    wpAny (model prog w) A (eval elt (compEnvC scope cl C env)) (fun y s' => ∃ h' tk', s' = ⟨h', g, dr, tk', os⟩ ∧ Ev h h' ∧ F i h' y ∧ ∀ a, y = .ref a → h.get? a = none) E ⟨h, g, dr, tk, os⟩
theorem test_nil {n : Nat} {h₁ : Heap} {V : Nat → (Str → Option Value) → Prop} : TestOk prog w A g dr os env scope cl [] n h₁ V fun _ => true :=
  fun _ _ _ h tk _ _ _ _ _ => wpAny_pure ⟨rfl, h, tk, rfl, .refl _⟩

noncomputable abbrev iterO (l : Addr) : Obj := { cls := .type "list_iterator", data := .fields #[.ref l, .int 0 0] }

theorem list_walk (hh : A.handled = none) {h₁ : Heap} {l : Addr} {ws : Array Value} (hpl : h₁.IsList l ws) : Walks prog w A h₁.objs.size [h₁.objs.size, l] [h₁.objs.size] ws.size (fun i v => ws[i]? = some v) (fun i h => h.IsListIter h₁.objs.size l i ∧ h.IsList l ws) :=
  Walks.list hh h₁.objs.size l (Nat.ne_of_lt ((by obtain ⟨_, e, _⟩ := hpl; exact Heap.lt_size e))) ws

theorem tups_at (hh : A.handled = none) {h₁ : Heap} {l : Addr} {ws : List Value} {nss : List (List Int)} {elts : List PySem.Expr} {xs : List Str} {kk : Nat} {tp : Pos} (hpl : h₁.IsList l ws.toArray) (ht : TupsAre h₁ ws nss) (hlen : nss.length ≤ 2000) (hk : ∀ x ∈ nss, x.length = xs.length) (hx : tgts elts = some xs)
    (ha : ∀ C, (assignEach elts (compEnvC scope cl C env)).length = xs.length ∧ (assignEach elts (compEnvC scope cl C env)).findIdx? (·.1) = none ∧ ∀ x ∈ xs, (compEnvC scope cl C env).kindOf x = some .local) (hkd : scope.kind = .function)
    (O : FOk F) (T : TestOk prog w A g dr os env scope cl ifs nss.length h₁ (fun i m => ∃ us m0, IntsAre us (nss.getD i []) ∧ m = upds m0 xs us) p) (El : EltOk prog w A g dr os env scope cl elt nss.length h₁ (fun i m => ∃ us m0, IntsAre us (nss.getD i []) ∧ m = upds m0 xs us) p F) :
    CompAt prog w A g dr os env scope cl (.Tuple elts kk tp) ifs elt h₁.objs.size [h₁.objs.size, l] nss.length (fun i v => ws.toArray[i]? = some v) (fun i h => h.IsListIter h₁.objs.size l i ∧ h.IsList l ws.toArray) h₁ (fun i m => ∃ us m0, IntsAre us (nss.getD i []) ∧ m = upds m0 xs us) p F (h₁.push (iterO l)) := by
  have hw : ws.toArray.size = nss.length := by rw [List.size_toArray, ht.length]
  have hl : l < h₁.objs.size := (by obtain ⟨_, e, _⟩ := hpl; exact Heap.lt_size e)
  refine { W := hw ▸ list_walk hh hpl, n2 := hlen, sI := fun i h st => .listIter st.1, sT := ?_, st := ⟨⟨_, Heap.get?_push_size _ rfl, rfl, rfl⟩, hpl.push _⟩, fpl := ?_, ev := .push _, I0 := Heap.get?_none_of_le (Nat.le_refl _), If := .head _, U := ⟨?_, T, El⟩, O }
  · intro i h st b hb o e
    simp only [List.mem_cons, List.not_mem_nil, or_false] at hb
    rcases hb with rfl | rfl
    · obtain ⟨o', e', c, _⟩ := st.1; rw [e'] at e; cases e; exact not_tab (by rw [c]; nofun)
    · obtain ⟨o', e', c, _⟩ := st.2; rw [e'] at e; cases e; exact not_tab (by rw [c]; nofun)
  · intro b hb
    simp only [List.mem_cons, List.not_mem_nil, or_false] at hb
    rw [Heap.size_push]
    rcases hb with rfl | rfl
    · exact Nat.lt_succ_self _
    · exact Nat.lt_succ_of_lt hl
  · intro i v C m h tk E hi hv st hev hns
    refine hid fun Gx hGx => ?_
    obtain ⟨ns, hns', T', its, n', rfl, hT, hints⟩ := ht.get (i := i) (v := v) (by simpa using hv)
    refine hGx ?_
    clear hGx Gx
    have hns2 : nss.getD i [] = ns := by rw [List.getD_eq_getElem?_getD, hns']; rfl
    have hmem : ns ∈ nss := List.mem_of_getElem? hns'
    have hT' := hev.keep _ _ hT (not_tab nofun)
    refine wpAny_letOwnedTupleGo_listiter st.1 ?_
    refine assign_tup (items := its.toArray) hh ⟨_, hT', rfl, _, rfl⟩ hns hx ?_ (ha C).2.1 (ha C).2.2 (by show (relabel scope env).kind = _; exact hkd) ?_
    · rw [(ha C).1, List.size_toArray, ints_len hints, hk _ hmem]
    · intro h' tk' hn' k'
      exact ⟨h', tk', _, rfl, hn', k', its, m, by rw [hns2]; exact hints, rfl⟩

theorem vals_at (hh : A.handled = none) {h₁ : Heap} {l : Addr} {ws : Array Value} {x : Str} {xp : Pos} (hpl : h₁.IsList l ws) (hlen : ws.size ≤ 2000) (hx : ∀ C, (compEnvC scope cl C env).kindOf x = some .local) (hkd : scope.kind = .function)
    (O : FOk F) (T : TestOk prog w A g dr os env scope cl ifs ws.size h₁ (fun i m => m x = ws[i]?) p) (El : EltOk prog w A g dr os env scope cl elt ws.size h₁ (fun i m => m x = ws[i]?) p F) :
    CompAt prog w A g dr os env scope cl (.Name x xp) ifs elt h₁.objs.size [h₁.objs.size, l] ws.size (fun i v => ws[i]? = some v) (fun i h => h.IsListIter h₁.objs.size l i ∧ h.IsList l ws) h₁ (fun i m => m x = ws[i]?) p F (h₁.push (iterO l)) := by
  have hl : l < h₁.objs.size := (by obtain ⟨_, e, _⟩ := hpl; exact Heap.lt_size e)
  refine { W := list_walk hh hpl, n2 := hlen, sI := fun i h st => .listIter st.1, sT := ?_, st := ⟨⟨_, Heap.get?_push_size _ rfl, rfl, rfl⟩, hpl.push _⟩, fpl := ?_, ev := .push _, I0 := Heap.get?_none_of_le (Nat.le_refl _), If := .head _, U := ⟨?_, T, El⟩, O }
  · intro i h st b hb o e
    simp only [List.mem_cons, List.not_mem_nil, or_false] at hb
    rcases hb with rfl | rfl
    · obtain ⟨o', e', c, _⟩ := st.1; rw [e'] at e; cases e; exact not_tab (by rw [c]; nofun)
    · obtain ⟨o', e', c, _⟩ := st.2; rw [e'] at e; cases e; exact not_tab (by rw [c]; nofun)
  · intro b hb
    simp only [List.mem_cons, List.not_mem_nil, or_false] at hb
    rw [Heap.size_push]
    rcases hb with rfl | rfl
    · exact Nat.lt_succ_self _
    · exact Nat.lt_succ_of_lt hl
  · intro i v C m h tk E hi hv st hev hns
    refine wpAny_of_eq rfl (wpAny_assign_Name (wpAny_storeName_local (hx C) hns (fun h' hn' hs' => ?_) (by simp [compEnvC, relabel, hkd])))
    exact ⟨h', _, _, rfl, hn', fun b o hb e => (hs'.2 b hb).trans e, by simp [hv]⟩

theorem range_up (n : Nat) : Builtin.Range.rangeSize 0 (n : Int) 1 = (n : Int) := by
  unfold Builtin.Range.rangeSize
  simp only [show ((1 : Int) > 0) by decide, if_true, Int.ediv_one]
  split <;> lia
theorem range_up_small (n : Nat) (h : n < 2 ^ 20) : Builtin.Range.small 0 (n : Int) 1 = true := by
  unfold Builtin.Range.small
  rw [range_up, if_pos (show (1 : Int) > 0 by decide)]
  have f : ∀ x : Int, -(2 ^ 63) ≤ x → x < 2 ^ 63 → Builtin.Range.rangeFitsLong x = true := fun x a b => by unfold Builtin.Range.rangeFitsLong; rw [decide_eq_true a, decide_eq_true b]; rfl
  rw [f 0 (by lia) (by lia), f n (by lia) (by lia), f 1 (by lia) (by lia), f ((n : Int) + (1 - 1)) (by lia) (by lia), Bool.or_true]
  rfl
noncomputable abbrev rangeO (n : Nat) : Obj := { cls := .type "range_iterator", data := .fields #[rawInt 0, rawInt (n : Int), rawInt 1] }

theorem range_at (hh : A.handled = none) {h₁ : Heap} {n : Nat} {x : Str} {xp : Pos} (hlen : n ≤ 2000) (hx : ∀ C, (compEnvC scope cl C env).kindOf x = some .local) (hkd : scope.kind = .function)
    (O : FOk F) (T : TestOk prog w A g dr os env scope cl ifs n h₁ (fun i m => ∃ t, m x = some (.int i t)) p) (El : EltOk prog w A g dr os env scope cl elt n h₁ (fun i m => ∃ t, m x = some (.int i t)) p F) :
    CompAt prog w A g dr os env scope cl (.Name x xp) ifs elt h₁.objs.size [h₁.objs.size] n (fun i v => ∃ t, v = .int (0 + i * 1) t) (fun i h => IsRangeIter h h₁.objs.size (0 + (i : Nat) * 1) ((n : Int) - (i : Nat)) 1) h₁ (fun i m => ∃ t, m x = some (.int i t)) p F (h₁.push (rangeO n)) := by
  refine { W := Walks.range hh _ 0 1 n, n2 := hlen, sI := fun i h st => .rangeIter st, sT := ?_, st := ?_, fpl := ?_, ev := .push _, I0 := Heap.get?_none_of_le (Nat.le_refl _), If := .head _, U := ⟨?_, T, El⟩, O }
  · intro i h st b hb o e
    cases List.mem_singleton.mp hb
    unfold IsRangeIter at st
    rw [st] at e; cases e; exact not_tab nofun
  · have : (h₁.push (rangeO n)).get? h₁.objs.size = some (rangeO n) := Heap.get?_push_size _ rfl
    simpa [IsRangeIter] using this
  · intro b hb
    cases List.mem_singleton.mp hb
    rw [Heap.size_push]; exact Nat.lt_succ_self _
  · rintro i v C m h tk E hi ⟨t, rfl⟩ st hev hns
    refine wpAny_of_eq rfl (wpAny_assign_Name (wpAny_storeName_local (hx C) hns (fun h' hn' hs' => ?_) (by simp [compEnvC, relabel, hkd])))
    exact ⟨h', _, _, rfl, hn', fun b o hb e => (hs'.2 b hb).trans e, t, by simp⟩
end
end Mine
end

section
set_option maxHeartbeats 1000000
namespace Mine
open PySem PySem.W PyProof.Rows PySem.Calls

theorem slice_idx (a b n : Nat) : Builtin.Str.strSliceIndices (some (a : Int)) (some (b : Int)) 1 n = Builtin.Str.strSliceIndices (some ((min a n : Nat) : Int)) (some ((min b n : Nat) : Int)) 1 n := by
  unfold Builtin.Str.strSliceIndices
  have h1 : ¬ ((a : Int) < 0) := by lia
  have h2 : ¬ ((b : Int) < 0) := by lia
  have h3 : ¬ (((min a n : Nat) : Int) < 0) := by lia
  have h4 : ¬ (((min b n : Nat) : Int) < 0) := by lia
  simp only [h1, h2, h3, h4, if_false, show ((1 : Int) > 0) = True by simp, if_true]
  congr 1 <;> lia
theorem slice_cps (x : Str) {a b : Nat} (hab : a ≤ b) : (Txt.slice x (some (a : Int)) (some (b : Int))).cps.toList = (x.cps.toList.drop a).take (b - a) := by
  have hl : (x.cps.toList).length = x.length := by simp [Str.length]
  have e1 : (Builtin.Str.strSliceIndices (some (a : Int)) (some (b : Int)) 1 x.length).filterMap (x.cps[·]?) = (x.cps.toList.drop a).take (b - a) := by
    rw [slice_idx, StrLaws.sliced_plain x (show min a x.length ≤ min b x.length by lia) (Nat.min_le_right _ _)]
    by_cases ha : a ≤ x.length
    · rw [Nat.min_eq_left ha]
      by_cases hb : b ≤ x.length
      · rw [Nat.min_eq_left hb]
      · rw [Nat.min_eq_right (by lia), List.take_of_length_le (by simp [hl]), List.take_of_length_le (by simp [hl]; lia)]
    · rw [Nat.min_eq_right (by lia), Nat.min_eq_right (by lia), List.drop_of_length_le (by lia), List.drop_of_length_le (by lia)]
      simp
  unfold Txt.slice
  split
  · rename_i hc
    simp only [Bool.and_eq_true, beq_iff_eq] at hc
    have hlen : ((x.cps.toList.drop a).take (b - a)).length = x.length := by
      rw [← e1, slice_idx]
      have e2 : (Builtin.Str.strSliceIndices (some (a : Int)) (some (b : Int)) 1 x.length).length = x.length := hc.2
      rw [slice_idx] at e2
      have e3 := StrLaws.sliced_plain x (show min a x.length ≤ min b x.length by lia) (Nat.min_le_right _ _)
      rw [StrLaws.strSliceIndices_plain (show min a x.length ≤ min b x.length by lia) (Nat.min_le_right _ _)] at e2
      simp only [List.length_map, List.length_range] at e2
      rw [e3, List.length_take, List.length_drop, hl]
      lia
    rw [List.length_take, List.length_drop, hl] at hlen
    by_cases hx : x.length = 0
    · have : x.cps.toList = [] := List.length_eq_zero_iff.mp (by rw [hl]; exact hx)
      rw [this]; simp
    · have ha : a = 0 := by lia
      subst ha
      rw [List.drop_zero, List.take_of_length_le (by rw [hl]; lia)]
  · exact e1
end Mine
end

section
set_option maxHeartbeats 1000000
namespace Mine
open PySem PySem.W PyProof.Rows PySem.Calls

theorem K103 (P : Params) : ∃ pm c ct, (KF P).lookup 103 = some (fnObj (fnAny "_law_scan" "_law_scan" dScan.params (.stmts dScan.body) dScan.scope [] .none .none pm (.ref c) ct)) ∧ codeIn (KF P) (.ref c) "_law_scan" = true := ⟨_, _, _, rfl, by kernel_rfl⟩

noncomputable def slEq (page word : Str) (i : Nat) : Bool := (page.cps.toList.drop i).take word.length == word.cps.toList
noncomputable def scHit (page word : Str) (free i : Nat) : Bool := decide (free ≤ i) && (page.cps.toList.getD i 0 != 10) && slEq page word i
noncomputable def scStep (page word : Str) (num : Int) (st : Nat × List (List Int)) (i : Nat) : Nat × List (List Int) := if scHit page word st.1 i = true then (i + word.length, st.2 ++ [[-(i : Int), (word.length : Int), num]]) else st
noncomputable def scTo (page word : Str) (num : Int) (n : Nat) (acc : List (List Int)) : Nat × List (List Int) := (List.range n).foldl (scStep page word num) (0, acc)
noncomputable def scW (page : Str) (words : List Str) : Nat → List (List Int)
  | 0 => []
  | k + 1 => (scTo page (words.getD k "") (k : Int) page.length (scW page words k)).2

theorem scTo_succ (page word : Str) (num : Int) (n : Nat) (acc : List (List Int)) : scTo page word num (n + 1) acc = scStep page word num (scTo page word num n acc) n := by
  unfold scTo; rw [List.range_succ, List.foldl_append]; rfl
theorem scTo_len (page word : Str) (num : Int) (acc : List (List Int)) : ∀ n, (scTo page word num n acc).2.length ≤ acc.length + n
  | 0 => Nat.le_refl _
  | n + 1 => by
    have := scTo_len page word num acc n
    rw [scTo_succ]; unfold scStep
    split
    · simp only [List.length_append, List.length_cons, List.length_nil]; lia
    · lia
theorem scW_len (page : Str) (words : List Str) : ∀ k, (scW page words k).length ≤ k * page.length
  | 0 => by unfold scW; simp
  | k + 1 => by
    have h1 := scW_len page words k
    have h2 := scTo_len page (words.getD k "") (k : Int) (scW page words k) page.length
    unfold scW
    rw [Nat.succ_mul]; lia

structure SSt (h₀ : Heap) (L l r : Addr) (page : Str) (tp : Tok) (kept : List (Addr × Obj)) (acc : List (List Int)) (m : Str → Option Value) (h : Heap) : Prop where
  F : Fm h₀ L m h
  mp : m "page" = some (.str page tp)
  mw : m "words" = some (.ref r)
  ml : m "places" = some (.ref l)
  lt : LT h l acc
  l0 : h₀.get? l = none
  kp : ∀ q ∈ kept, h.get? q.1 = some q.2 ∧ q.1 ≠ L ∧ q.1 ≠ l ∧ ¬ IsTab q.2
section
variable {h₀ h h' : Heap} {L l r J : Addr} {page : Str} {tp : Tok} {kept : List (Addr × Obj)} {acc : List (List Int)} {m m' : Str → Option Value}
theorem SSt.step (X : SSt h₀ L l r page tp kept acc m h) (x : Ev h h') : SSt h₀ L l r page tp kept acc m h' :=
  { X with F := X.F.step x, lt := X.lt.stay x.keep, kp := fun q hq => (by obtain ⟨a, b, c, d⟩ := X.kp q hq; exact ⟨x.keep _ _ a d, b, c, d⟩) }
theorem SSt.nl (X : SSt h₀ L l r page tp kept acc m h) : l ≠ L := X.lt.ne X.F.ns
theorem SSt.store (X : SSt h₀ L l r page tp kept acc m h) (k : But L h h') (hn : h'.Ns L m') (e1 : m' "page" = m "page") (e2 : m' "words" = m "words") (e3 : m' "places" = m "places") : SSt h₀ L l r page tp kept acc m' h' :=
  { X with F := X.F.store k hn, mp := e1.trans X.mp, mw := e2.trans X.mw, ml := e3.trans X.ml, lt := X.lt.soft (.ns X.F.ns) k X.nl, kp := fun q hq => (by obtain ⟨a, b, c, d⟩ := X.kp q hq; exact ⟨k _ _ b a, b, c, d⟩) }
theorem SSt.app {vs : List Value} {v : Value} {ns : List Int} (X : SSt h₀ L l r page tp kept acc m h) (hp : h.PlainList l vs.toArray) (ht : TupsAre h vs acc) (hv : IntTup h v ns) (hp' : h'.PlainList l (vs.toArray.push v)) (k : But l h h') : SSt h₀ L l r page tp kept (acc ++ [ns]) m h' := by
  have I : SoftA h l := .list hp.isList
  refine { X with F := ⟨X.F.ev.soft I X.l0 k, X.F.ns.at' fun o e => k _ _ X.nl.symm e, X.F.L0⟩, lt := ⟨vs ++ [v], ?_, ?_⟩, kp := fun q hq => (by obtain ⟨a, b, c, d⟩ := X.kp q hq; exact ⟨k _ _ c a, b, c, d⟩) }
  · rw [← List.push_toArray]; exact hp'
  · exact (ht.soft I k).append (.cons (hv.soft I k) .nil)
theorem SSt.setIt {x y z : Int} (X : SSt h₀ L l r page tp kept acc m h) (hi : IsRangeIter h J x y z) (hJ0 : h₀.get? J = none) (hk : ∀ q ∈ kept, q.1 ≠ J) (k : But J h h') : SSt h₀ L l r page tp kept acc m h' := by
  have I : SoftA h J := .rangeIter hi
  have nL : L ≠ J := (ns_ne X.F.ns hi nofun).symm
  have nl : l ≠ J := fun q => by
    refine hid fun Gx hGx => ?_
    obtain ⟨vs, ⟨n, p⟩, _⟩ := X.lt.ex
    refine hGx ?_
    clear hGx Gx
    unfold IsRangeIter at hi
    rw [q, hi] at p; exact Data.noConfusion (congrArg Obj.data (Option.some.inj p))
  exact { X with F := ⟨X.F.ev.soft I hJ0 k, X.F.ns.at' fun o e => k _ _ nL e, X.F.L0⟩, lt := X.lt.soft I k nl, kp := fun q hq => (by obtain ⟨a, b, c, d⟩ := X.kp q hq; exact ⟨k _ _ (hk q hq) a, b, c, d⟩) }
theorem SSt.with {x y z : Int} (X : SSt h₀ L l r page tp kept acc m h) (hi : IsRangeIter h J x y z) : SSt h₀ L l r page tp ((J, { cls := .type "range_iterator", data := .fields #[rawInt x, rawInt y, rawInt z] }) :: kept) acc m h := by
  have nL : J ≠ L := ns_ne X.F.ns hi nofun
  have nl : J ≠ l := fun q => by
    refine hid fun Gx hGx => ?_
    obtain ⟨vs, ⟨n, p⟩, _⟩ := X.lt.ex
    refine hGx ?_
    clear hGx Gx
    unfold IsRangeIter at hi
    rw [← q, hi] at p; exact Data.noConfusion (congrArg Obj.data (Option.some.inj p))
  refine { X with kp := fun q hq => ?_ }
  rcases List.mem_cons.mp hq with rfl | hq
  · exact ⟨hi, nL, nl, not_tab nofun⟩
  · exact X.kp q hq
theorem SSt.drop {q : Addr × Obj} (X : SSt h₀ L l r page tp (q :: kept) acc m h) : SSt h₀ L l r page tp kept acc m h := { X with kp := fun p hp => X.kp p (.tail _ hp) }
end

section
variable {prog : Program} {w : World} {A : Around} {s : Shared} {R : Result → Shared → Prop} {mg mb : Str → Option Value}
noncomputable abbrev envSc (L c : Addr) : Env := newEnv dScan.scope L mainGlobals [] (("_law_scan" : Str) ++ ".<locals>.") (some 103) (.ref c) none builtinsNs

theorem scan_inner {L l r c : Addr} {h₀ : Heap} {page word : Str} {tp tn ts : Tok} {words : List Str} {vs : List Value} {kept : List (Addr × Obj)} {num : Nat} {g : Array GenState} {dr : Drawn} {os : OsState} {tgt it : PySem.Expr} {body : List Stmt} {pos : Pos} {acc : List (List Int)} {E : Value → Shared → Prop} {Q : Flow → Shared → Prop}
    (hst : stAt (fBody (stAt dScan.body 1)) 2 = .For tgt it body [] pos) (S : Stat w mg mb h₀) (hh : A.handled = none) (hl : h₀.IsList r vs.toArray) (hs : StrsAre vs words) (hwd : words[num]? = some word) (hnum : num < 2 ^ 20) (hpg : page.length ≤ 1000) (hwl : word.length ≤ 1000) (hac : acc.length ≤ 100000)
    (hR : ∀ h tk m, SSt h₀ L l r page tp kept (scTo page word num page.length acc).2 m h → Q .next ⟨h, g, dr, tk, os⟩)
    {m : Str → Option Value} {h : Heap} {tk : Nat} (X : SSt h₀ L l r page tp kept acc m h) (mn : m "number" = some (.int num tn)) (ms : m "size" = some (.int word.length ts)) (mf : ∃ tf, m "free" = some (.int 0 tf)) :
    wpAny (model prog w) A (exec (.For tgt it body [] pos) (envSc L c)) Q E ⟨h, g, dr, tk, os⟩ := by
  have e : Stmt.For tgt it body [] pos = stAt (fBody (stAt dScan.body 1)) 2 := hst.symm
  cases e
  clear hst
  have S₁ := S.stay X.F.ev.keep
  refine wpAny_For <| Call_ <| ldB S₁.g (g_range S₁) S₁.b (b_range S₁) <| PyProof.Rows.callWith_type1 <| wpAny_items_cons <| Call_ <| ldB S₁.g (g_len S₁) S₁.b (b_len S₁) <| PyProof.Rows.callWith_builtin1 <| wpAny_items_cons <| ldL X.F.ns X.mp <| wpAny_items_nil <| PySem.P.len_str (by lia) <| wpAny_items_nil <| call_range_1 ?_
  dsimp only
  generalize ho : ({ cls := .type "range", data := .fields _ } : Obj) = oR
  refine wpAny_pyIter_range (by rw [← ho]; exact IsRange.new ..) (range_up_small _ (by lia)) ?_
  rw [range_up]
  dsimp only
  clear ho
  have X₁ := X.step (.push oR)
  have X₂ := X₁.step (.push (rangeO page.length))
  have hJ0 : h₀.get? (h.push oR).objs.size = none := X₁.F.ev.fresh (Nat.le_refl _)
  have hkJ : ∀ q ∈ kept, q.1 ≠ (h.push oR).objs.size := fun q hq => Nat.ne_of_lt (Heap.lt_size (X₁.kp q hq).1)
  have hit : IsRangeIter ((h.push oR).push (rangeO page.length)) (h.push oR).objs.size (0 + ((0 : Nat) : Int) * 1) ((page.length : Int) - ((0 : Nat) : Int)) 1 := by
    have : ((h.push oR).push (rangeO page.length)).get? (h.push oR).objs.size = some (rangeO page.length) := Heap.get?_push_size _ rfl
    simpa [IsRangeIter] using this
  show codeAny _ _ (.forLoop _ (.ref (h.push oR).objs.size) _ _ _) _ ⟨(h.push oR).push (rangeO page.length), g, dr, _, os⟩
  generalize (h.push oR).push (rangeO page.length) = h₂ at *
  generalize (h.push oR).objs.size = J at *
  clear X₁ X S₁
  refine for_walk (Walks.range hh J 0 1 page.length) (fun i h => ∃ m tf, SSt h₀ L l r page tp kept (scTo page word num i acc).2 m h ∧ m "number" = some (.int num tn) ∧ m "size" = some (.int word.length ts) ∧ m "free" = some (.int ((scTo page word num i acc).1 : Int) tf)) ?_ ?_ ?_ hit ⟨m, mf.choose, X₂, mn, ms, mf.choose_spec⟩
  · rintro i h h' ⟨m, tf, X, a⟩ st k
    exact ⟨m, tf, X.setIt st hJ0 hkJ fun b o hb e => k b o (fun q => hb (List.mem_singleton.mp q)) e, a⟩
  · rintro i h tk v E hi ⟨ti, rfl⟩ st invX
    refine hid fun Gx hGx => ?_
    obtain ⟨m, tf, X, mn, ms, mf⟩ := invX
    refine hGx ?_
    clear hGx Gx
    refine wpAny_of_eq rfl (wpAny_assign_Name ?_)
    have Y := X.with st
    have ei : (0 : Int) + (i : Int) * 1 = (i : Int) := by lia
    rw [ei]
    refine wpAny_storeName_local rfl Y.F.ns (fun h₁ hn₁ hs₁ => ?_) rfl
    dsimp only at hs₁ ⊢
    have Y₁ := Y.store (fun b o hb e => (hs₁.2 b hb).trans e) hn₁ rfl rfl rfl
    clear hs₁ hn₁ Y X
    have hfp : ∀ {h' : Heap} {m' : Str → Option Value} {ac : List (List Int)}, SSt h₀ L l r page tp ((J, { cls := .type "range_iterator", data := .fields #[rawInt (0 + ((i + 1 : Nat) : Int) * 1), rawInt ((page.length : Int) - ((i + 1 : Nat) : Int)), rawInt 1] }) :: kept) ac m' h' → ∀ b ∈ [J], ∀ o, h.get? b = some o → h'.get? b = some o := by
      intro h' m' ac Z b hb o e
      cases List.mem_singleton.mp hb
      have st' : h.get? J = some _ := st
      rw [st'] at e; cases e
      exact (Z.kp _ (.head _)).1
    rw [scTo_succ]
    have hacc := scTo_len page word num acc i
    generalize scTo page word num i acc = sc at *
    unfold scStep
    have hci : page.cps[i]? = some (page.cps.toList.getD i 0) := by
      have : i < page.cps.size := hi
      rw [List.getD_eq_getElem?_getD, Array.getElem?_toList, Array.getElem?_eq_getElem this]; rfl
    refine wpAny_execs_cons <| wpAny_If <| wpAny_isTrue_BoolOp <| wpAny_allTrue_And_cons <| wpAny_isTrue_Compare1 <| ldL Y₁.F.ns (by rfl) <| ldL Y₁.F.ns (by exact mf) <| PySem.P.ge_int <| wpAny_truthy_bool ?_
    by_cases c1 : (sc.1 : Int) ≤ (i : Int)
    rotate_left
    · rw [decide_eq_false (show ¬ ((i : Int) ≥ (sc.1 : Int)) by lia)]
      simp only [Bool.false_eq_true, if_false]
      have : scHit page word sc.1 i = false := by unfold scHit; rw [decide_eq_false (by lia)]; rfl
      rw [this]
      simp only [Bool.false_eq_true, if_false]
      exact wpAny_execs_nil <| wpAny_execs_nil ⟨_, _, rfl, ⟨_, tf, Y₁.drop, mn, ms, mf⟩, hfp Y₁⟩
    rw [decide_eq_true (show (i : Int) ≥ (sc.1 : Int) by lia)]
    simp only [if_true]
    refine wpAny_allTrue_And_cons <| wpAny_isTrue_Compare1 <| Subscript_ <| ldL Y₁.F.ns Y₁.mp <| ldL Y₁.F.ns (by rfl) <| tail_any (typeIs_str _ _ _) PySem.F.slot_str_getitem.lookup (PySem.P.getItem_str (c := page.cps.toList.getD i 0) ?_ ?_ <| wpAny_Constant_str <| PySem.P.ne_str <| wpAny_truthy_bool ?_) (by with_unfolding_all rfl)
    · rw [decide_eq_false (by lia), decide_eq_false (by lia)]; rfl
    · rw [seqIndex_nat (by lia) (by show (i : Int) < (page.length : Int); lia)]; simpa using hci
    have e10 : (((⟨#[page.cps.toList.getD i 0]⟩ : Str).cps.toList) != (Str.ofString "\n").cps.toList) = (page.cps.toList.getD i 0 != 10) := by
      rw [show (Str.ofString "\n").cps.toList = [10] by decide +kernel]
      show ([page.cps.toList.getD i 0] != [10]) = _
      generalize page.cps.toList.getD i 0 = z
      by_cases hz : z = 10 <;> simp [hz, bne]
    rw [e10]
    cases c2 : page.cps.toList.getD i 0 != 10 with
    | false =>
      simp only [Bool.false_eq_true, if_false]
      have : scHit page word sc.1 i = false := by unfold scHit; rw [c2, Bool.and_false]; rfl
      rw [this]
      simp only [Bool.false_eq_true, if_false]
      exact wpAny_execs_nil <| wpAny_execs_nil ⟨_, _, rfl, ⟨_, tf, Y₁.drop, mn, ms, mf⟩, hfp Y₁⟩
    | true =>
    simp only [if_true]
    refine wpAny_allTrue_And_cons <| wpAny_isTrue_Compare1 <| wpAny_Subscript_str_slice <| ldL Y₁.F.ns Y₁.mp <| wpAny_evalPart_some <| ldL Y₁.F.ns (by rfl) <| wpAny_evalPart_some <| wpAny_BinOp <| ldL Y₁.F.ns (by rfl) <| ldL Y₁.F.ns (by exact ms) <| wpAny_add_int ⟨page, tp, some ((i : Int), ti), some ((i : Int) + (word.length : Int), _), rfl, rfl, rfl, ?_⟩
    refine post_val_or_str ⟨Nat.le_trans (Txt.slice_le page (some (i : Int)) (some ((i : Int) + (word.length : Int)))) (by rw [sizeLine_eq]; lia), fun t' k => ?_⟩
    dsimp only
    generalize ({ cls := .type "slice", data := .fields _ } : Obj) = oS
    have Y₂ := Y₁.step (.push oS)
    generalize h₁.push oS = h₂' at *
    refine ev_row (rows := words) (k := num) Y₂.F.ns Y₂.mw (by exact mn) (IsList.stay Y₂.F.ev.keep hl) hs hwd hnum fun t'' => PySem.P.eq_str <| wpAny_truthy_bool ?_
    have esl : ((if ((1 : Int) == 1 && (Builtin.Str.strSliceIndices (some (i : Int)) (some ((i : Int) + (word.length : Int))) 1 page.length).length == page.length) = true then page else ⟨((Builtin.Str.strSliceIndices (some (i : Int)) (some ((i : Int) + (word.length : Int))) 1 page.length).filterMap (page.cps[·]?)).toArray⟩ : Str).cps.toList == word.cps.toList) = slEq page word i := by
      have := slice_cps page (show i ≤ i + word.length by lia)
      rw [show (((i + word.length : Nat)) : Int) = (i : Int) + (word.length : Int) by lia] at this
      unfold Txt.slice at this
      rw [this, show i + word.length - i = word.length by lia]
      rfl
    have esl' : ∀ b : Bool, b = slEq page word i → b = slEq page word i := fun _ q => q
    generalize hb : ((_ : Str).cps.toList == word.cps.toList) = b
    have hb' : b = slEq page word i := hb.symm.trans esl
    subst hb'
    clear hb esl esl'
    cases c3 : slEq page word i with
    | false =>
      simp only [Bool.false_eq_true, if_false]
      have : scHit page word sc.1 i = false := by unfold scHit; rw [c3, Bool.and_false]
      rw [this]
      simp only [Bool.false_eq_true, if_false]
      exact wpAny_execs_nil <| wpAny_execs_nil ⟨_, _, rfl, ⟨_, tf, Y₂.drop, mn, ms, mf⟩, hfp Y₂⟩
    | true =>
    simp only [if_true]
    refine wpAny_allTrue_And_nil ?_
    simp only [if_true]
    have hH : scHit page word sc.1 i = true := by unfold scHit; rw [c3, c2, decide_eq_true (show sc.1 ≤ i by lia)]; rfl
    rw [hH]
    simp only [if_true]
    obtain ⟨vs', hpl, ht⟩ := Y₂.lt.ex
    have hvl := ht.length
    obtain ⟨nn, ho⟩ := id hpl
    refine wpAny_execs_cons <| wpAny_Expr <| MethodCall_ <| ldL Y₂.F.ns Y₂.ml <| getMethod_list_append ho rfl rfl <| callWith_method1 <| wpAny_items_cons <| wpAny_Tuple <| wpAny_items_cons <| wpAny_UnaryOp <| ldL Y₂.F.ns (by rfl) <| PySem.P.neg_int <| wpAny_items_cons <| ldL Y₂.F.ns (by exact ms) <| wpAny_items_cons <| ldL Y₂.F.ns (by exact mn) <| wpAny_items_nil ⟨szl, wpAny_items_nil ?_⟩
    dsimp only
    generalize ep : h₂'.push _ = h₃
    have k3 : ∀ b o, h₂'.get? b = some o → h₃.get? b = some o := by intro b o e; rw [← ep]; exact Heap.get?_push_of_some _ e
    have t3 : IntTup h₃ (.ref h₂'.objs.size) [-(i : Int), (word.length : Int), (num : Int)] := by rw [← ep]; exact ⟨_, _, _, rfl, Heap.get?_push_size _ rfl, .cons _ _ (.cons _ _ (.cons _ _ .nil))⟩
    clear ep
    have Y₃ := Y₂.step (.of_keeps k3)
    have hpl₃ := PlainList.stay (keeps_stay k3) hpl
    refine wpAny_list_append_plain (items := vs'.toArray) hpl₃ (fun h₄ hpl₄ hs₄ => ?_) (by rw [List.size_toArray, hvl, sizeLine_eq]; lia)
    dsimp only at hs₄ ⊢
    have Y₄ := Y₃.app hpl₃ (ht.stay (keeps_stay k3)) t3 hpl₄ (fun b o hb e => (hs₄.2 b hb).trans e)
    refine wpAny_execs_cons <| wpAny_Assign_Name <| wpAny_BinOp <| ldL Y₄.F.ns (by rfl) <| ldL Y₄.F.ns (by exact ms) <| wpAny_add_int ?_
    refine wpAny_storeName_local rfl Y₄.F.ns (fun h₅ hn₅ hs₅ => ?_) rfl
    dsimp only at hs₅ ⊢
    have Y₅ := Y₄.store (fun b o hb e => (hs₅.2 b hb).trans e) hn₅ rfl rfl rfl
    exact wpAny_execs_nil <| wpAny_execs_nil ⟨_, _, rfl, ⟨_, _, Y₅.drop, mn, ms, congrArg (fun z => some (Value.int z _)) (Int.natCast_add i word.length).symm⟩, hfp Y₅⟩
  · rintro h tk invX
    refine hid fun Gx hGx => ?_
    obtain ⟨m, tf, X, _⟩ := invX
    refine hGx ?_
    clear hGx Gx
    exact hR h tk m X
end
end Mine
end

section
set_option maxHeartbeats 1000000
namespace Mine
open PySem PySem.W PyProof.Rows PySem.Calls

noncomputable def neg3 (x : List Int) : List Int := [-(x.getD 0 0), x.getD 1 0, x.getD 2 0]
noncomputable def cElt : PySem.Expr → PySem.Expr
  | .ListComp e _ _ _ => e
  | _ => noExpr

theorem fok_tup (f : Nat → List Int) : FOk fun i h y => IntTup h y (f i) := ⟨fun _ _ _ _ k x => x.stay k, fun _ _ _ _ _ I _ k x => x.soft I k⟩
theorem FL.tups {f : Nat → List Int} {h : Heap} {is : List Nat} {ys : List Value} (x : FL (fun i h y => IntTup h y (f i)) h is ys) : TupsAre h ys (is.map f) := by
  induction x with
  | nil => exact .nil
  | cons a _ ih => exact .cons a ih
theorem map_range_getD {α β : Type} (l : List α) (d : α) (f : α → β) : (List.range l.length).map (fun i => f (l.getD i d)) = l.map f := by
  refine List.ext_getElem (by simp) fun i h1 h2 => ?_
  have : i < l.length := by simpa using h2
  simp [this]
theorem filter_true {α : Type} (l : List α) : l.filter (fun _ => true) = l := by simp

section
variable {prog : Program} {w : World} {A : Around} {s : Shared} {R : Result → Shared → Prop} {mg mb : Str → Option Value}

theorem scan_outer {L l r c : Addr} {h₀ : Heap} {page : Str} {tp : Tok} {words : List Str} {vs : List Value} {g : Array GenState} {dr : Drawn} {os : OsState} {tgt it : PySem.Expr} {body : List Stmt} {pos : Pos} {E : Value → Shared → Prop} {Q : Flow → Shared → Prop}
    (hst : stAt dScan.body 1 = .For tgt it body [] pos) (S : Stat w mg mb h₀) (hh : A.handled = none) (hl : h₀.IsList r vs.toArray) (hs : StrsAre vs words) (hpg : page.length ≤ 100) (hwn : words.length ≤ 100) (hwl : ∀ word ∈ words, word.length ≤ 1000)
    (hR : ∀ h tk m, SSt h₀ L l r page tp [] (scW page words words.length) m h → Q .next ⟨h, g, dr, tk, os⟩)
    {m : Str → Option Value} {h : Heap} {tk : Nat} (X : SSt h₀ L l r page tp [] [] m h) :
    wpAny (model prog w) A (exec (.For tgt it body [] pos) (envSc L c)) Q E ⟨h, g, dr, tk, os⟩ := by
  have e : Stmt.For tgt it body [] pos = stAt dScan.body 1 := hst.symm
  cases e
  clear hst
  have S₁ := S.stay X.F.ev.keep
  have hlen : vs.length = words.length := StrsAre.length hs
  refine wpAny_For <| Call_ <| ldB S₁.g (g_range S₁) S₁.b (b_range S₁) <| PyProof.Rows.callWith_type1 <| wpAny_items_cons <| Call_ <| ldB S₁.g (g_len S₁) S₁.b (b_len S₁) <| PyProof.Rows.callWith_builtin1 <| wpAny_items_cons <| ldL X.F.ns X.mw <| wpAny_items_nil <| call_len_list (IsList.stay X.F.ev.keep hl) (by rw [List.size_toArray, hlen]; lia) <| wpAny_items_nil <| call_range_1 ?_
  rw [show vs.toArray.size = words.length by rw [List.size_toArray, hlen]]
  dsimp only
  generalize ho : ({ cls := .type "range", data := .fields _ } : Obj) = oR
  refine wpAny_pyIter_range (by rw [← ho]; exact IsRange.new ..) (range_up_small _ (by lia)) ?_
  rw [range_up]
  dsimp only
  clear ho
  have X₁ := X.step (.push oR)
  have X₂ := X₁.step (.push (rangeO words.length))
  have hJ0 : h₀.get? (h.push oR).objs.size = none := X₁.F.ev.fresh (Nat.le_refl _)
  have hit : IsRangeIter ((h.push oR).push (rangeO words.length)) (h.push oR).objs.size (0 + ((0 : Nat) : Int) * 1) ((words.length : Int) - ((0 : Nat) : Int)) 1 := by
    have : ((h.push oR).push (rangeO words.length)).get? (h.push oR).objs.size = some (rangeO words.length) := Heap.get?_push_size _ rfl
    simpa [IsRangeIter] using this
  show codeAny _ _ (.forLoop _ (.ref (h.push oR).objs.size) _ _ _) _ ⟨(h.push oR).push (rangeO words.length), g, dr, _, os⟩
  generalize (h.push oR).push (rangeO words.length) = h₂ at *
  generalize (h.push oR).objs.size = J at *
  clear X₁ X S₁
  refine for_walk (Walks.range hh J 0 1 words.length) (fun i h => ∃ m, SSt h₀ L l r page tp [] (scW page words i) m h) ?_ ?_ ?_ hit ⟨m, X₂⟩
  · rintro i h h' ⟨m, X⟩ st k
    exact ⟨m, X.setIt st hJ0 (fun q hq => by cases hq) fun b o hb e => k b o (fun q => hb (List.mem_singleton.mp q)) e⟩
  · rintro i h tk v E hi ⟨ti, rfl⟩ st ⟨m, X⟩
    refine wpAny_of_eq rfl (wpAny_assign_Name ?_)
    have Y := X.with st
    have ei : (0 : Int) + (i : Int) * 1 = (i : Int) := by lia
    rw [ei]
    refine wpAny_storeName_local rfl Y.F.ns (fun h₁ hn₁ hs₁ => ?_) rfl
    dsimp only at hs₁ ⊢
    have Y₁ := Y.store (fun b o hb e => (hs₁.2 b hb).trans e) hn₁ rfl rfl rfl
    clear hs₁ hn₁ Y X
    have hwd : words[i]? = some (words.getD i "") := by rw [List.getD_eq_getElem?_getD, List.getElem?_eq_getElem hi]; rfl
    have hmem : words.getD i "" ∈ words := List.mem_of_getElem? hwd
    have hwl' := hwl _ hmem
    have S₁ := S.stay Y₁.F.ev.keep
    have hi2 : i < 2 ^ 20 := by lia
    refine letQ ?_
    intro Qx Ex
    refine wpAny_execs_cons <| wpAny_Assign_Name <| Call_ <| ldB S₁.g (g_len S₁) S₁.b (b_len S₁) <| PyProof.Rows.callWith_builtin1 <| wpAny_items_cons <| ev_row Y₁.F.ns Y₁.mw (by rfl) (IsList.stay Y₁.F.ev.keep hl) hs hwd hi2 fun t' => wpAny_items_nil <| PySem.P.len_str (by lia) ?_
    refine wpAny_storeName_local rfl Y₁.F.ns (fun h₂ hn₂ hs₂ => ?_) rfl
    dsimp only at hs₂ ⊢
    have Y₂ := Y₁.store (fun b o hb e => (hs₂.2 b hb).trans e) hn₂ rfl rfl rfl
    refine wpAny_execs_cons <| wpAny_Assign_Name <| wpAny_Constant_int ?_
    refine wpAny_storeName_local rfl Y₂.F.ns (fun h₃ hn₃ hs₃ => ?_) rfl
    dsimp only at hs₃ ⊢
    have Y₃ := Y₂.store (fun b o hb e => (hs₃.2 b hb).trans e) hn₃ rfl rfl rfl
    have hacl : (scW page words i).length ≤ 100000 := by
      have h1 := scW_len page words i
      have h2 : i * page.length ≤ 100 * 100 := Nat.mul_le_mul (by lia) hpg
      lia
    refine wpAny_execs_cons <| scan_inner (num := i) rfl S hh hl hs hwd hi2 (by lia) hwl' hacl ?_ Y₃ (by rfl) (by rfl) ⟨_, by rfl⟩
    intro h₄ tk₄ m₄ Y₄
    refine wpAny_execs_nil ⟨h₄, tk₄, rfl, ⟨m₄, Y₄.drop⟩, fun b hb o e => ?_⟩
    cases List.mem_singleton.mp hb
    have st' : h.get? J = some _ := st
    rw [st'] at e; cases e
    exact (Y₄.kp _ (.head _)).1
  · rintro h tk ⟨m, X⟩
    exact hR h tk m X

theorem scan_ct {r : Addr} {page : Str} {tp : Tok} {words : List Str} {vs : List Value} (S : Stat w mg mb s.heap) (hl : s.heap.IsList r vs.toArray) (hs : StrsAre vs words) (hpg : page.length ≤ 100) (hwn : words.length ≤ 100) (hwl : ∀ word ∈ words, word.length ≤ 1000)
    (h3 : ∀ x ∈ scW page words words.length, T3 x) (hnd : ((scW page words words.length).map enc).Nodup) (h2 : 2 ≤ (scW page words words.length).length) (h64 : (scW page words words.length).length < 64) (hroom : A.depth < recursionLimit) (hh : A.handled = none)
    (h : ∀ d (ys : List (List Int)) h' tk, Ev s.heap h' → LT h' d (ys.map neg3) → ys.Perm (scW page words words.length) → (ys.map enc).Pairwise (· < ·) → R (.ok (.ret (.ref d))) { s with heap := h', toks := tk }) :
    codeAny (model prog w) A (.call (.ref 103) ⟨[.str page tp, .ref r], []⟩) R s := by
  refine hid fun Gx hGx => ?_
  obtain ⟨h₀, g, dr, tk, os⟩ := s
  refine hGx ?_
  clear hGx Gx
  dsimp only at *
  refine hid fun Gx hGx => ?_
  obtain ⟨pm, c, ct, hK, hC⟩ := K103 w.params
  refine hGx ?_
  clear hGx Gx
  refine codeAny_call_def hroom (S.K _ _ hK) rfl S.nl (codeRec_of S.K hC) rfl (BindsTo.of_eq (binds := [(("page" : Str), .str page tp), (("words" : Str), .ref r)]) rfl) (show ∀ x ∈ dScan.scope.names, x.2 ≠ .cell by decide +kernel)
    (by intro y hy; simp only [List.mem_cons, List.not_mem_nil, or_false] at hy; rcases hy with rfl | rfl <;> rfl) ?_ rfl rfl rfl
  intro h₁ hn k₁
  have hL0 : h₀.get? h₀.objs.size = none := Heap.get?_none_of_le (Nat.le_refl _)
  show wpAny _ (A.deeper (envSc h₀.objs.size c)) (execs dScan.body (envSc h₀.objs.size c)) _ _ _
  dsimp only at *
  have F : Fm h₀ h₀.objs.size _ h₁ := ⟨.of_keeps k₁, hn, hL0⟩
  clear hn k₁
  generalize h₀.objs.size = L at *
  generalize hA : A.deeper (envSc L c) = A'
  have hh' : A'.handled = none := by rw [← hA]; exact hh
  clear hA
  refine letQ ?_
  intro Qx Ex
  refine wpAny_execs_cons <| wpAny_Assign_Name <| wpAny_List <| wpAny_items_nil ⟨szl, ?_⟩
  dsimp only
  have kp : ∀ b o, h₁.get? b = some o → (h₁.push { cls := .type "list", data := .seq [].toArray }).get? b = some o := fun b o e => Heap.get?_push_of_some _ e
  have lt₂ : LT (h₁.push { cls := .type "list", data := .seq [].toArray }) h₁.objs.size [] := ⟨[], ⟨0, Heap.get?_push_size _ rfl⟩, .nil⟩
  have hl0 : h₀.get? h₁.objs.size = none := F.ev.fresh (Nat.le_refl _)
  have F₂ := F.keeps kp
  generalize h₁.push { cls := .type "list", data := .seq [].toArray } = h₂ at *
  generalize h₁.objs.size = l at *
  clear kp F
  refine wpAny_storeName_local rfl F₂.ns (fun h₃ hn₃ hs₃ => ?_) rfl
  dsimp only at hs₃ ⊢
  have k₃ : But L h₂ h₃ := fun b o hb e => (hs₃.2 b hb).trans e
  have X₃ : SSt h₀ L l r page tp [] [] _ h₃ := { F := F₂.store k₃ hn₃, mp := by rfl, mw := by rfl, ml := by rfl, lt := lt₂.soft (.ns F₂.ns) k₃ (lt₂.ne F₂.ns), l0 := hl0, kp := fun q hq => by cases hq }
  refine wpAny_execs_cons <| scan_outer rfl S hh' hl hs hpg hwn hwl ?_ X₃
  intro h₄ tk₄ m₄ X₄
  have S₄ := S.stay X₄.F.ev.keep
  obtain ⟨vs₄, hp₄, ht₄⟩ := X₄.lt.ex
  refine wpAny_execs_cons <| wpAny_Return_some <| eval_comp (cl := []) (closureFor_none (by decide +kernel)) (by decide +kernel) rfl (by decide +kernel) ?_
  refine Call_ <| ldB S₄.g (g_sorted S₄) S₄.b (b_sorted S₄) <| PyProof.Rows.callWith_builtin1 <| wpAny_items_cons <| ldL X₄.F.ns X₄.ml <| wpAny_items_nil <| sorted_trip hp₄.isList ht₄ h3 hnd h2 h64 fun D h₅ ys k₅ hD lt₅ hperm hasc => ?_
  dsimp only at k₅ hD ⊢
  obtain ⟨vs₅, hp₅, ht₅⟩ := lt₅.ex
  have hyl : ys.length = (scW page words words.length).length := hperm.length_eq
  have hy3 : ∀ x ∈ ys, T3 x := fun x hx => h3 x (hperm.mem_iff.mp hx)
  refine wpAny_pyIter_list hp₅.isList ?_
  refine ⟨_, _, _, _, _, h₅, _, fun _ => true, fun i h y => IntTup h y (neg3 (ys.getD i [])), g, dr, os, _, _, rfl, rfl, tups_at (xs := ["place", "size", "number"]) hh' hp₅.isList ht₅ (by lia) (fun x hx => by obtain ⟨a, b, c, rfl, _⟩ := hy3 x hx; rfl) rfl (fun C => ⟨rfl, rfl, by intro x hx; simp only [List.mem_cons, List.not_mem_nil, or_false] at hx; rcases hx with rfl | rfl | rfl <;> rfl⟩) rfl (fok_tup _) test_nil ?_, ?_⟩
  · rintro i C m h tk E hi _ ⟨us, m0, hus, rfl⟩ hn hev
    have hmem : ys.getD i [] ∈ ys := by rw [List.getD_eq_getElem?_getD, List.getElem?_eq_getElem hi]; exact List.getElem_mem hi
    refine hid fun Gx hGx => ?_
    obtain ⟨a, b, c, e, _⟩ := hy3 _ hmem
    refine hGx ?_
    clear hGx Gx
    dsimp only
    rw [e] at hus ⊢
    obtain ⟨t1, t2, t3, rfl⟩ : ∃ t1 t2 t3, us = [.int a t1, .int b t2, .int c t3] := by
      cases hus with
      | cons _ t1 hus => cases hus with
        | cons _ t2 hus => cases hus with
          | cons _ t3 hus => cases hus; exact ⟨_, _, _, rfl⟩
    refine wpAny_Tuple <| wpAny_items_cons <| wpAny_UnaryOp <| ldL hn (by rfl) <| PySem.P.neg_int <| wpAny_items_cons <| ldL hn (by rfl) <| wpAny_items_cons <| ldL hn (by rfl) <| wpAny_items_nil ⟨szl, ?_⟩
    exact ⟨_, _, rfl, .push _, ⟨_, _, _, rfl, Heap.get?_push_size _ rfl, .cons _ _ (.cons _ _ (.cons _ _ .nil))⟩, fun a' q => by cases q; exact Heap.get?_none_of_le (Nat.le_refl _)⟩
  · intro D' h₆ tk₆ ys₆ hD' hpl₆ hev₆ hfl
    have ht := hfl.tups
    rw [filter_true, map_range_getD] at ht
    exact h D' ys h₆ _ ((X₄.F.ev.trans (.of_keeps k₅)).trans hev₆) ⟨ys₆, hpl₆, ht⟩ hperm hasc
end
end Mine
end

section
set_option maxHeartbeats 1000000
namespace Mine
open PySem PySem.W PyProof.Rows PySem.Calls


noncomputable def StayBut (b : Addr) (h h' : Heap) : Prop := ∀ b' o, b' ≠ b → h.get? b' = some o → ¬ IsTab o → h'.get? b' = some o
theorem But.stayBut {b : Addr} {h h' : Heap} (k : But b h h') : StayBut b h h' := fun b' o hb e _ => k b' o hb e
theorem IntTup.gen {h h' : Heap} {a : Addr} (I : SoftA h a) (k : StayBut a h h') {v : Value} {ns : List Int} (x : IntTup h v ns) : IntTup h' v ns := by
  refine hid fun Gx hGx => ?_
  obtain ⟨o, ho, hp, i3⟩ := I
  obtain ⟨t, its, n, e, ht, hi⟩ := x
  refine hGx ?_
  clear hGx Gx
  exact ⟨t, its, n, e, k _ _ (fun q => by rw [q, ho] at ht; cases ht; exact i3 _ _ rfl rfl) ht (not_tab nofun), hi⟩
theorem TupsAre.gen {h h' : Heap} {a : Addr} (I : SoftA h a) (k : StayBut a h h') {vs : List Value} {nss : List (List Int)} (x : TupsAre h vs nss) : TupsAre h' vs nss := by
  induction x with
  | nil => exact .nil
  | cons y _ ih => exact .cons (y.gen I k) ih
theorem LT.gen {h h' : Heap} {b a : Addr} (I : SoftA h b) (k : StayBut b h h') (hne : a ≠ b) {xs : List (List Int)} (X : LT h a xs) : LT h' a xs := (by obtain ⟨vs, ⟨n, p⟩, t⟩ := X.ex; exact ⟨vs, ⟨n, k _ _ hne p (not_tab nofun)⟩, t.gen I k⟩)
theorem SoftA.cell {h : Heap} {c : Addr} {v : Option Value} (x : h.IsCell c v) : SoftA h c := by
  obtain ⟨o, e, hd⟩ := x
  exact ⟨o, e, .of_data fun vs => by rw [hd]; nofun, fun vs n q => by rw [hd] at q; cases q⟩
theorem cell_ne {h : Heap} {c a : Addr} {v : Option Value} {o : Obj} (x : h.IsCell c v) (e : h.get? a = some o) (hd : ∀ v, o.data ≠ .cell v) : a ≠ c := fun q => by
  obtain ⟨o', e', hd'⟩ := x
  rw [q, e'] at e; cases e; exact hd _ hd'
/- the namespace or a cell -/
noncomputable def Spot (L : Addr) (h : Heap) (b : Addr) : Prop := (b = L ∧ ∃ m, h.Ns L m) ∨ ∃ v, h.IsCell b v
theorem Spot.soft {L b : Addr} {h : Heap} (x : Spot L h b) : SoftA h b := by
  rcases x with ⟨rfl, m, hn⟩ | ⟨v, hc⟩
  · exact .ns hn
  · exact .cell hc
theorem Spot.seq_ne {L b a : Addr} {h : Heap} {o : Obj} (x : Spot L h b) (e : h.get? a = some o) (hd : ∃ vs n, o.data = .seq vs n) : a ≠ b := by
  obtain ⟨vs, n, hd⟩ := hd
  rcases x with ⟨rfl, m, hn⟩ | ⟨v, hc⟩
  · exact ns_ne hn e (by rw [hd]; nofun)
  · exact cell_ne hc e (by rw [hd]; nofun)
/- facts that bear the changes of a frame -/
structure Rob (L : Addr) (D : Heap → Prop) : Prop where
  stay : ∀ h h', Stay h h' → D h → D h'
  gen : ∀ h h' b, Spot L h b → StayBut b h h' → D h → D h'
theorem Rob.ns {L : Addr} {D : Heap → Prop} (r : Rob L D) (h h' : Heap) (m : Str → Option Value) (hn : h.Ns L m) (k : But L h h') (x : D h) : D h' := r.gen h h' L (.inl ⟨rfl, m, hn⟩) (But.stayBut k) x
theorem Rob.cell {L : Addr} {D : Heap → Prop} (r : Rob L D) (h h' : Heap) (c : Addr) (v : Option Value) (hn : h.IsCell c v) (k : But c h h') (x : D h) : D h' := r.gen h h' c (.inr ⟨v, hn⟩) (But.stayBut k) x
theorem Rob.and {L : Addr} {D E : Heap → Prop} (a : Rob L D) (b : Rob L E) : Rob L fun h => D h ∧ E h :=
  ⟨fun h h' k x => ⟨a.stay h h' k x.1, b.stay h h' k x.2⟩, fun h h' c n k x => ⟨a.gen h h' c n k x.1, b.gen h h' c n k x.2⟩⟩
theorem rob_list {L l : Addr} {vs : Array Value} : Rob L fun h => h.IsList l vs :=
  ⟨fun _ _ k x => IsList.stay k x, fun _ _ _ sp k x => (by obtain ⟨o, e, hc, n, hd⟩ := x; exact ⟨o, k _ _ (sp.seq_ne e ⟨_, _, hd⟩) e (not_tab (by rw [hc]; nofun)), hc, n, hd⟩)⟩
theorem rob_plist {L l : Addr} {vs : Array Value} : Rob L fun h => h.PlainList l vs :=
  ⟨fun _ _ k x => PlainList.stay k x, fun _ _ _ sp k x => (by obtain ⟨n, e⟩ := x; exact ⟨n, k _ _ (sp.seq_ne e ⟨_, _, rfl⟩) e (not_tab nofun)⟩)⟩
theorem rob_LT {L l : Addr} {xs : List (List Int)} : Rob L fun h => LT h l xs :=
  ⟨fun _ _ k x => x.stay k, fun _ _ _ sp k x => x.gen sp.soft k ((by obtain ⟨_, ⟨_, e⟩, _⟩ := x.ex; exact sp.seq_ne e ⟨_, _, rfl⟩))⟩
theorem rob_true {L : Addr} : Rob L fun _ => True := ⟨fun _ _ _ _ => trivial, fun _ _ _ _ _ _ => trivial⟩
theorem rob_led {prog : Program} {w : World} {L d : Addr} {v : Value} {q : Sm} (hd : d ≠ L) : Rob L fun h => LedS prog w h v d q := by
  refine ⟨fun _ _ k x => Led.stay k x, fun h h' b sp k x => ?_⟩
  refine hid fun Gx hGx => ?_
  obtain ⟨t, n, u1, u2, u3, u4, r, ht, hs, xs, ⟨o, es, ep, e, c, dd, l, ks, nd⟩, V⟩ := x
  refine hGx ?_
  clear hGx Gx
  have nd' : d ≠ b := by
    rcases sp with ⟨rfl, m, hn⟩ | ⟨v, hc⟩
    · exact hd
    · exact cell_ne hc e (by rw [dd]; nofun)
  refine ⟨t, n, u1, u2, u3, u4, r, k _ _ (sp.seq_ne ht ⟨_, _, rfl⟩) ht (not_tab nofun), hs, xs, ⟨o, es, ep, k _ _ nd' e (not_tab (by rw [c.1]; nofun)), c, dd, l, fun x hx => ?_, nd⟩, V⟩
  refine hid fun Gx hGx => ?_
  obtain ⟨o', its, n', e', c', hd', r'⟩ := ks x hx
  refine hGx ?_
  clear hGx Gx
  exact ⟨o', its, n', k _ _ (sp.seq_ne e' ⟨_, _, hd'⟩) e' (not_tab (by rw [c']; nofun)), c', hd', r'⟩

structure LS (h₀ : Heap) (L : Addr) (m : Str → Option Value) (k1 k2 k3 k4 : Option Value) (D : Heap → Prop) (h : Heap) : Prop where
  F : Fm h₀ L m h
  c1 : h.IsCell (L + 1) k1
  c2 : h.IsCell (L + 2) k2
  c3 : h.IsCell (L + 3) k3
  c4 : h.IsCell (L + 4) k4
  n1 : h₀.get? (L + 1) = none
  n2 : h₀.get? (L + 2) = none
  n3 : h₀.get? (L + 3) = none
  n4 : h₀.get? (L + 4) = none
  rob : Rob L D
  dat : D h
theorem an {L i j : Nat} (h : i ≠ j := by decide) : L + i ≠ L + j := fun q => h (Nat.add_left_cancel q)
theorem an0 {L i : Nat} (h : i ≠ 0 := by decide) : L + i ≠ L := fun q => h (Nat.add_left_cancel (q.trans (Nat.add_zero L).symm))
theorem IsCell.at {h h' : Heap} {c : Addr} {v : Option Value} (x : h.IsCell c v) (k : ∀ o, h.get? c = some o → h'.get? c = some o) : h'.IsCell c v := (by obtain ⟨o, e, hd⟩ := x; exact ⟨o, k _ e, hd⟩)
section
variable {h₀ h h' : Heap} {L : Addr} {m m' : Str → Option Value} {k1 k2 k3 k4 v : Option Value} {D D' : Heap → Prop}
theorem LS.step (X : LS h₀ L m k1 k2 k3 k4 D h) (x : Ev h h') : LS h₀ L m k1 k2 k3 k4 D h' :=
  { X with F := X.F.step x, c1 := IsCell.stay x.keep X.c1, c2 := IsCell.stay x.keep X.c2, c3 := IsCell.stay x.keep X.c3, c4 := IsCell.stay x.keep X.c4, dat := X.rob.stay _ _ x.keep X.dat }
theorem LS.keeps (X : LS h₀ L m k1 k2 k3 k4 D h) (k : ∀ b o, h.get? b = some o → h'.get? b = some o) : LS h₀ L m k1 k2 k3 k4 D h' := X.step (.of_keeps k)
theorem LS.store (X : LS h₀ L m k1 k2 k3 k4 D h) (k : But L h h') (hn : h'.Ns L m') : LS h₀ L m' k1 k2 k3 k4 D h' :=
  { X with F := X.F.store k hn, c1 := IsCell.at X.c1 fun o e => k _ _ an0 e, c2 := IsCell.at X.c2 fun o e => k _ _ an0 e, c3 := IsCell.at X.c3 fun o e => k _ _ an0 e, c4 := IsCell.at X.c4 fun o e => k _ _ an0 e, dat := X.rob.ns _ _ _ X.F.ns k X.dat }
theorem LS.fm (X : LS h₀ L m k1 k2 k3 k4 D h) {c : Addr} {w : Option Value} (hc : h.IsCell c w) (hn : h₀.get? c = none) (k : But c h h') : Fm h₀ L m h' :=
  ⟨X.F.ev.soft (.cell hc) hn k, X.F.ns.at' fun o e => k _ _ (by obtain ⟨oL, es, ep, eL, dL, _⟩ := X.F.ns; exact cell_ne hc eL (by rw [dL]; nofun)) e, X.F.L0⟩
theorem LS.set1 (X : LS h₀ L m k1 k2 k3 k4 D h) (k : But (L + 1) h h') (hc : h'.IsCell (L + 1) v) : LS h₀ L m v k2 k3 k4 D h' :=
  { X with F := X.fm X.c1 X.n1 k, c1 := hc, c2 := IsCell.at X.c2 fun o e => k _ _ an e, c3 := IsCell.at X.c3 fun o e => k _ _ an e, c4 := IsCell.at X.c4 fun o e => k _ _ an e, dat := X.rob.cell _ _ _ _ X.c1 k X.dat }
theorem LS.set2 (X : LS h₀ L m k1 k2 k3 k4 D h) (k : But (L + 2) h h') (hc : h'.IsCell (L + 2) v) : LS h₀ L m k1 v k3 k4 D h' :=
  { X with F := X.fm X.c2 X.n2 k, c1 := IsCell.at X.c1 fun o e => k _ _ an e, c2 := hc, c3 := IsCell.at X.c3 fun o e => k _ _ an e, c4 := IsCell.at X.c4 fun o e => k _ _ an e, dat := X.rob.cell _ _ _ _ X.c2 k X.dat }
theorem LS.set3 (X : LS h₀ L m k1 k2 k3 k4 D h) (k : But (L + 3) h h') (hc : h'.IsCell (L + 3) v) : LS h₀ L m k1 k2 v k4 D h' :=
  { X with F := X.fm X.c3 X.n3 k, c1 := IsCell.at X.c1 fun o e => k _ _ an e, c2 := IsCell.at X.c2 fun o e => k _ _ an e, c3 := hc, c4 := IsCell.at X.c4 fun o e => k _ _ an e, dat := X.rob.cell _ _ _ _ X.c3 k X.dat }
theorem LS.set4 (X : LS h₀ L m k1 k2 k3 k4 D h) (k : But (L + 4) h h') (hc : h'.IsCell (L + 4) v) : LS h₀ L m k1 k2 k3 v D h' :=
  { X with F := X.fm X.c4 X.n4 k, c1 := IsCell.at X.c1 fun o e => k _ _ an e, c2 := IsCell.at X.c2 fun o e => k _ _ an e, c3 := IsCell.at X.c3 fun o e => k _ _ an e, c4 := hc, dat := X.rob.cell _ _ _ _ X.c4 k X.dat }
theorem LS.via (X : LS h₀ L m k1 k2 k3 k4 D h) (x : Ev h₀ h') (hn : h'.Ns L m') (k : StayBut L h h') : LS h₀ L m' k1 k2 k3 k4 D h' := by
  have cc : ∀ {c : Addr} {w : Option Value}, h.IsCell c w → c ≠ L → h'.IsCell c w := fun hc hne => (by obtain ⟨o, e, hd⟩ := hc; exact ⟨o, k _ _ hne e (fun ⟨ps, q⟩ => by rw [q] at hd; cases hd), hd⟩)
  exact { X with F := ⟨x, hn, X.F.L0⟩, c1 := cc X.c1 an0, c2 := cc X.c2 an0, c3 := cc X.c3 an0, c4 := cc X.c4 an0, dat := X.rob.gen _ _ _ (.inl ⟨rfl, _, X.F.ns⟩) k X.dat }
theorem LS.via4 (X : LS h₀ L m k1 k2 k3 k4 D h) (x : Ev h₀ h') (hc : h'.IsCell (L + 4) v) (k : StayBut (L + 4) h h') : LS h₀ L m k1 k2 k3 v D h' := by
  have cc : ∀ {c : Addr} {w : Option Value}, h.IsCell c w → c ≠ L + 4 → h'.IsCell c w := fun hc hne => (by obtain ⟨o, e, hd⟩ := hc; exact ⟨o, k _ _ hne e (fun ⟨ps, q⟩ => by rw [q] at hd; cases hd), hd⟩)
  have hn : h'.Ns L m := by
    refine hid fun Gx hGx => ?_
    obtain ⟨o, es, ep, e, hd, r⟩ := X.F.ns
    refine hGx ?_
    clear hGx Gx
    exact ⟨o, es, ep, k _ _ (cell_ne X.c4 e (by rw [hd]; nofun)) e (not_tab_dict hd), hd, r⟩
  exact { X with F := ⟨x, hn, X.F.L0⟩, c1 := cc X.c1 an, c2 := cc X.c2 an, c3 := cc X.c3 an, c4 := hc, dat := X.rob.gen _ _ _ (.inr ⟨_, X.c4⟩) k X.dat }
theorem LS.add (X : LS h₀ L m k1 k2 k3 k4 D h) (r : Rob L D') (d : D' h) : LS h₀ L m k1 k2 k3 k4 (fun h => D h ∧ D' h) h := { X with rob := X.rob.and r, dat := ⟨X.dat, d⟩ }
end

noncomputable abbrev envLw (L fa : Addr) (cd : Value) : Env := envOfC "law" dLaw.scope L fa cd
example (L fa : Addr) (cd : Value) : (envLw L fa cd).cells.lookup ("sheet" : Str) = some (L + 1) := by rfl
example (L fa : Addr) (cd : Value) : (envLw L fa cd).cells.lookup ("strips" : Str) = some (L + 2) := by rfl
example (L fa : Addr) (cd : Value) : (envLw L fa cd).cells.lookup ("sought" : Str) = some (L + 3) := by rfl
example (L fa : Addr) (cd : Value) : (envLw L fa cd).cells.lookup ("keys" : Str) = some (L + 4) := by rfl
end Mine
end

section
set_option maxHeartbeats 1000000
namespace Mine
open PySem PySem.W PyProof.Rows PySem.Calls

noncomputable def sgn (x : Int) : Str := ⟨#[(Str.ofString "ab-\n").cps.toList.getD (x.fmod 4).toNat 0]⟩
noncomputable def pageOf (zs : List Int) : Str := Txt.join "" ((zs.take 8).map sgn) ++ ("aab\na" : Str)
noncomputable def wsA : List Str := ["aa", "a", "ab", "ba"]
noncomputable def wsB : List Str := ["a", "ab", "ba", "aa"]
noncomputable def wordsOf (zs : List Int) : List Str := [wsA.getD ((zs.take 8).sum.fmod 4).toNat "", wsB.getD (((zs.take 8).sum.fdiv 4).fmod 4).toNat "", ""]
noncomputable def rowsOf (zs : List Int) : List Str := Txt.split (pageOf zs) "\n"

theorem fok_str (f : Nat → Str) : FOk fun i _ y => ∃ t, y = Value.str (f i) t := ⟨fun _ _ _ _ _ x => x, fun _ _ _ _ _ _ _ _ x => x⟩
theorem FL.strs {f : Nat → Str} {h : Heap} {is : List Nat} {ys : List Value} (x : FL (fun i _ y => ∃ t, y = Value.str (f i) t) h is ys) : StrsAre ys (is.map f) := by
  induction x with
  | nil => exact .nil
  | cons a _ ih => obtain ⟨t, rfl⟩ := a; exact .cons _ _ ih
theorem ints_take {vs : List Value} {ns : List Int} (hi : IntsAre vs ns) (k : Nat) : IntsAre (vs.take k) (ns.take k) := by
  induction hi generalizing k with
  | nil => simp only [List.take_nil]; exact .nil
  | cons n t hi ih =>
    cases k with
    | zero => exact .nil
    | succ k => exact .cons _ _ (ih k)
theorem sum_ones {α : Type} (l : List α) : (l.map fun _ => 1).sum = l.length := by
  induction l with
  | nil => rfl
  | cons a l ih => rw [List.map_cons, List.sum_cons, List.length_cons, ih]; lia
theorem fmod4 (x : Int) : 0 ≤ x.fmod 4 ∧ x.fmod 4 < 4 := ⟨Int.fmod_nonneg_of_pos x (by decide), Int.fmod_lt_of_pos x (by decide)⟩

section
variable {prog : Program} {w : World} {A : Around} {s : Shared} {R : Result → Shared → Prop} {mg mb : Str → Option Value}

theorem add_str' {E : Value → Shared → Prop} {x y : Str} {t u : Tok} {Q : Value → Shared → Prop} (hl : x.length + y.length ≤ sizeLine) (h : ∀ t' k, Q (.str (x ++ y) t') { s with toks := k }) : wpAny (model prog w) A (binaryOp .Add (.str x t) (.str y u)) Q E s := by
  refine PySem.P.add_str ?_
  refine hid fun Gx hGx => ?_
  obtain ⟨hp, g, dr, tk, os⟩ := s
  refine hGx ?_
  clear hGx Gx
  by_cases h1 : x.length = 0
  · rw [if_pos (by simpa using h1)]
    have e : x ++ y = y := by
      obtain ⟨cx⟩ := x; obtain ⟨cy⟩ := y
      have : cx = #[] := Array.eq_empty_of_size_eq_zero h1
      subst this
      show (⟨#[] ++ cy⟩ : Str) = ⟨cy⟩
      simp
    rw [← e]; exact h _ tk
  · rw [if_neg (by simpa using h1)]
    by_cases h2 : y.length = 0
    · rw [if_pos (by simpa using h2)]
      have e : x ++ y = x := by
        obtain ⟨cx⟩ := x; obtain ⟨cy⟩ := y
        have : cy = #[] := Array.eq_empty_of_size_eq_zero h2
        subst this
        show (⟨cx ++ #[]⟩ : Str) = ⟨cx⟩
        simp
      rw [← e]; exact h _ tk
    · rw [if_neg (by simpa using h2)]
      refine ⟨?_, h _ _⟩
      show (x.cps ++ y.cps).size ≤ sizeLine
      rw [Array.size_append]; exact hl

theorem law_a {L fa : Addr} {cd : Value} {h₀ h : Heap} {a : Addr} {vals : List Value} {zs : List Int} {m : Str → Option Value} {k1 k2 k3 k4 : Option Value} {D : Heap → Prop} {g : Array GenState} {dr : Drawn} {tk : Nat} {os : OsState} {E : Value → Shared → Prop} {Q : Flow → Shared → Prop}
    (S : Stat w mg mb h₀) (hh : A.handled = none) (X : LS h₀ L m k1 k2 k3 k4 D h) (ms : m "script" = some (.ref a)) (hl : h₀.IsList a vals.toArray) (hi : IntsAre vals zs) (h63 : zs.length ≤ 63)
    (next : ∀ l h' tk' m' t1, m' "taken" = some (.ref l) → LS h₀ L m' (some (.str (pageOf zs) t1)) k2 k3 k4 (fun h => D h ∧ h.IsList l (vals.take 8).toArray) h' → wpAny (model prog w) A (execs (dLaw.body.drop 2) (envLw L fa cd)) Q E ⟨h', g, dr, tk', os⟩) :
    wpAny (model prog w) A (execs dLaw.body (envLw L fa cd)) Q E ⟨h, g, dr, tk, os⟩ := by
  have hvl : vals.length = zs.length := ints_len hi
  refine letQ ?_
  intro Qx Ex
  refine wpAny_execs_cons <| wpAny_Assign_Name <| wpAny_Subscript_list_slice <| ldL X.F.ns ms <| wpAny_evalPart_none <| wpAny_evalPart_some <| wpAny_Constant_int ⟨a, vals.toArray, none, some ((8 : Nat) : Int), rfl, IsList.stay X.F.ev.keep hl, by rw [List.size_toArray, hvl, sizeLine_eq]; lia, .none, .int _ _, ?_⟩
  rw [slicePick_upto']
  dsimp only
  generalize ({ cls := .type "slice", data := .fields _ } : Obj) = oS
  have X₁ := X.step (.push oS)
  have hl₁ : ((h.push oS).push { cls := .type "list", data := .seq (List.take 8 vals).toArray }).IsList (h.push oS).objs.size (List.take 8 vals).toArray := ⟨_, Heap.get?_push_size _ rfl, rfl, _, rfl⟩
  have X₂ := X₁.step (.push { cls := .type "list", data := .seq (List.take 8 vals).toArray })
  show wpAny _ _ (storeName _ _ (.ref (h.objs.size + 1))) _ _ ⟨(h.push oS).push { cls := .type "list", data := .seq (List.take 8 vals).toArray }, g, dr, _, os⟩
  rw [← Heap.size_push (h := h) (o := oS)]
  generalize (h.push oS).push { cls := .type "list", data := .seq (List.take 8 vals).toArray } = h₂ at *
  generalize (h.push oS).objs.size = l at *
  clear X₁ X
  have X₃ := X₂.add (rob_list (l := l) (vs := (List.take 8 vals).toArray)) hl₁
  refine wpAny_storeName_local rfl X₃.F.ns (fun h₃ hn₃ hs₃ => ?_) rfl
  dsimp only at hs₃ ⊢
  have X₄ := X₃.store (fun b o hb e => (hs₃.2 b hb).trans e) hn₃
  clear hs₃ hn₃ X₃ X₂ hl₁
  have ht8 : IntsAre (List.take 8 vals) (zs.take 8) := ints_take hi 8
  have hl8 : (List.take 8 vals).length = (zs.take 8).length := ints_len ht8
  have hle8 : (zs.take 8).length ≤ 8 := by rw [List.length_take]; lia
  refine wpAny_execs_cons <| wpAny_Assign_Name <| wpAny_BinOp <| MethodCall_ <| wpAny_Constant_str <| GM.join <| callWith_method1 <| wpAny_items_cons <| eval_comp (cl := []) (closureFor_none (by decide +kernel)) (by decide +kernel) rfl (by decide +kernel) ?_
  refine ldL X₄.F.ns (by rfl) <| wpAny_pyIter_list (l := l) X₄.dat.2 ?_
  refine ⟨_, _, _, _, _, h₃, _, fun _ => true, fun i _ y => ∃ t, y = Value.str (sgn ((zs.take 8).getD i 0)) t, g, dr, os, _, _, rfl, rfl, vals_at (x := "x") hh X₄.dat.2 (by rw [List.size_toArray, hl8]; lia) (fun C => rfl) rfl (fok_str _) test_nil ?_, ?_⟩
  · intro i C m' h' tk' E' hi' _ hV hn hev
    rw [List.size_toArray, hl8] at hi'
    obtain ⟨t, ht⟩ := ints_get ht8 (j := i) hi'
    have hV' : m' "x" = some (.int ((zs.take 8).getD i 0) t) := by rw [hV]; simpa using ht
    dsimp only
    generalize (zs.take 8).getD i 0 = z at *
    have hz := fmod4 z
    refine Subscript_ <| wpAny_Constant_str <| wpAny_BinOp <| ldL hn hV' <| wpAny_Constant_int <| PyProof.Rows.mod_int (by decide) <| tail_any (typeIs_str _ _ _) PySem.F.slot_str_getitem.lookup (PySem.P.getItem_str (c := (Str.ofString "ab-\n").cps.toList.getD (z.fmod 4).toNat 0) ?_ ?_ ?_) (by with_unfolding_all rfl)
    · rw [decide_eq_false (by lia), decide_eq_false (by lia)]; rfl
    · have h4 : (Str.ofString "ab-\n").length = 4 := by decide +kernel
      rw [h4, seqIndex_nat hz.1 (by simpa using hz.2)]
      show (Str.ofString "ab-\n").cps[(z.fmod 4).toNat]? = _
      have hlt : (z.fmod 4).toNat < (Str.ofString "ab-\n").cps.size := by show _ < (Str.ofString "ab-\n").length; rw [h4]; lia
      rw [List.getD_eq_getElem?_getD, Array.getElem?_toList, Array.getElem?_eq_getElem hlt]; rfl
    · exact ⟨_, _, rfl, .refl _, ⟨_, rfl⟩, fun a q => by cases q⟩
  · intro Dl h₅ tk₅ ys hD hpl hev hfl
    have hys := hfl.strs
    rw [filter_true, List.size_toArray, hl8, map_range_getD] at hys
    have X₅ := X₄.step hev
    have hylen : ((zs.take 8).map sgn).length ≤ 8 := by rw [List.length_map]; exact hle8
    have hsum : (((zs.take 8).map sgn).map (·.length)).sum = (zs.take 8).length := by
      rw [List.map_map]
      have : ((fun x : Str => x.length) ∘ sgn) = fun _ => 1 := by funext x; rfl
      rw [this]; exact sum_ones _
    refine wpAny_items_nil <| join_list hpl.isList hys ?_ fun t' k => ?_
    · rw [hsum]
      have e2 : (Str.ofString "").length = 0 := by decide +kernel
      rw [e2]; lia
    have hjl : (Txt.join (Str.ofString "") ((zs.take 8).map sgn)).length ≤ 8 := by
      have := StrLaws.join_length_le (Str.ofString "") ((zs.take 8).map sgn)
      rw [hsum] at this
      have e2 : (Str.ofString "").length = 0 := by decide +kernel
      rw [e2, Nat.mul_zero] at this
      have e3 : Txt.join (Str.ofString "") ((zs.take 8).map sgn) = Str.join (Str.ofString "") ((zs.take 8).map sgn) := StrLaws.glued_eq_join _ _
      rw [e3]; lia
    refine wpAny_Constant_str <| add_str' ?_ fun t2 k2' => ?_
    · have e2 : (Str.ofString "aab\na").length = 5 := by decide +kernel
      rw [e2, sizeLine_eq]; lia
    refine wpAny_storeName_cell (c := L + 1) rfl rfl rfl X₅.c1 fun h₆ hc₆ hs₆ => ?_
    dsimp only at hs₆ ⊢
    have X₆ := X₅.set1 (fun b o hb e => (hs₆.2 b hb).trans e) hc₆
    exact next l h₆ _ _ _ (by rfl) X₆
end
end Mine
end

section
set_option maxHeartbeats 1000000
namespace Mine
open PySem PySem.W PyProof.Rows PySem.Calls

theorem strs_values : ∀ (l : List (Str × Tok)), StrsAre (strValues l) (l.map (·.1))
  | [] => .nil
  | (x, t) :: l => .cons x t (strs_values l)
theorem ints_values {vs : List Value} {ns : List Int} (hi : IntsAre vs ns) : ∃ xs : Array (Int × Tok), vs.toArray = intItems xs ∧ preSum (numAt xs) xs.size = ns.sum := by
  obtain ⟨xs, e⟩ := AllInts.items (hi.allInts)
  refine ⟨xs, e, ?_⟩
  have h1 : (numsOf (intItems xs).toList).sum = preSum (numAt xs) xs.size := by
    rw [nums_intItems, preSum_eq, List.take_of_length_le (by simp)]
  rw [← h1, ← e]
  show (numsOf vs.toArray.toList).sum = _
  rw [show vs.toArray.toList = vs from rfl, hi.numsOf]

section
variable {prog : Program} {w : World} {A : Around} {s : Shared} {R : Result → Shared → Prop} {mg mb : Str → Option Value}

/- an item of a display of four texts -/
theorem ev_four {E : Value → Shared → Prop} {env : Env} {a b c d : Str} {k1 k2 k3 k4 : Nat} {p1 p2 p3 p4 p5 p6 : Pos} {idx : PySem.Expr} {z : Int} {tz : Tok} {Q : Value → Shared → Prop} {h : Heap} {g : Array GenState} {dr : Drawn} {tk : Nat} {os : OsState}
    (hz0 : 0 ≤ z) (hz4 : z < 4) (hidx : ∀ h' tk' Q', (∀ b o, h.get? b = some o → h'.get? b = some o) → (∀ tz tk'', Q' (.int z tz) ⟨h', g, dr, tk'', os⟩) → wpAny (model prog w) A (eval idx env) Q' E ⟨h', g, dr, tk', os⟩)
    (hs : ∀ o i, subscripted idx false o i = operate [o, i] (getItem o i))
    (hQ : ∀ h' tk' t', (∀ b o, h.get? b = some o → h'.get? b = some o) → Q (.str ([a, b, c, d].getD z.toNat "") t') ⟨h', g, dr, tk', os⟩)
    (e1 : starEach [.Constant (.str a) k1 p1, .Constant (.str b) k2 p2, .Constant (.str c) k3 p3, .Constant (.str d) k4 p4] env = (false, eval (.Constant (.str a) k1 p1) env) :: starEach [.Constant (.str b) k2 p2, .Constant (.str c) k3 p3, .Constant (.str d) k4 p4] env := by rfl) :
    wpAny (model prog w) A (eval (.Subscript (.List [.Constant (.str a) k1 p1, .Constant (.str b) k2 p2, .Constant (.str c) k3 p3, .Constant (.str d) k4 p4] p5) idx p6) env) Q E ⟨h, g, dr, tk, os⟩ := by
  refine Subscript_ <| wpAny_List <| wpAny_items_cons <| wpAny_Constant_str <| wpAny_items_cons <| wpAny_Constant_str <| wpAny_items_cons <| wpAny_Constant_str <| wpAny_items_cons <| wpAny_Constant_str <| wpAny_items_nil ⟨szl, ?_⟩
  dsimp only
  have hp : ∀ b' o, h.get? b' = some o → (h.push { cls := .type "list", data := .seq [.str a tk, .str b (tk + 1), .str c (tk + 1 + 1), .str d (tk + 1 + 1 + 1)].toArray }).get? b' = some o := fun b' o e => Heap.get?_push_of_some _ e
  have hl : (h.push { cls := .type "list", data := .seq [.str a tk, .str b (tk + 1), .str c (tk + 1 + 1), .str d (tk + 1 + 1 + 1)].toArray }).IsList h.objs.size [.str a tk, .str b (tk + 1), .str c (tk + 1 + 1), .str d (tk + 1 + 1 + 1)].toArray := ⟨_, Heap.get?_push_size _ rfl, rfl, _, rfl⟩
  refine hidx _ _ _ hp fun tz tk'' => ?_
  have hs4 : StrsAre [.str a tk, .str b (tk + 1), .str c (tk + 1 + 1), .str d (tk + 1 + 1 + 1)] [a, b, c, d] := .cons _ _ (.cons _ _ (.cons _ _ (.cons _ _ .nil)))
  have hzn : z.toNat < 4 := by lia
  obtain ⟨v, hv, t', rfl⟩ := strs_get hs4 (k := z.toNat) (row := [a, b, c, d].getD z.toNat "") (by rw [List.getD_eq_getElem?_getD, List.getElem?_eq_getElem (show z.toNat < [a, b, c, d].length from hzn)]; rfl)
  exact tail_any hl.typeIs slot_list_getitem.lookup (wpAny_getItem_list hl hz0 (by lia) (by simpa using hv) (hQ _ _ _ hp)) (hs _ _)

theorem law_b {L fa l : Addr} {cd : Value} {h₀ h : Heap} {vals : List Value} {zs : List Int} {m : Str → Option Value} {k2 k3 k4 : Option Value} {t1 : Tok} {D : Heap → Prop} {g : Array GenState} {dr : Drawn} {tk : Nat} {os : OsState} {E : Value → Shared → Prop} {Q : Flow → Shared → Prop}
    (S : Stat w mg mb h₀) (hh : A.handled = none) (X : LS h₀ L m (some (.str (pageOf zs) t1)) k2 k3 k4 (fun h => D h ∧ h.IsList l (vals.take 8).toArray) h) (ml : m "taken" = some (.ref l)) (hi : IntsAre (vals.take 8) (zs.take 8)) (hpg : (pageOf zs).length ≤ 13)
    (next : ∀ r1 r2 v1 v2 h' tk' m', StrsAre v1 (rowsOf zs) → StrsAre v2 (wordsOf zs) → LS h₀ L m' (some (.str (pageOf zs) t1)) (some (.ref r1)) (some (.ref r2)) k4 (fun h => h.IsList r1 v1.toArray ∧ h.IsList r2 v2.toArray) h' → wpAny (model prog w) A (execs (dLaw.body.drop 5) (envLw L fa cd)) Q E ⟨h', g, dr, tk', os⟩) :
    wpAny (model prog w) A (execs (dLaw.body.drop 2) (envLw L fa cd)) Q E ⟨h, g, dr, tk, os⟩ := by
  have h1 : (Str.ofString "\n").length = 1 := by decide +kernel
  refine letQ ?_
  intro Qx Ex
  refine wpAny_execs_cons <| wpAny_Assign_Name <| MethodCall_ <| ldC X.c1 (hcl := by rfl) <| GM.split <| callWith_method1 <| wpAny_items_cons <| wpAny_Constant_str <| wpAny_items_nil <| SCH.split1 (P := fun h' => ∀ b o, h.get? b = some o → h'.get? b = some o) (fun h' o p b o' e => Heap.get?_push_of_some _ (p b o' e)) (fun _ _ e => e) (by rw [h1]; rfl) (fun r1 l1 h₁ tk₁ hl1 k₁ hr1 => ?_) (by rw [sizeLine_eq]; lia) ?_
  · dsimp only
    have X₁ := (X.keeps k₁).add (rob_list (l := r1) (vs := (strValues l1).toArray)) hr1
    have hs1 : StrsAre (strValues l1) (rowsOf zs) := by have := strs_values l1; rw [hl1] at this; exact this
    refine wpAny_storeName_cell (c := L + 2) rfl rfl rfl X₁.c2 fun h₂ hc₂ hs₂ => ?_
    dsimp only at hs₂ ⊢
    have X₂ := X₁.set2 (fun b o hb e => (hs₂.2 b hb).trans e) hc₂
    have S₂ := S.stay X₂.F.ev.keep
    obtain ⟨xs, ex, hsum⟩ := ints_values hi
    have hlt : h₂.IsList l (intItems xs) := by rw [← ex]; exact X₂.dat.1.2
    refine letQ ?_
    intro Qx Ex
    refine wpAny_execs_cons <| wpAny_Assign_Name <| Call_ <| ldB S₂.g (g_sum S₂) S₂.b (b_sum S₂) <| PyProof.Rows.callWith_builtin1 <| wpAny_items_cons <| ldL X₂.F.ns (by exact ml) <| wpAny_items_nil <| sum_intListG hh hlt fun h₃ tk₃ t₃ k₃ => ?_
    rw [hsum]
    dsimp only at k₃ ⊢
    have X₃ := X₂.keeps k₃
    refine wpAny_storeName_local rfl X₃.F.ns (fun h₄ hn₄ hs₄ => ?_) rfl
    dsimp only at hs₄ ⊢
    have X₄ := X₃.store (fun b o hb e => (hs₄.2 b hb).trans e) hn₄
    have f1 := fmod4 (zs.take 8).sum
    have f2 := fmod4 ((zs.take 8).sum.fdiv 4)
    refine wpAny_execs_cons <| wpAny_Assign_Name <| wpAny_List <| wpAny_items_cons <| ev_four (z := (zs.take 8).sum.fmod 4) (tz := 0) f1.1 f1.2 (fun h' tk' Q' k' hq => wpAny_BinOp <| ldL (X₄.F.ns.keeps k') (by rfl) <| wpAny_Constant_int <| PyProof.Rows.mod_int (by decide) (hq _ _)) (fun o i => by with_unfolding_all rfl) fun h₅ tk₅ t₅ k₅ => ?_
    have X₅ := X₄.keeps k₅
    refine wpAny_items_cons <| ev_four (z := ((zs.take 8).sum.fdiv 4).fmod 4) (tz := 0) f2.1 f2.2 (fun h' tk' Q' k' hq => wpAny_BinOp <| wpAny_BinOp <| ldL (X₅.F.ns.keeps k') (by rfl) <| wpAny_Constant_int <| PyProof.Rows.floordiv_int (by decide) (wpAny_Constant_int <| PyProof.Rows.mod_int (by decide) (hq _ _)) (.inl (PyProof.noPylong_of_log2 (by decide +kernel)))) (fun o i => by with_unfolding_all rfl) fun h₆ tk₆ t₆ k₆ => ?_
    have X₆ := X₅.keeps k₆
    refine wpAny_items_cons <| wpAny_Constant_str <| wpAny_items_nil ⟨szl, ?_⟩
    dsimp only
    generalize hv2 : [Value.str _ _, Value.str _ _, Value.str _ _] = v2
    have hs2 : StrsAre v2 (wordsOf zs) := by rw [← hv2]; exact .cons _ _ (.cons _ _ (.cons _ _ .nil))
    clear hv2
    have hr2 : (h₆.push { cls := .type "list", data := .seq v2.toArray }).IsList h₆.objs.size v2.toArray := ⟨_, Heap.get?_push_size _ rfl, rfl, _, rfl⟩
    have X₇ := (X₆.step (.push { cls := .type "list", data := .seq v2.toArray })).add rob_list hr2
    refine wpAny_storeName_cell (c := L + 3) rfl rfl rfl X₇.c3 fun h₈ hc₈ hs₈ => ?_
    dsimp only at hs₈ ⊢
    have X₈ := X₇.set3 (fun b o hb e => (hs₈.2 b hb).trans e) hc₈
    exact next r1 h₆.objs.size (strValues l1) v2 h₈ _ _ hs1 hs2 { X₈ with rob := rob_list.and rob_list, dat := ⟨X₈.dat.1.2, X₈.dat.2⟩ }
  · rw [len_partsBetween, sizeLine_eq]
    have := StrLaws.occ_length_le (pageOf zs) (Str.ofString "\n") 0 (pageOf zs).length ((pageOf zs).length + 1)
    lia
end
end Mine
end

section
set_option maxHeartbeats 1000000
namespace Mine
open PySem PySem.W PyProof.Rows PySem.Calls

theorem fok_LT (f : Nat → List (List Int)) : FOk fun i h y => ∃ l, y = Value.ref l ∧ LT h l (f i) :=
  ⟨fun _ _ _ _ k ⟨l, e, x⟩ => ⟨l, e, x.stay k⟩, fun _ _ _ _ _ I hne k ⟨l, e, x⟩ => ⟨l, e, x.soft I k fun q => hne (by rw [e, q])⟩⟩
noncomputable def walkOf (zs : List Int) (p : Nat) : List (List Int) := wTo (rowsOf zs) ((wordsOf zs).getD p "") p (rowsOf zs).length
noncomputable def metOf (zs : List Int) : List (List Int) := mrg (mrg (walkOf zs 0) (walkOf zs 1)) (walkOf zs 2)

section
variable {prog : Program} {w : World} {A : Around} {s : Shared} {R : Result → Shared → Prop} {mg mb : Str → Option Value}

theorem law_c {L fa r1 r2 : Addr} {cd : Value} {h₀ h : Heap} {v1 v2 : List Value} {zs : List Int} {m : Str → Option Value} {k1 k4 : Option Value} {g : Array GenState} {dr : Drawn} {tk : Nat} {os : OsState} {E : Value → Shared → Prop} {Q : Flow → Shared → Prop}
    (S : Stat w mg mb h₀) (hr : Root h₀) (hroom : A.depth + 2 < recursionLimit) (hh : A.handled = none) (hs1 : StrsAre v1 (rowsOf zs)) (hs2 : StrsAre v2 (wordsOf zs)) (hrl : (rowsOf zs).length < 2 ^ 20) (hrw : ∀ row ∈ rowsOf zs, row.length < 2 ^ 20) (hwl : ∀ wd ∈ wordsOf zs, wd.length ≤ 2)
    (X : LS h₀ L m k1 (some (.ref r1)) (some (.ref r2)) k4 (fun h => h.IsList r1 v1.toArray ∧ h.IsList r2 v2.toArray) h)
    (next : ∀ l0 l1 l2 Dw h' tk' m', m' "walks" = some (.ref Dw) → LS h₀ L m' k1 (some (.ref r1)) (some (.ref r2)) k4 (fun h => (((h.IsList r1 v1.toArray ∧ h.IsList r2 v2.toArray) ∧ h.PlainList Dw [Value.ref l0, .ref l1, .ref l2].toArray) ∧ (LT h l0 (walkOf zs 0) ∧ LT h l1 (walkOf zs 1))) ∧ LT h l2 (walkOf zs 2)) h' → wpAny (model prog w) A (execs (dLaw.body.drop 6) (envLw L fa cd)) Q E ⟨h', g, dr, tk', os⟩) :
    wpAny (model prog w) A (execs (dLaw.body.drop 5) (envLw L fa cd)) Q E ⟨h, g, dr, tk, os⟩ := by
  have S₀ := S.stay X.F.ev.keep
  refine letQ ?_
  intro Qx Ex
  refine wpAny_execs_cons <| assign_comp (cl := [(("strips" : Str), L + 2), (("sought" : Str), L + 3)]) rfl rfl (by decide +kernel) rfl (by decide +kernel) ?_
  refine Call_ <| ldB S₀.g (g_range S₀) S₀.b (b_range S₀) <| PyProof.Rows.callWith_type1 <| wpAny_items_cons <| wpAny_Constant_int <| wpAny_items_nil <| call_range_1 ?_
  dsimp only
  generalize ho : ({ cls := .type "range", data := .fields _ } : Obj) = oR
  refine wpAny_pyIter_range (by rw [← ho]; exact IsRange.new ..) (range_up_small 3 (by decide)) ?_
  rw [range_up]
  dsimp only
  clear ho
  have X₁ := X.step (.push oR)
  generalize h.push oR = h₁ at *
  refine ⟨_, _, 3, _, _, h₁, _, fun _ => true, fun i h y => ∃ l, y = Value.ref l ∧ LT h l (walkOf zs i), g, dr, os, _, _, L, fun v h => h.Ns L (fun y => if y = "walks" then some v else m y), rfl, rfl, range_at (x := "p") hh (by decide) (fun C => rfl) rfl (fok_LT _) test_nil ?_, .ns X₁.F.ns, ?_, ?_, ?_⟩
  · intro i C m' h' tk' E' hi _ ⟨tp, hV⟩ hn hev
    have Y := X₁.step hev
    have S' := S.stay Y.F.ev.keep
    obtain ⟨pm, ct, hK⟩ := K84 w.params
    have hw3 : (wordsOf zs).length = 3 := rfl
    have hwd : (wordsOf zs)[i]? = some ((wordsOf zs).getD i "") := by rw [List.getD_eq_getElem?_getD, List.getElem?_eq_getElem (by rw [hw3]; exact hi)]; rfl
    have hmem : (wordsOf zs).getD i "" ∈ wordsOf zs := List.mem_of_getElem? hwd
    have hwl' := hwl _ hmem
    refine hid fun Gx hGx => ?_
    obtain ⟨v, hv, t', rfl⟩ := strs_get hs2 hwd
    refine hGx ?_
    clear hGx Gx
    refine Call_ <| ldG S'.g (g_lw S') <| callWith_def (o := fnObj (fnAny "_law_walk" "_law_walk" dWalk.params (.stmts dWalk.body) dWalk.scope [] .none .none pm (.ref 83) ct)) rfl <| wpAny_items_cons <| ldC Y.c2 (hcl := by rfl) <| wpAny_items_cons <|
      Subscript_ <| ldC Y.c3 (hcl := by rfl) <| ldL hn hV <| tail_any Y.dat.2.typeIs slot_list_getitem.lookup (wpAny_getItem_list (x := .str ((wordsOf zs).getD i "") t') Y.dat.2 (by lia) (by lia) (by simpa using hv) ?_) (by with_unfolding_all rfl)
    refine wpAny_items_cons <| ldL hn hV <| wpAny_items_nil ⟨S'.K _ _ hK, wpAny_call ?_⟩
    refine walk_ct S' ((X₁.F.ev.trans hev).root hr) hroom hh (by lia) Y.dat.1 hs1 hrl hrw fun l ws h₂ tk₂ x₂ hl0 hp ht => ?_
    exact ⟨h₂, _, rfl, x₂, ⟨l, rfl, ws, hp, ht⟩, fun a q => by cases q; exact hl0⟩
  · intro v h' tk' Q' hev hq
    refine wpAny_storeName_local rfl (X₁.step hev).F.ns (fun h₂ hn₂ hs₂ => ?_) rfl
    exact hq h₂ _ hn₂ fun b o hb e => (hs₂.2 b hb).trans e
  · intro v h' h₂ hB k
    exact hB.at' k
  · intro Dw h' tk' ys hD hpl hfl hB hev hk
    have X₂ := X₁.via (hev h₀ X₁.F.ev X₁.F.L0) hB hk
    obtain ⟨l0, l1, l2, rfl, f0, f1, f2⟩ : ∃ l0 l1 l2, ys = [Value.ref l0, .ref l1, .ref l2] ∧ LT h' l0 (walkOf zs 0) ∧ LT h' l1 (walkOf zs 1) ∧ LT h' l2 (walkOf zs 2) := by
      rw [filter_true] at hfl
      rw [show List.range 3 = [0, 1, 2] from rfl] at hfl
      cases hfl with
      | cons a hfl => cases hfl with
        | cons b hfl => cases hfl with
          | cons c hfl =>
            cases hfl
            refine hid fun Gx hGx => ?_
            obtain ⟨l0, rfl, a⟩ := a
            obtain ⟨l1, rfl, b⟩ := b
            obtain ⟨l2, rfl, c⟩ := c
            refine hGx ?_
            clear hGx Gx
            exact ⟨l0, l1, l2, rfl, a, b, c⟩
    exact next l0 l1 l2 Dw h' tk' _ (by rfl) (((X₂.add rob_plist hpl).add (rob_LT.and rob_LT) ⟨f0, f1⟩).add rob_LT f2)
end
end Mine
end

section
set_option maxHeartbeats 1000000
namespace Mine
open PySem PySem.W PyProof.Rows PySem.Calls

theorem wRow_f4 (row y : Str) (line number : Int) : ∀ (k : Nat) (f : Option Nat) (acc : List (List Int)), F4 acc → F4 (wRow row y line number k f acc)
  | 0, _, acc, h => h
  | _ + 1, none, acc, h => h
  | k + 1, some i, acc, h => wRow_f4 row y line number k _ _ fun x hx => by
    rcases List.mem_append.mp hx with hx | hx
    · exact h x hx
    · rw [List.mem_singleton.mp hx]; rfl
theorem wTo_f4 (rows : List Str) (y : Str) (number : Int) : ∀ i, F4 (wTo rows y number i)
  | 0 => nofun
  | i + 1 => wRow_f4 _ _ _ _ _ _ _ (wTo_f4 rows y number i)
theorem mrg_mem : ∀ (xs ys : List (List Int)) (z : List Int), z ∈ mrg xs ys → z ∈ xs ∨ z ∈ ys
  | [], ys, z, h => by rw [mrg_nil] at h; exact .inr h
  | x :: xs, [], z, h => by rw [mrg_one] at h; exact .inl h
  | x :: xs, y :: ys, z, h => by
    rw [mrg_cons] at h
    split at h
    · rcases List.mem_cons.mp h with rfl | h
      · exact .inl (.head _)
      · rcases mrg_mem xs (y :: ys) z h with h | h
        · exact .inl (.tail _ h)
        · exact .inr h
    · rcases List.mem_cons.mp h with rfl | h
      · exact .inr (.head _)
      · rcases mrg_mem (x :: xs) ys z h with h | h
        · exact .inl h
        · exact .inr (.tail _ h)
termination_by xs ys => xs.length + ys.length
theorem mrg_len : ∀ (xs ys : List (List Int)), (mrg xs ys).length = xs.length + ys.length
  | [], ys => by rw [mrg_nil]; simp
  | x :: xs, [] => by rw [mrg_one]; simp
  | x :: xs, y :: ys => by
    rw [mrg_cons]
    split
    · rw [List.length_cons, mrg_len xs (y :: ys)]; simp only [List.length_cons]; lia
    · rw [List.length_cons, mrg_len (x :: xs) ys]; simp only [List.length_cons]; lia
termination_by xs ys => xs.length + ys.length
theorem mrg_f4 {xs ys : List (List Int)} (a : F4 xs) (b : F4 ys) : F4 (mrg xs ys) := fun z hz => (mrg_mem xs ys z hz).elim (a z) (b z)

section
variable {prog : Program} {w : World} {A : Around} {s : Shared} {R : Result → Shared → Prop} {mg mb : Str → Option Value}

/- walks[i] -/
theorem ev_walk {E : Value → Shared → Prop} {env : Env} {m : Str → Option Value} {Dw : Addr} {vs : List Value} {i : Nat} {v : Value} {p1 p2 p3 : Pos} {kd : Nat} {Q : Value → Shared → Prop} {nm : Str}
    (hn : s.heap.Ns env.locals m) (hx : m nm = some (.ref Dw)) (hl : s.heap.IsList Dw vs.toArray) (hv : vs[i]? = some v) (hi : i < 100) (h : ∀ tk, Q v { s with toks := tk })
    (h1 : env.scope.kind = .function := by rfl) (h2 : env.kindOf nm = some .local := by rfl) (h3 : (nm == ("__debug__" : Str)) = false := by decide +kernel) (h4 : ∀ o j, subscripted (.Constant (.int i) kd p2) false o j = operate [o, j] (getItem o j) := by intro o j; with_unfolding_all rfl) :
    wpAny (model prog w) A (eval (.Subscript (.Name nm p1) (.Constant (.int i) kd p2) p3) env) Q E s :=
  Subscript_ (ldL hn hx (wpAny_Constant_int (tail_any hl.typeIs slot_list_getitem.lookup (wpAny_getItem_list hl (by lia) (by lia) (by simpa using hv) (h _)) (h4 _ _))) h1 h2 h3)

theorem law_d {L fa r1 r2 l0 l1 l2 Dw : Addr} {cd : Value} {h₀ h : Heap} {v1 v2 : List Value} {zs : List Int} {m : Str → Option Value} {k4 : Option Value} {t1 : Tok} {g : Array GenState} {dr : Drawn} {tk : Nat} {os : OsState} {E : Value → Shared → Prop} {Q : Flow → Shared → Prop}
    (S : Stat w mg mb h₀) (hroom : A.depth + 2 < recursionLimit) (hh : A.handled = none) (hs2 : StrsAre v2 (wordsOf zs)) (hwl : ∀ wd ∈ wordsOf zs, wd.length ≤ 2) (hpg : (pageOf zs).length ≤ 13)
    (h3 : ∀ x ∈ scW (pageOf zs) (wordsOf zs) 3, T3 x) (hnd : ((scW (pageOf zs) (wordsOf zs) 3).map enc).Nodup) (h2 : 2 ≤ (scW (pageOf zs) (wordsOf zs) 3).length)
    (X : LS h₀ L m (some (.str (pageOf zs) t1)) (some (.ref r1)) (some (.ref r2)) k4 (fun h => (((h.IsList r1 v1.toArray ∧ h.IsList r2 v2.toArray) ∧ h.PlainList Dw [Value.ref l0, .ref l1, .ref l2].toArray) ∧ (LT h l0 (walkOf zs 0) ∧ LT h l1 (walkOf zs 1))) ∧ LT h l2 (walkOf zs 2)) h) (mw : m "walks" = some (.ref Dw))
    (next : ∀ lm lt ys h' tk' m', m' "met" = some (.ref lm) → m' "told" = some (.ref lt) → ys.Perm (scW (pageOf zs) (wordsOf zs) 3) → (List.map enc ys).Pairwise (· < ·) → LS h₀ L m' (some (.str (pageOf zs) t1)) (some (.ref r1)) (some (.ref r2)) k4 (fun h => ((h.IsList r1 v1.toArray ∧ h.IsList r2 v2.toArray) ∧ LT h lm (metOf zs)) ∧ LT h lt (ys.map neg3)) h' → wpAny (model prog w) A (execs (dLaw.body.drop 8) (envLw L fa cd)) Q E ⟨h', g, dr, tk', os⟩) :
    wpAny (model prog w) A (execs (dLaw.body.drop 6) (envLw L fa cd)) Q E ⟨h, g, dr, tk, os⟩ := by
  have S₀ := S.stay X.F.ev.keep
  refine hid fun Gx hGx => ?_
  obtain ⟨pm, c, ct, hK, hC⟩ := K91 w.params
  refine hGx ?_
  clear hGx Gx
  have q0 : F4 (walkOf zs 0) := wTo_f4 _ _ _ _
  have q1 : F4 (walkOf zs 1) := wTo_f4 _ _ _ _
  have q2 : F4 (walkOf zs 2) := wTo_f4 _ _ _ _
  have b0 : (walkOf zs 0).length ≤ 20 := wTo_len ..
  have b1 : (walkOf zs 1).length ≤ 20 := wTo_len ..
  have b2 : (walkOf zs 2).length ≤ 20 := wTo_len ..
  refine letQ ?_
  intro Qx Ex
  refine wpAny_execs_cons <| wpAny_Assign_Name <| Call_ <| ldG S₀.g (g_lm S₀) <| callWith_def (o := fnObj (fnAny "_law_merge" "_law_merge" dMrg.params (.stmts dMrg.body) dMrg.scope [] .none .none pm (.ref c) ct)) rfl <| wpAny_items_cons <|
    Call_ <| ldG S₀.g (g_lm S₀) <| callWith_def (o := fnObj (fnAny "_law_merge" "_law_merge" dMrg.params (.stmts dMrg.body) dMrg.scope [] .none .none pm (.ref c) ct)) rfl <| wpAny_items_cons <| ev_walk (i := 0) X.F.ns mw X.dat.1.1.2.isList rfl (by decide) fun tk₁ => wpAny_items_cons <| ev_walk (i := 1) X.F.ns mw X.dat.1.1.2.isList rfl (by decide) fun tk₂ => wpAny_items_nil ⟨S₀.K _ _ hK, wpAny_call ?_⟩
  refine mrg_ct S₀ X.dat.1.2.1 X.dat.1.2.2 q0 q1 (by lia) hroom hh fun r h₁ tk₁ x₁ lt₁ => ?_
  dsimp only at x₁ ⊢
  have X₁ := X.step x₁
  have S₁ := S.stay X₁.F.ev.keep
  refine wpAny_items_cons <| ev_walk (i := 2) X₁.F.ns mw X₁.dat.1.1.2.isList rfl (by decide) fun tk₂ => wpAny_items_nil ⟨S₁.K _ _ hK, wpAny_call ?_⟩
  refine mrg_ct S₁ lt₁ X₁.dat.2 (mrg_f4 q0 q1) q2 (by rw [mrg_len]; lia) hroom hh fun lm h₂ tk₂ x₂ lt₂ => ?_
  dsimp only at x₂ ⊢
  have X₂ := (X₁.step x₂).add (rob_LT (l := lm)) lt₂
  refine wpAny_storeName_local rfl X₂.F.ns (fun h₃ hn₃ hs₃ => ?_) rfl
  dsimp only at hs₃ ⊢
  have X₃ := X₂.store (fun b o hb e => (hs₃.2 b hb).trans e) hn₃
  have S₃ := S.stay X₃.F.ev.keep
  refine hid fun Gx hGx => ?_
  obtain ⟨pm', c', ct', hK', hC'⟩ := K103 w.params
  refine hGx ?_
  clear hGx Gx
  refine wpAny_execs_cons <| wpAny_Assign_Name <| Call_ <| ldG S₃.g (g_lsc S₃) <| callWith_def (o := fnObj (fnAny "_law_scan" "_law_scan" dScan.params (.stmts dScan.body) dScan.scope [] .none .none pm' (.ref c') ct')) rfl <| wpAny_items_cons <| ldC X₃.c1 (hcl := by rfl) <| wpAny_items_cons <| ldC X₃.c3 (hcl := by rfl) <| wpAny_items_nil ⟨S₃.K _ _ hK', wpAny_call ?_⟩
  have hw3 : (wordsOf zs).length = 3 := rfl
  have h64 : (scW (pageOf zs) (wordsOf zs) 3).length < 64 := by have := scW_len (pageOf zs) (wordsOf zs) 3; lia
  refine scan_ct (words := wordsOf zs) S₃ X₃.dat.1.1.1.1.2 hs2 (by lia) (by rw [hw3]; decide) (fun wd hwd => by have := hwl wd hwd; lia) h3 hnd h2 h64 (Nat.lt_of_succ_lt (Nat.lt_of_succ_lt hroom)) hh fun lt ys h₄ tk₄ x₄ lt₄ hperm hasc => ?_
  dsimp only at x₄ ⊢
  have X₄ := (X₃.step x₄).add (rob_LT (l := lt)) lt₄
  refine wpAny_storeName_local rfl X₄.F.ns (fun h₅ hn₅ hs₅ => ?_) rfl
  dsimp only at hs₅ ⊢
  have X₅ := X₄.store (fun b o hb e => (hs₅.2 b hb).trans e) hn₅
  exact next lm lt ys h₅ _ _ (by rfl) (by rfl) hperm hasc { X₅ with rob := ((rob_list.and rob_list).and rob_LT).and rob_LT, dat := ⟨⟨X₅.dat.1.1.1.1.1, X₅.dat.1.2⟩, X₅.dat.2⟩ }
end
end Mine
end

section
set_option maxHeartbeats 1000000
namespace Mine
open PySem PySem.W PyProof.Rows PySem.Calls

noncomputable def Dep (n : Nat) (d : PyData) : Prop := d.canLay0 = true ∧ d.depth ≤ n
theorem dep_all {n : Nat} : ∀ {xs : List PyData}, (∀ x ∈ xs, Dep n x) → PyData.canLayAll0 xs = true ∧ PyData.depthAll xs ≤ n
  | [], _ => ⟨rfl, Nat.zero_le _⟩
  | x :: xs, h => by
    refine hid fun Gx hGx => ?_
    obtain ⟨a, b⟩ := h x (.head _)
    obtain ⟨c, d⟩ := dep_all (xs := xs) fun y hy => h y (.tail _ hy)
    refine hGx ?_
    clear hGx Gx
    refine ⟨by rw [PyData.canLayAll0, a, c]; rfl, ?_⟩
    rw [PyData.depthAll]; lia
theorem dep_list {n : Nat} {xs : List PyData} (h : ∀ x ∈ xs, Dep n x) : Dep (n + 1) (.list xs) := ⟨by rw [PyData.canLay0]; exact (dep_all h).1, by rw [PyData.depth]; exact Nat.succ_le_succ (dep_all h).2⟩
theorem dep_tuple {n : Nat} {xs : List PyData} (h : ∀ x ∈ xs, Dep n x) : Dep (n + 1) (.tuple xs) := ⟨by rw [PyData.canLay0]; exact (dep_all h).1, by rw [PyData.depth]; exact Nat.succ_le_succ (dep_all h).2⟩
theorem dep_int (n : Nat) (i : Int) : Dep n (.int i) := ⟨by rw [PyData.canLay0], by rw [PyData.depth]; exact Nat.zero_le _⟩
theorem Dep.shaped {n : Nat} {d : PyData} (h : Dep n d) (hn : n ≤ 64) : SeqAt.shaped d = true := by
  unfold SeqAt.shaped
  rw [h.1, decide_eq_true (Nat.le_trans h.2 hn)]; rfl
noncomputable def dInts (x : List Int) : PyData := .tuple (x.map .int)
noncomputable def dTups (xs : List (List Int)) : PyData := .list (xs.map dInts)
theorem dep_ints (x : List Int) : Dep 1 (dInts x) := dep_tuple fun d hd => by obtain ⟨i, _, rfl⟩ := List.mem_map.mp hd; exact dep_int _ _
theorem dep_tups (xs : List (List Int)) : Dep 2 (dTups xs) := dep_list fun d hd => by obtain ⟨x, _, rfl⟩ := List.mem_map.mp hd; exact dep_ints x

theorem reads_ints {h : Heap} {its : List Value} {ns : List Int} (hi : IntsAre its ns) : ReadsAll h its (ns.map .int) [] := by
  induction hi with
  | nil => exact .nil
  | cons n t _ ih => exact .cons (.int n t) ih
theorem IntTup.reads {h : Heap} {v : Value} {ns : List Int} (x : IntTup h v ns) : Reads h v (dInts ns) [] := by
  refine hid fun Gx hGx => ?_
  obtain ⟨t, its, n, rfl, ht, hi⟩ := x
  refine hGx ?_
  clear hGx Gx
  exact .tuple ht rfl rfl (reads_ints hi)
theorem TupsAre.reads {h : Heap} {vs : List Value} {xs : List (List Int)} (x : TupsAre h vs xs) : ReadsAll h vs (xs.map dInts) [] := by
  induction x with
  | nil => exact .nil
  | cons a _ ih => exact .cons a.reads ih
theorem LT.reads {h : Heap} {l : Addr} {xs : List (List Int)} (x : LT h l xs) : Reads h (.ref l) (dTups xs) [l] := by
  refine hid fun Gx hGx => ?_
  obtain ⟨vs, ⟨n, e⟩, t⟩ := x.ex
  refine hGx ?_
  clear hGx Gx
  exact .list e rfl rfl t.reads

noncomputable def off (rows : List Str) (up : Nat) : Int := ((rows.take up).map fun r => (r.length : Int) + 1).sum
noncomputable def place (rows : List Str) (x : List Int) : List Int := [x.getD 1 0 + off rows (x.getD 0 0).toNat, x.getD 2 0, x.getD 3 0]

theorem fok_int (f : Nat → Int) : FOk fun i _ y => ∃ t, y = Value.int (f i) t := ⟨fun _ _ _ _ _ x => x, fun _ _ _ _ _ _ _ _ x => x⟩
theorem FL.ints {f : Nat → Int} {h : Heap} {is : List Nat} {ys : List Value} (x : FL (fun i _ y => ∃ t, y = Value.int (f i) t) h is ys) : IntsAre ys (is.map f) := by
  induction x with
  | nil => exact .nil
  | cons a _ ih => obtain ⟨t, rfl⟩ := a; exact .cons _ _ ih
theorem strs_take {vs : List Value} {ns : List Str} (hi : StrsAre vs ns) (k : Nat) : StrsAre (vs.take k) (ns.take k) := by
  induction hi generalizing k with
  | nil => simp only [List.take_nil]; exact .nil
  | cons n t hi ih =>
    cases k with
    | zero => exact .nil
    | succ k => exact .cons _ _ (ih k)

section
variable {prog : Program} {w : World} {A : Around} {s : Shared} {R : Result → Shared → Prop} {mg mb : Str → Option Value}

theorem law_e {L fa r1 r2 lm lt : Addr} {cd : Value} {h₀ h : Heap} {v1 v2 : List Value} {zs : List Int} {ys : List (List Int)} {m : Str → Option Value} {k1 k4 : Option Value} {g : Array GenState} {dr : Drawn} {tk : Nat} {os : OsState} {E : Value → Shared → Prop} {Q : Flow → Shared → Prop}
    (S : Stat w mg mb h₀) (hh : A.handled = none) (hu : A.units + 64 < cLine) (hs1 : StrsAre v1 (rowsOf zs)) (hrl : (rowsOf zs).length ≤ 100) (hrw : ∀ row ∈ rowsOf zs, row.length ≤ 100)
    (hmet : ∀ x ∈ metOf zs, ∃ a b c d : Int, x = [a, b, c, d] ∧ 0 ≤ a ∧ a < 2 ^ 20) (hml : (metOf zs).length ≤ 60) (hmath : (metOf zs).map (place (rowsOf zs)) = ys.map neg3)
    (X : LS h₀ L m k1 (some (.ref r1)) (some (.ref r2)) k4 (fun h => ((h.IsList r1 v1.toArray ∧ h.IsList r2 v2.toArray) ∧ LT h lm (metOf zs)) ∧ LT h lt (ys.map neg3)) h) (mm : m "met" = some (.ref lm)) (mt : m "told" = some (.ref lt))
    (next : ∀ h' tk', LS h₀ L m k1 (some (.ref r1)) (some (.ref r2)) k4 (fun h => ((h.IsList r1 v1.toArray ∧ h.IsList r2 v2.toArray) ∧ LT h lm (metOf zs)) ∧ LT h lt (ys.map neg3)) h' → wpAny (model prog w) A (execs (dLaw.body.drop 9) (envLw L fa cd)) Q E ⟨h', g, dr, tk', os⟩) :
    wpAny (model prog w) A (execs (dLaw.body.drop 8) (envLw L fa cd)) Q E ⟨h, g, dr, tk, os⟩ := by
  have S₀ := S.stay X.F.ev.keep
  obtain ⟨ws, hp, ht⟩ := X.dat.1.2.ex
  refine letQ ?_
  intro Qx Ex
  refine wpAny_execs_cons <| wpAny_If <| wpAny_isTrue_Compare1 <| eval_comp (cl := [(("strips" : Str), L + 2)]) rfl (by decide +kernel) rfl (by decide +kernel) ?_
  refine ldL X.F.ns mm <| wpAny_pyIter_list hp.isList ?_
  refine ⟨_, _, _, _, _, h, _, fun _ => true, fun i h y => IntTup h y (place (rowsOf zs) ((metOf zs).getD i [])), g, dr, os, _, _, rfl, rfl, tups_at (xs := ["up", "at", "wide", "nth"]) hh hp.isList ht (by lia) (fun x hx => by obtain ⟨a, b, c, d, rfl, _⟩ := hmet x hx; rfl) rfl (fun C => ⟨rfl, rfl, by intro x hx; simp only [List.mem_cons, List.not_mem_nil, or_false] at hx; rcases hx with rfl | rfl | rfl | rfl <;> rfl⟩) rfl (fok_tup _) test_nil ?_, ?_⟩
  · rintro i C m' h' tk' E' hi _ ⟨us, m0, hus, rfl⟩ hn hev
    dsimp only
    have hmem : (metOf zs).getD i [] ∈ metOf zs := by rw [List.getD_eq_getElem?_getD, List.getElem?_eq_getElem hi]; exact List.getElem_mem hi
    refine hid fun Gx hGx => ?_
    obtain ⟨a, b, c, d, e, ha0, ha1⟩ := hmet _ hmem
    refine hGx ?_
    clear hGx Gx
    rw [e] at hus ⊢
    obtain ⟨a, rfl⟩ := Int.eq_ofNat_of_zero_le ha0
    obtain ⟨t1, t2, t3, t4, rfl⟩ : ∃ t1 t2 t3 t4, us = [.int (a : Int) t1, .int b t2, .int c t3, .int d t4] := by
      cases hus with
      | cons _ t1 hus => cases hus with
        | cons _ t2 hus => cases hus with
          | cons _ t3 hus => cases hus with
            | cons _ t4 hus => cases hus; exact ⟨_, _, _, _, rfl⟩
    have Y := X.step hev
    have S' := S.stay Y.F.ev.keep
    have hv1 : v1.length = (rowsOf zs).length := StrsAre.length hs1
    refine wpAny_Tuple <| wpAny_items_cons <| wpAny_BinOp <| ldL hn (by rfl) <| Call_ <| ldB S'.g (g_sum S') S'.b (b_sum S') <| PyProof.Rows.callWith_builtin1 <| wpAny_items_cons <| eval_comp (cl := []) (closureFor_none (by decide +kernel)) (by decide +kernel) rfl (by decide +kernel) ?_
    refine wpAny_Subscript_list_slice <| ldC Y.c2 (hcl := by rfl) <| wpAny_evalPart_none <| wpAny_evalPart_some <| ldL hn (by rfl) ⟨r1, v1.toArray, none, some (a : Int), rfl, Y.dat.1.1.1, by rw [List.size_toArray, hv1, sizeLine_eq]; lia, .none, .int _ _, ?_⟩
    rw [slicePick_upto']
    dsimp only
    generalize ({ cls := .type "slice", data := .fields _ } : Obj) = oS
    have hl₁ : ((h'.push oS).push { cls := .type "list", data := .seq (List.take a v1).toArray }).IsList (h'.objs.size + 1) (List.take a v1).toArray := by
      rw [← Heap.size_push (h := h') (o := oS)]; exact ⟨_, Heap.get?_push_size _ rfl, rfl, _, rfl⟩
    have x₂ : Ev h' ((h'.push oS).push { cls := .type "list", data := .seq (List.take a v1).toArray }) := (Ev.push oS).trans (.push _)
    show wpAny _ _ (pyIter (.ref (h'.objs.size + 1))) _ _ ⟨(h'.push oS).push { cls := .type "list", data := .seq (List.take a v1).toArray }, g, dr, _, os⟩
    generalize (h'.push oS).push { cls := .type "list", data := .seq (List.take a v1).toArray } = h₂ at *
    generalize h'.objs.size + 1 = l at *
    have hn₂ := Ns.stay x₂.keep hn
    have hst := strs_take hs1 a
    have hsl : (List.take a v1).length = ((rowsOf zs).take a).length := StrsAre.length hst
    have hsl2 : ((rowsOf zs).take a).length ≤ 100 := by rw [List.length_take]; lia
    refine wpAny_pyIter_list hl₁ ?_
    refine ⟨_, _, _, _, _, h₂, _, fun _ => true, fun i _ y => ∃ t, y = Value.int ((((rowsOf zs).take a).getD i "").length + 1) t, g, dr, os, _, _, rfl, rfl, vals_at (x := "strip") hh hl₁ (by rw [List.size_toArray, hsl]; lia) (fun C => rfl) rfl (fok_int _) test_nil ?_, ?_⟩
    · intro j C' m₂ h₃ tk₃ E₃ hj _ hV hn₃ hev₃
      rw [List.size_toArray, hsl] at hj
      have hrow : ((rowsOf zs).take a)[j]? = some (((rowsOf zs).take a).getD j "") := by rw [List.getD_eq_getElem?_getD, List.getElem?_eq_getElem hj]; rfl
      refine hid fun Gx hGx => ?_
      obtain ⟨v, hv, t', rfl⟩ := strs_get hst hrow
      refine hGx ?_
      clear hGx Gx
      have hV' : m₂ "strip" = some (.str (((rowsOf zs).take a).getD j "") t') := by rw [hV]; simpa using hv
      have hmr : ((rowsOf zs).take a).getD j "" ∈ rowsOf zs := List.mem_of_mem_take (List.mem_of_getElem? hrow)
      have hlr := hrw _ hmr
      have S₃ := S.stay ((Y.step x₂).step hev₃).F.ev.keep
      refine wpAny_BinOp <| Call_ <| ldB S₃.g (g_len S₃) S₃.b (b_len S₃) <| PyProof.Rows.callWith_builtin1 <| wpAny_items_cons <| ldL hn₃ hV' <| wpAny_items_nil <| PySem.P.len_str (by lia) <| wpAny_Constant_int <| wpAny_add_int ?_
      exact ⟨_, _, rfl, .refl _, ⟨_, rfl⟩, fun a q => by cases q⟩
    · intro Dl h₄ tk₄ ys₄ hD₄ hpl₄ hev₄ hfl₄
      have hys := hfl₄.ints
      rw [filter_true, List.size_toArray, hsl, map_range_getD _ _ fun r : Str => (r.length : Int) + 1] at hys
      obtain ⟨xs, ex, hsum⟩ := ints_values hys
      refine wpAny_items_nil <| sum_intListG hh (l := Dl) (by rw [← ex]; exact hpl₄.isList) fun h₅ tk₅ t₅ k₅ => ?_
      rw [hsum]
      dsimp only at k₅ ⊢
      have x₅ : Ev h' h₅ := (x₂.trans hev₄).trans (.of_keeps k₅)
      have hn₅ := Ns.stay x₅.keep hn
      refine wpAny_add_int <| wpAny_items_cons <| ldL hn₅ (by rfl) <| wpAny_items_cons <| ldL hn₅ (by rfl) <| wpAny_items_nil ⟨szl, ?_⟩
      exact ⟨_, _, rfl, x₅.trans (.push _), ⟨_, _, _, rfl, Heap.get?_push_size _ rfl, .cons _ _ (.cons _ _ (.cons _ _ .nil))⟩, fun a' q => by cases q; exact x₅.fresh (Nat.le_refl _)⟩
  · intro Dl h₂ tk₂ ys₂ hD hpl hev hfl
    have htup := hfl.tups
    rw [filter_true, map_range_getD, hmath] at htup
    have X₂ := X.step hev
    have lt₂ : LT h₂ Dl (ys.map neg3) := ⟨ys₂, hpl, htup⟩
    refine ldL X₂.F.ns mt ?_
    refine SeqAt.compareNe_shaped lt₂.reads X₂.dat.2.reads ((dep_tups _).shaped (by decide)) ((dep_tups _).shaped (by decide)) hu <| wpAny_truthy_bool ?_
    rw [SeqAt.eqv_refl _ (dep_tups _).1]
    simp only [Bool.not_true, Bool.false_eq_true, if_false]
    exact wpAny_execs_nil (next h₂ _ X₂)
end
end Mine
end

section
set_option maxHeartbeats 1000000
namespace Mine
open PySem PySem.W PyProof.Rows PySem.Calls
section
variable {prog : Program} {w : World} {A : Around} {E : Value → Shared → Prop} {s : Shared}
theorem applied_upto {sl : Addr} {u : Tok} {Q : Int × Int × Nat → Shared → Prop} (hs : s.heap.IsSliceOf sl .none (.int 4 u) .none) (h : Q (0, 1, 4) s) :
    wpAny (model prog w) A (Builtin.Slice.sliceApplied (.ref sl) (pure 5)) Q E s := by
  refine hid fun Gx hGx => ?_
  obtain ⟨os, hos, hcs, hds⟩ := id hs
  refine hGx ?_
  clear hGx Gx
  unfold Builtin.Slice.sliceApplied Builtin.Slice.sliceFields
  refine wpAny_bind (wpAny_bind (wpAny_field hos hds (x := .none) rfl (wpAny_bind (wpAny_field hos hds (x := .int 4 u) rfl (wpAny_bind (wpAny_field hos hds (x := .none) rfl (wpAny_pure ?_)))))))
  refine wpAny_bind (slicePart_none ?_)
  show wpAny _ _ (if ((1 : Int) == 0) = true then _ else _) _ _ s
  rw [if_neg (by decide)]
  refine wpAny_bind (slicePart_none (wpAny_bind (slicePart_int (wpAny_bind (wpAny_pure ?_)))))
  exact wpAny_pure h
theorem getItem_upto4 {t sl : Addr} {x0 x1 x2 x3 x4 : Value} {u : Tok} {Q : Value → Shared → Prop} (ht : IsTup s.heap t #[x0, x1, x2, x3, x4]) (hs : s.heap.IsSliceOf sl .none (.int 4 u) .none)
    (h : Q (.ref s.heap.objs.size) { s with heap := s.heap.push { cls := .type "tuple", data := .seq #[x0, x1, x2, x3] } }) : wpAny (model prog w) A (getItem (.ref t) (.ref sl)) Q E s := by
  refine hid fun Gx hGx => ?_
  obtain ⟨os, hos, hcs, hds⟩ := id hs
  refine hGx ?_
  clear hGx Gx
  have hTs : s.TypeIs (.ref sl) "slice" := ⟨os, hos, hcs⟩
  have hdrop : sizeOk (.seq #[x0, x1, x2, x3]) := by show 4 ≤ sizeLine; rw [sizeLine_eq]; lia
  unfold getItem
  try with_reducible refine wpAny_holding ?_
  first | refine wpAny_bind (wpAny_pure ?_) | skip
  refine wpAny_bind (wpAny_sequenceKey ht.typeIs (by decide) ?_)
  refine wpAny_bind (wpAny_callSpecial?_slot (name := Str.ofString "__getitem__") ht.typeIs slot_tuple_getitem
    (wpAny_call_entry slot_tuple_getitem ht.typeIs entry_tuple_getitem ?_ (args_tuple_getitem _ _)))
  show wpAny _ _ (Builtin.Tuple.tupleItemsOf (.ref t) >>= _) _ _ s
  refine wpAny_bind (tupleItemsOf_ ht ?_)
  refine wpAny_bind (wpAny_typeOf hTs ?_)
  rw [if_pos (by decide)]
  refine wpAny_bind (applied_upto hs ?_)
  show wpAny _ _ (if ((0 : Int) == 0 && (1 : Int) == 1 && (4 : Nat) == 5) = true then _ else _) _ _ s
  rw [if_neg (by decide)]
  show wpAny _ _ (Builtin.Tuple.tupleExact #[x0, x1, x2, x3] >>= _) _ _ s
  first
    | exact wpAny_bind (m := Builtin.Tuple.tupleExact _) (wpAny_newObj_type (wpAny_pure ⟨_, rfl, wpAny_pure h⟩) hdrop)
    | exact wpAny_bind (m := Builtin.Tuple.tupleExact _) (wpAny_newObj_type (wpAny_bind (wpAny_pure (wpAny_pure ⟨_, rfl, wpAny_pure h⟩))) hdrop)
    | exact wpAny_bind (wpAny_bind (m := Builtin.Tuple.tupleExact _) (wpAny_newObj_type (wpAny_pure (wpAny_pure ⟨_, rfl, wpAny_pure h⟩)) hdrop))
    | exact wpAny_bind (wpAny_bind (m := Builtin.Tuple.tupleExact _) (wpAny_newObj_type (wpAny_pure ⟨_, rfl, wpAny_pure h⟩) hdrop))
end
end Mine
end

section
set_option maxHeartbeats 1000000
namespace Mine
open PySem PySem.W PyProof.Rows PySem.Calls

section
variable {prog : Program} {w : World} {A : Around} {s : Shared} {R : Result → Shared → Prop} {mg mb : Str → Option Value}

/- a comprehension over a list of triples whose items are ints, told by its kind of item and test -/
theorem ev_told {E : Value → Shared → Prop} {L fa lt : Addr} {cd : Value} {h₀ h : Heap} {zs : List Int} {ts : List (List Int)} {m : Str → Option Value} {k1 k2 k3 k4 : Option Value} {D : Heap → Prop} {g : Array GenState} {dr : Drawn} {tk : Nat} {os : OsState} {elt : PySem.Expr} {ifs : List PySem.Expr} {scope : Scope} {elts : List PySem.Expr} {kk : Nat} {tp ip pos : Pos} {p : Nat → Bool} {f : Nat → Int} {Q : Value → Shared → Prop}
    (hh : A.handled = none) (X : LS h₀ L m k1 k2 k3 k4 D h) (mt : m "told" = some (.ref lt)) (hD : ∀ h, D h → LT h lt ts) (h3 : ∀ x ∈ ts, x.length = 3) (hl : ts.length ≤ 60) (hx : tgts elts = some [("at" : Str), "wide", "nth"])
    (hfree : ∀ x ∈ scope.names, x.2 ≠ .free) (hcell : ∀ y ∈ scope.names, y.2 ≠ .cell) (hkind : scope.kind = .function) (hnames : ∀ y ∈ scope.names, y.2 = .local → scope.names.lookup y.1 = some .local)
    (ha : ∀ C, (assignEach elts (compEnvC scope [] C (envLw L fa cd))).length = 3 ∧ (assignEach elts (compEnvC scope [] C (envLw L fa cd))).findIdx? (·.1) = none ∧ ∀ x ∈ [("at" : Str), "wide", "nth"], (compEnvC scope [] C (envLw L fa cd)).kindOf x = some .local)
    (hT : TestOk prog w A g dr os (envLw L fa cd) scope [] ifs ts.length h (fun i m => ∃ us m0, IntsAre us (ts.getD i []) ∧ m = upds m0 ["at", "wide", "nth"] us) p)
    (hE : EltOk prog w A g dr os (envLw L fa cd) scope [] elt ts.length h (fun i m => ∃ us m0, IntsAre us (ts.getD i []) ∧ m = upds m0 ["at", "wide", "nth"] us) p (fun i _ y => ∃ t, y = Value.int (f i) t))
    (hQ : ∀ d ys h' tk', Ev h h' → h'.PlainList d ys.toArray → IntsAre ys (((List.range ts.length).filter p).map f) → Q (.ref d) ⟨h', g, dr, tk', os⟩)
    (hs : ∀ x, foldedSetIterable (.Name "told" ip) (envLw L fa cd) x = pure x := by intro _; rfl) :
    wpAny (model prog w) A (eval (.ListComp elt [⟨.Tuple elts kk tp, .Name "told" ip, ifs, 0⟩] scope pos) (envLw L fa cd)) Q E ⟨h, g, dr, tk, os⟩ := by
  obtain ⟨ws, hp, ht⟩ := (hD _ X.dat).ex
  refine eval_comp (cl := []) (closureFor_none hfree) hcell hkind hnames ?_ hs
  refine ldL X.F.ns mt <| wpAny_pyIter_list hp.isList ?_
  refine ⟨_, _, _, _, _, h, _, p, fun i _ y => ∃ t, y = Value.int (f i) t, g, dr, os, _, _, rfl, rfl, tups_at (xs := ["at", "wide", "nth"]) hh hp.isList ht (by lia) (fun x hx => h3 x hx) hx (fun C => ha C) hkind (fok_int _) hT hE, ?_⟩
  intro Dl h₂ tk₂ ys₂ _ hpl hev hfl
  exact hQ Dl ys₂ h₂ tk₂ hev hpl hfl.ints
end
end Mine
end

section
set_option maxHeartbeats 1000000
namespace Mine
open PySem PySem.W PyProof.Rows PySem.Calls

theorem us3 {us : List Value} {x : List Int} (hus : IntsAre us x) (h3 : x.length = 3) : ∃ a b c t1 t2 t3, x = [a, b, c] ∧ us = [.int a t1, .int b t2, .int c t3] := by
  cases hus with
  | nil => cases h3
  | cons a t1 hus => cases hus with
    | nil => cases h3
    | cons b t2 hus => cases hus with
      | nil => cases h3
      | cons c t3 hus => cases hus with
        | nil => exact ⟨a, b, c, t1, t2, t3, rfl, rfl⟩
        | cons _ _ _ => simp at h3
theorem getD_mem3 {ts : List (List Int)} (h3 : ∀ x ∈ ts, x.length = 3) {i : Nat} (hi : i < ts.length) : (ts.getD i []).length = 3 := h3 _ (by rw [List.getD_eq_getElem?_getD, List.getElem?_eq_getElem hi]; exact List.getElem_mem hi)
theorem LS.to {h₀ h : Heap} {L : Addr} {m : Str → Option Value} {k1 k2 k3 k4 : Option Value} {D D' : Heap → Prop} (X : LS h₀ L m k1 k2 k3 k4 D h) (r : Rob L D') (d : D' h) : LS h₀ L m k1 k2 k3 k4 D' h := { X with rob := r, dat := d }
noncomputable def posW (ts : List (List Int)) (i : Nat) : Bool := decide (0 < (ts.getD i []).getD 1 0)

section
variable {prog : Program} {w : World} {A : Around} {s : Shared} {R : Result → Shared → Prop} {mg mb : Str → Option Value}

theorem law_f {L fa r1 r2 lm lt : Addr} {cd : Value} {h₀ h : Heap} {v1 v2 : List Value} {zs : List Int} {ts : List (List Int)} {m : Str → Option Value} {k1 k2 k4 : Option Value} {g : Array GenState} {dr : Drawn} {tk : Nat} {os : OsState} {E : Value → Shared → Prop} {Q : Flow → Shared → Prop}
    (S : Stat w mg mb h₀) (hh : A.handled = none) (hu : A.units + 64 < cLine) (hroom : A.depth + 2 < recursionLimit) (hs2 : StrsAre v2 (wordsOf zs))
    (hmet : ∀ x ∈ metOf zs, HitOk 3 x) (hml : (metOf zs).length ≤ 60) (h3 : ∀ x ∈ ts, x.length = 3) (hb : ∀ x ∈ ts, 0 ≤ x.getD 1 0 ∧ x.getD 1 0 < 2 ^ 20) (hl : ts.length ≤ 60)
    (ma : (smAll (wordsOf zs) (metOf zs)).a = (((List.range ts.length).filter (posW ts)).length : Int)) (mb' : (smAll (wordsOf zs) (metOf zs)).b = (ts.length : Int)) (mc : (smAll (wordsOf zs) (metOf zs)).c = ((List.range ts.length).map fun i => (ts.getD i []).getD 1 0).sum)
    (me : (smAll (wordsOf zs) (metOf zs)).e = ((List.range ts.length).map fun i => (ts.getD i []).getD 1 0 * (ts.getD i []).getD 1 0).sum)
    (X : LS h₀ L m k1 k2 (some (.ref r2)) k4 (fun h => ((h.IsList r1 v1.toArray ∧ h.IsList r2 v2.toArray) ∧ LT h lm (metOf zs)) ∧ LT h lt ts) h) (mm : m "met" = some (.ref lm)) (mt : m "told" = some (.ref lt))
    (next : ∀ v d h' tk' m', m' "ledger" = some v → m' "told" = some (.ref lt) → LS h₀ L m' k1 k2 (some (.ref r2)) k4 (fun h => (h.IsList r2 v2.toArray ∧ LT h lt ts) ∧ LedS prog w h v d (smAll (wordsOf zs) (metOf zs))) h' → wpAny (model prog w) A (execs (dLaw.body.drop 11) (envLw L fa cd)) Q E ⟨h', g, dr, tk', os⟩) :
    wpAny (model prog w) A (execs (dLaw.body.drop 9) (envLw L fa cd)) Q E ⟨h, g, dr, tk, os⟩ := by
  have S₀ := S.stay X.F.ev.keep
  refine hid fun Gx hGx => ?_
  obtain ⟨pm, c, ct, hK, hC⟩ := K98 w.params
  refine hGx ?_
  clear hGx Gx
  refine letQ ?_
  intro Qx Ex
  refine wpAny_execs_cons <| wpAny_Assign_Name <| Call_ <| ldG S₀.g (g_ls S₀) <| callWith_def (o := fnObj (fnAny "_law_summed" "_law_summed" dSum.params (.stmts dSum.body) dSum.scope [] .none .none pm (.ref c) ct)) rfl <| wpAny_items_cons <| ldL X.F.ns mm <| wpAny_items_cons <| ldC X.c3 (hcl := by rfl) <| wpAny_items_nil ⟨S₀.K _ _ hK, wpAny_call ?_⟩
  refine sum_ct (words := wordsOf zs) S₀ X.dat.1.2 X.dat.1.1.2 hs2 (show 3 < 2 ^ 20 by decide) hmet hml hroom hh (by lia) fun v d h₁ tk₁ x₁ hd led => ?_
  dsimp only at x₁ hd ⊢
  have X₁ := X.step x₁
  have hdL : d ≠ L := fun q => by obtain ⟨o, _, _, e, _⟩ := X.F.ns; rw [q, e] at hd; cases hd
  have X₂ := X₁.add (rob_led hdL) led
  refine wpAny_storeName_local rfl X₂.F.ns (fun h₃ hn₃ hs₃ => ?_) rfl
  dsimp only at hs₃ ⊢
  have Y := X₂.store (fun b o hb e => (hs₃.2 b hb).trans e) hn₃
  have X₃ := Y.to (D' := fun h => (h.IsList r2 v2.toArray ∧ LT h lt ts) ∧ LedS prog w h v d (smAll (wordsOf zs) (metOf zs))) ((rob_list.and rob_LT).and (rob_led hdL)) ⟨⟨Y.dat.1.1.1.2, Y.dat.1.2⟩, Y.dat.2⟩
  clear Y
  clear X₂ X₁ X led hs₃ hn₃
  refine hid fun Gx hGx => ?_
  obtain ⟨t, n, u1, u2, u3, u4, rfl, ht, cdd⟩ := X₃.dat.2
  refine hGx ?_
  clear hGx Gx
  refine wpAny_execs_cons <| wpAny_If <| wpAny_isTrue_Compare1 <| wpAny_Subscript_Slice (T := "tuple") slot_tuple_getitem.lookup (ldL X₃.F.ns (by rfl) <| wpAny_Slice <| wpAny_evalPart_none <| wpAny_evalPart_some <| wpAny_Constant_int <| wpAny_evalPart_none ⟨?_, ?_⟩)
  · exact ⟨_, Heap.get?_push_of_some _ ht, rfl⟩
  refine getItem_upto4 ⟨_, Heap.get?_push_of_some _ ht, rfl, n, rfl⟩ (Heap.IsSliceOf.new ..) ?_
  dsimp only
  generalize hsl : h₃.push _ = h₄
  have k₄ : ∀ b o, h₃.get? b = some o → h₄.get? b = some o := by intro b o e; rw [← hsl]; exact Heap.get?_push_of_some _ e
  clear hsl
  generalize hq : smAll (wordsOf zs) (metOf zs) = q at *
  have kt : IntTup (h₄.push { cls := .type "tuple", data := .seq #[.int q.a u1, .int q.b u2, .int q.c u3, .int q.e u4] }) (.ref h₄.objs.size) [q.a, q.b, q.c, q.e] := ⟨_, [.int q.a u1, .int q.b u2, .int q.c u3, .int q.e u4], _, rfl, Heap.get?_push_size _ rfl, .cons _ _ (.cons _ _ (.cons _ _ (.cons _ _ .nil)))⟩
  have X₅ := (X₃.keeps k₄).step (.push { cls := .type "tuple", data := .seq #[.int q.a u1, .int q.b u2, .int q.c u3, .int q.e u4] })
  generalize h₄.push { cls := .type "tuple", data := .seq #[.int q.a u1, .int q.b u2, .int q.c u3, .int q.e u4] } = h₅ at *
  generalize h₄.objs.size = T at *
  clear k₄ ht cdd X₃
  have S₅ := S.stay X₅.F.ev.keep
  have hF : ∀ h, (fun h => (h.IsList r2 v2.toArray ∧ LT h lt ts) ∧ LedS prog w h (.ref t) d q) h → LT h lt ts := fun h x => x.1.2
  refine wpAny_Tuple <| wpAny_items_cons <| Call_ <| ldB S₅.g (g_len S₅) S₅.b (b_len S₅) <| PyProof.Rows.callWith_builtin1 <| wpAny_items_cons <| ev_told (zs := zs) (p := posW ts) (f := fun _ => 1) hh X₅ (by exact mt) hF h3 hl rfl (by decide +kernel) (by decide +kernel) rfl (by decide +kernel) (fun C => ⟨rfl, rfl, by intro x hx; simp only [List.mem_cons, List.not_mem_nil, or_false] at hx; rcases hx with rfl | rfl | rfl <;> rfl⟩) ?_ ?_ ?_
  · rintro i C m' h' tk' E' hi ⟨us, m0, hus, rfl⟩ hn hev
    refine hid fun Gx hGx => ?_
    obtain ⟨a, b, c, t1, t2, t3, e, rfl⟩ := us3 hus (getD_mem3 h3 hi)
    refine hGx ?_
    clear hGx Gx
    refine wpAny_tests_one <| wpAny_isTrue_Compare1 <| ldL hn (by rfl) <| wpAny_Constant_int <| PySem.P.gt_int <| wpAny_truthy_bool ?_
    refine ⟨?_, _, _, rfl, .refl _⟩
    unfold posW; rw [e]; rfl
  · rintro i C m' h' tk' E' hi _ _ hn hev
    exact wpAny_Constant_int ⟨_, _, rfl, .refl _, ⟨_, rfl⟩, fun a q => by cases q⟩
  intro d1 ys1 h₆ tk₆ x₆ hp1 hi1
  have X₆ := X₅.step x₆
  have S₆ := S.stay X₆.F.ev.keep
  have hn1 : ys1.length = ((List.range ts.length).filter (posW ts)).length := by rw [ints_len hi1, List.length_map]
  have hn1' : ys1.length ≤ 60 := by rw [hn1]; exact Nat.le_trans (List.length_filter_le _ _) (by simpa using hl)
  refine wpAny_items_nil <| call_len_list hp1.isList (by rw [List.size_toArray]; lia) ?_
  rw [show (ys1.toArray.size : Int) = q.a by rw [List.size_toArray, hn1, ma]]
  obtain ⟨wt, hpt, htt⟩ := X₆.dat.1.2.ex
  have hwt : wt.length = ts.length := htt.length
  refine wpAny_items_cons <| Call_ <| ldB S₆.g (g_len S₆) S₆.b (b_len S₆) <| PyProof.Rows.callWith_builtin1 <| wpAny_items_cons <| ldL X₆.F.ns (by exact mt) <| wpAny_items_nil <| call_len_list hpt.isList (by rw [List.size_toArray, hwt]; lia) ?_
  rw [show (wt.toArray.size : Int) = q.b by rw [List.size_toArray, hwt, mb']]
  refine wpAny_items_cons <| Call_ <| ldB S₆.g (g_sum S₆) S₆.b (b_sum S₆) <| PyProof.Rows.callWith_builtin1 <| wpAny_items_cons <| ev_told (zs := zs) (p := fun _ => true) (f := fun i => (ts.getD i []).getD 1 0) hh X₆ (by exact mt) hF h3 hl rfl (by decide +kernel) (by decide +kernel) rfl (by decide +kernel) (fun C => ⟨rfl, rfl, by intro x hx; simp only [List.mem_cons, List.not_mem_nil, or_false] at hx; rcases hx with rfl | rfl | rfl <;> rfl⟩) test_nil ?_ ?_
  · rintro i C m' h' tk' E' hi _ ⟨us, m0, hus, rfl⟩ hn hev
    refine hid fun Gx hGx => ?_
    obtain ⟨a, b, c, t1, t2, t3, e, rfl⟩ := us3 hus (getD_mem3 h3 hi)
    refine hGx ?_
    clear hGx Gx
    refine ldL hn (by rfl) ⟨_, _, rfl, .refl _, ⟨t2, ?_⟩, fun a q => by cases q⟩
    rw [e]; rfl
  intro d2 ys2 h₇ tk₇ x₇ hp2 hi2
  rw [filter_true] at hi2
  have X₇ := X₆.step x₇
  obtain ⟨xs2, ex2, hsum2⟩ := ints_values hi2
  refine wpAny_items_nil <| sum_intListG hh (l := d2) (by rw [← ex2]; exact hp2.isList) fun h₈ tk₈ t₈ k₈ => ?_
  rw [hsum2, ← mc]
  dsimp only at k₈ ⊢
  have X₈ := X₇.keeps k₈
  have S₈ := S.stay X₈.F.ev.keep
  refine wpAny_items_cons <| Call_ <| ldB S₈.g (g_sum S₈) S₈.b (b_sum S₈) <| PyProof.Rows.callWith_builtin1 <| wpAny_items_cons <| ev_told (zs := zs) (p := fun _ => true) (f := fun i => (ts.getD i []).getD 1 0 * (ts.getD i []).getD 1 0) hh X₈ (by exact mt) hF h3 hl rfl (by decide +kernel) (by decide +kernel) rfl (by decide +kernel) (fun C => ⟨rfl, rfl, by intro x hx; simp only [List.mem_cons, List.not_mem_nil, or_false] at hx; rcases hx with rfl | rfl | rfl <;> rfl⟩) test_nil ?_ ?_
  · rintro i C m' h' tk' E' hi _ ⟨us, m0, hus, rfl⟩ hn hev
    have hbb := hb _ (show ts.getD i [] ∈ ts by rw [List.getD_eq_getElem?_getD, List.getElem?_eq_getElem hi]; exact List.getElem_mem hi)
    refine hid fun Gx hGx => ?_
    obtain ⟨a, b, c, t1, t2, t3, e, rfl⟩ := us3 hus (getD_mem3 h3 hi)
    refine hGx ?_
    clear hGx Gx
    rw [e] at hbb
    have hb1 : 0 ≤ b := hbb.1
    have hb2 : b < 2 ^ 20 := hbb.2
    refine wpAny_BinOp <| ldL hn (by rfl) <| ldL hn (by rfl) <| PySem.P.mul_int (hm := IntMulOk.of_left (intBits_le_64 (by lia) (by lia))) ⟨_, _, rfl, .refl _, ?_, fun a q => by cases q⟩
    dsimp only
    rw [e]
    exact ⟨_, rfl⟩
  intro d3 ys3 h₉ tk₉ x₉ hp3 hi3
  rw [filter_true] at hi3
  have X₉ := X₈.step x₉
  obtain ⟨xs3, ex3, hsum3⟩ := ints_values hi3
  refine wpAny_items_nil <| sum_intListG hh (l := d3) (by rw [← ex3]; exact hp3.isList) fun h₁₀ tk₁₀ t₁₀ k₁₀ => ?_
  rw [hsum3, ← me]
  dsimp only at k₁₀ ⊢
  have X₁₀ := X₉.keeps k₁₀
  refine wpAny_items_nil ⟨szl, ?_⟩
  dsimp only
  have xx : Ev h₅ h₁₀ := (((x₆.trans x₇).trans (.of_keeps k₈)).trans x₉).trans (.of_keeps k₁₀)
  generalize hpp : h₁₀.push _ = h₁₁
  have kt' : IntTup h₁₁ (.ref T) [q.a, q.b, q.c, q.e] := (kt.stay xx.keep).stay (by rw [← hpp]; exact (Ev.push _).keep)
  have X₁₁ := X₁₀.step (h' := h₁₁) (by rw [← hpp]; exact .push _)
  have rt : IntTup h₁₁ (.ref h₁₀.objs.size) [q.a, q.b, q.c, q.e] := by rw [← hpp]; exact ⟨_, _, _, rfl, Heap.get?_push_size _ rfl, .cons _ _ (.cons _ _ (.cons _ _ (.cons _ _ .nil)))⟩
  clear hpp
  refine SeqAt.compareNe_shaped kt'.reads rt.reads ((dep_ints _).shaped (by decide)) ((dep_ints _).shaped (by decide)) hu <| wpAny_truthy_bool ?_
  rw [SeqAt.eqv_refl _ (dep_ints _).1]
  simp only [Bool.not_true, Bool.false_eq_true, if_false]
  exact wpAny_execs_nil (next _ d h₁₁ _ _ (by rfl) (by exact mt) X₁₁)
end
end Mine
end

section
set_option maxHeartbeats 1000000
namespace Mine
open PySem PySem.W PyProof.Rows PySem.Calls

/- a key: (page, line, word) -/
noncomputable def KeyT (h : Heap) (v : Value) (k : CK) : Prop := ∃ T n t1 t2 t3, v = .ref T ∧ h.get? T = some { cls := .type "tuple", data := .seq #[.str "page" t1, .int k.1 t2, .str k.2 t3] n }
theorem KeyT.stay {h h' : Heap} (k : Stay h h') {v : Value} {q : CK} (x : KeyT h v q) : KeyT h' v q := (by obtain ⟨T, n, t1, t2, t3, e, ht⟩ := x; exact ⟨T, n, t1, t2, t3, e, k _ _ ht (not_tab nofun)⟩)
theorem KeyT.soft {h h' : Heap} {a : Addr} (I : SoftA h a) (k : But a h h') {v : Value} {q : CK} (x : KeyT h v q) : KeyT h' v q := by
  refine hid fun Gx hGx => ?_
  obtain ⟨o, ho, hp, i3⟩ := I
  obtain ⟨T, n, t1, t2, t3, e, ht⟩ := x
  refine hGx ?_
  clear hGx Gx
  exact ⟨T, n, t1, t2, t3, e, k _ _ (fun q => by rw [q, ho] at ht; cases ht; exact i3 _ _ rfl rfl) ht⟩
theorem KeyT.gen {h h' : Heap} {a : Addr} (I : SoftA h a) (k : StayBut a h h') {v : Value} {q : CK} (x : KeyT h v q) : KeyT h' v q := by
  refine hid fun Gx hGx => ?_
  obtain ⟨o, ho, hp, i3⟩ := I
  obtain ⟨T, n, t1, t2, t3, e, ht⟩ := x
  refine hGx ?_
  clear hGx Gx
  exact ⟨T, n, t1, t2, t3, e, k _ _ (fun q => by rw [q, ho] at ht; cases ht; exact i3 _ _ rfl rfl) ht (not_tab nofun)⟩
noncomputable def dKey (k : CK) : PyData := .tuple [.str "page", .int k.1, .str k.2]
theorem KeyT.reads {h : Heap} {v : Value} {q : CK} (x : KeyT h v q) : Reads h v (dKey q) [] := by
  refine hid fun Gx hGx => ?_
  obtain ⟨T, n, t1, t2, t3, rfl, ht⟩ := x
  refine hGx ?_
  clear hGx Gx
  exact .tuple ht rfl rfl (.cons (.str _ _) (.cons (.int _ _) (.cons (.str _ _) .nil)))
inductive KeysAre (h : Heap) : List Value → List CK → Prop
  | nil : KeysAre h [] []
  | cons {v vs k ks} : KeyT h v k → KeysAre h vs ks → KeysAre h (v :: vs) (k :: ks)
structure KL (h : Heap) (a : Addr) (ks : List CK) : Prop where
  ex : ∃ vs : List Value, h.PlainList a vs.toArray ∧ KeysAre h vs ks
theorem KeysAre.stay {h h' : Heap} (k : Stay h h') {vs : List Value} {ks : List CK} (x : KeysAre h vs ks) : KeysAre h' vs ks := by
  induction x with
  | nil => exact .nil
  | cons y _ ih => exact .cons (y.stay k) ih
theorem KeysAre.gen {h h' : Heap} {a : Addr} (I : SoftA h a) (k : StayBut a h h') {vs : List Value} {ks : List CK} (x : KeysAre h vs ks) : KeysAre h' vs ks := by
  induction x with
  | nil => exact .nil
  | cons y _ ih => exact .cons (y.gen I k) ih
theorem KeysAre.length {h : Heap} {vs : List Value} {ks : List CK} (x : KeysAre h vs ks) : vs.length = ks.length := by
  induction x with
  | nil => rfl
  | cons _ _ ih => rw [List.length_cons, List.length_cons, ih]
theorem KeysAre.reads {h : Heap} {vs : List Value} {ks : List CK} (x : KeysAre h vs ks) : ReadsAll h vs (ks.map dKey) [] := by
  induction x with
  | nil => exact .nil
  | cons a _ ih => exact .cons a.reads ih
theorem KL.reads {h : Heap} {l : Addr} {ks : List CK} (x : KL h l ks) : Reads h (.ref l) (.list (ks.map dKey)) [l] := by
  refine hid fun Gx hGx => ?_
  obtain ⟨vs, ⟨n, e⟩, t⟩ := x.ex
  refine hGx ?_
  clear hGx Gx
  exact .list e rfl rfl t.reads
theorem rob_KL {L l : Addr} {ks : List CK} : Rob L fun h => KL h l ks :=
  ⟨fun _ _ k ⟨vs, p, t⟩ => ⟨vs, PlainList.stay k p, t.stay k⟩, fun _ _ _ sp k ⟨vs, ⟨n, p⟩, t⟩ => ⟨vs, ⟨n, k _ _ (sp.seq_ne p ⟨_, _, rfl⟩) p (not_tab nofun)⟩, t.gen sp.soft k⟩⟩
theorem fok_key (f : Nat → CK) : FOk fun i h y => KeyT h y (f i) := ⟨fun _ _ _ _ k x => x.stay k, fun _ _ _ _ _ I _ k x => x.soft I k⟩
theorem FL.keys {f : Nat → CK} {h : Heap} {is : List Nat} {ys : List Value} (x : FL (fun i h y => KeyT h y (f i)) h is ys) : KeysAre h ys (is.map f) := by
  induction x with
  | nil => exact .nil
  | cons a _ ih => exact .cons a ih
end Mine
end

section
set_option maxHeartbeats 1000000
namespace Mine
open PySem PySem.W PyProof.Rows PySem.Calls

/- the key that the law makes of a triple -/
noncomputable def keyOf (zs : List Int) (x : List Int) : CK := (Txt.count (Txt.slice (pageOf zs) none (some (x.getD 0 0))) "\n", (wordsOf zs).getD (x.getD 2 0).toNat "")

section
variable {prog : Program} {w : World} {A : Around} {s : Shared} {R : Result → Shared → Prop} {mg mb : Str → Option Value}

theorem law_g {L fa r2 lt : Addr} {cd : Value} {h₀ h : Heap} {v2 : List Value} {zs : List Int} {ts : List (List Int)} {m : Str → Option Value} {k2 k4 : Option Value} {t1 : Tok} {D : Heap → Prop} {g : Array GenState} {dr : Drawn} {tk : Nat} {os : OsState} {E : Value → Shared → Prop} {Q : Flow → Shared → Prop}
    (hh : A.handled = none) (hs2 : StrsAre v2 (wordsOf zs)) (hpg : (pageOf zs).length ≤ 13) (h3 : ∀ x ∈ ts, x.length = 3) (hb : ∀ x ∈ ts, 0 ≤ x.getD 2 0 ∧ x.getD 2 0 < 3) (hl : ts.length ≤ 60)
    (X : LS h₀ L m (some (.str (pageOf zs) t1)) k2 (some (.ref r2)) k4 (fun h => (h.IsList r2 v2.toArray ∧ LT h lt ts) ∧ D h) h) (mt : m "told" = some (.ref lt))
    (next : ∀ lk h' tk', LS h₀ L m (some (.str (pageOf zs) t1)) k2 (some (.ref r2)) (some (.ref lk)) (fun h => ((h.IsList r2 v2.toArray ∧ LT h lt ts) ∧ D h) ∧ KL h lk (ts.map (keyOf zs))) h' → wpAny (model prog w) A (execs (dLaw.body.drop 12) (envLw L fa cd)) Q E ⟨h', g, dr, tk', os⟩) :
    wpAny (model prog w) A (execs (dLaw.body.drop 11) (envLw L fa cd)) Q E ⟨h, g, dr, tk, os⟩ := by
  obtain ⟨ws, hp, ht⟩ := X.dat.1.2.ex
  refine letQ ?_
  intro Qx Ex
  refine wpAny_execs_cons <| wpAny_Assign_Name <| eval_comp (cl := [(("sought" : Str), L + 3), (("sheet" : Str), L + 1)]) rfl (by decide +kernel) rfl (by decide +kernel) ?_
  refine ldL X.F.ns mt <| wpAny_pyIter_list hp.isList ?_
  refine ⟨_, _, _, _, _, h, _, fun _ => true, fun i h y => KeyT h y (keyOf zs (ts.getD i [])), g, dr, os, _, _, rfl, rfl, tups_at (xs := ["at", "wide", "nth"]) hh hp.isList ht (by lia) (fun x hx => h3 x hx) rfl (fun C => ⟨rfl, rfl, by intro x hx; simp only [List.mem_cons, List.not_mem_nil, or_false] at hx; rcases hx with rfl | rfl | rfl <;> rfl⟩) rfl (fok_key _) test_nil ?_, ?_⟩
  · rintro i C m' h' tk' E' hi _ ⟨us, m0, hus, rfl⟩ hn hev
    dsimp only
    have hbb := hb _ (show ts.getD i [] ∈ ts by rw [List.getD_eq_getElem?_getD, List.getElem?_eq_getElem hi]; exact List.getElem_mem hi)
    refine hid fun Gx hGx => ?_
    obtain ⟨a, b, c, t1', t2, t3, e, rfl⟩ := us3 hus (getD_mem3 h3 hi)
    refine hGx ?_
    clear hGx Gx
    rw [e] at hbb ⊢
    have hc0 : 0 ≤ c := hbb.1
    have hc3 : c < 3 := hbb.2
    have Y := X.step hev
    have hw3 : (wordsOf zs).length = 3 := rfl
    have hwd : (wordsOf zs)[c.toNat]? = some ((wordsOf zs).getD c.toNat "") := by rw [List.getD_eq_getElem?_getD, List.getElem?_eq_getElem (by rw [hw3]; lia)]; rfl
    refine wpAny_Tuple <| wpAny_items_cons <| wpAny_Constant_str <| wpAny_items_cons <| MethodCall_ <| wpAny_Subscript_str_slice <| ldC Y.c1 (hcl := by rfl) <| wpAny_evalPart_none <| wpAny_evalPart_some <| ldL hn (by rfl) ⟨pageOf zs, t1, none, some (a, t1'), rfl, rfl, rfl, ?_⟩
    refine post_val_or_str ⟨Nat.le_trans (Txt.slice_le (pageOf zs) none (some a)) (by rw [sizeLine_eq]; lia), fun t' k => ?_⟩
    dsimp only
    generalize ({ cls := .type "slice", data := .fields _ } : Obj) = oS
    have Y₂ := Y.step (.push oS)
    have hn₂ := Ns.stay (Ev.push oS).keep hn
    have x₂ : Ev h' (h'.push oS) := .push oS
    generalize h'.push oS = h₂ at *
    refine hid fun Gx hGx => ?_
    obtain ⟨v, hv, t'', rfl⟩ := strs_get hs2 hwd
    refine hGx ?_
    clear hGx Gx
    refine GM.count <| callWith_method1 <| wpAny_items_cons <| wpAny_Constant_str <| wpAny_items_nil <| SC.count ?_
    refine wpAny_items_cons <| Subscript_ <| ldC Y₂.c3 (hcl := by rfl) <| ldL hn₂ (by rfl) <| tail_any Y₂.dat.1.1.typeIs slot_list_getitem.lookup (wpAny_getItem_list (x := .str ((wordsOf zs).getD c.toNat "") t'') Y₂.dat.1.1 hc0 (by lia) (by simpa using hv) ?_) (by with_unfolding_all rfl)
    refine wpAny_items_nil ⟨szl, ?_⟩
    exact ⟨_, _, rfl, x₂.trans (.push _), ⟨_, _, _, _, _, rfl, Heap.get?_push_size _ rfl⟩, fun a' q => by cases q; exact x₂.fresh (Nat.le_refl _)⟩
  · intro Dw h' tk' ys hD hpl hev hfl
    have hks := hfl.keys
    rw [filter_true, map_range_getD] at hks
    have X₂ := (X.step hev).add rob_KL ⟨ys, hpl, hks⟩
    refine wpAny_storeName_cell (c := L + 4) rfl rfl rfl X₂.c4 fun h₂ hc₂ hs₂ => ?_
    exact next Dw h₂ _ (X₂.set4 (fun b o hb e => (hs₂.2 b hb).trans e) hc₂)
end
end Mine
end

section
set_option maxHeartbeats 1000000
namespace Mine
open PySem PySem.W PyProof.Rows PySem.Calls

theorem OwnOk.upd {h h' : Heap} {it S : Addr} {own : Value} (x : OwnOk h it own) (k : But S h h') (hS : ∃ o, h'.get? S = some o) : OwnOk h' it own := by
  rcases x with rfl | ⟨a, oa, rfl, ha, hai⟩
  · exact .inl rfl
  · by_cases q : a = S
    · obtain ⟨o, e⟩ := hS
      exact .inr ⟨a, o, rfl, q ▸ e, hai⟩
    · exact .inr ⟨a, oa, rfl, k _ _ q ha, hai⟩
/- the pairs that were handed out -/
noncomputable def Pairs2 (es : Array DictEntry) (h : Heap) (S I : Addr) (as : List Addr) : Prop := ∀ (j : Nat) (a : Addr), as[j]? = some a → a ≠ S ∧ a ≠ I ∧ ∃ e, es[j]? = some e ∧ h.get? a = some { cls := .type "tuple", data := .seq #[e.key, e.val] }

section
variable {prog : Program} {w : World} {A : Around} {s : Shared} {R : Result → Shared → Prop} {es : Array DictEntry} {ep : Nat}

theorem raw_loop {S I d : Addr} (hh : A.handled = none) (hSI : S ≠ I) (hSd : d ≠ S) (hId : d ≠ I) (hn : es.size ≤ 1000) (res : Value) {h₁ : Heap}
    (hR : ∀ h' tk acc c as, (∀ b o, b ≠ S → b ≠ I → h₁.get? b = some o → h'.get? b = some o) → h'.get? S = some { cls := .type "list", dict := none, data := .seq acc c, slots := #[] } → as.length = es.size → Pairs2 es h' S I as → acc.toList = as.map Value.ref → R (.ok (.ret res)) { s with heap := h', toks := tk }) :
    ∀ (k i : Nat) (h : Heap) (tk c : Nat) (acc : Array Value) (as : List Addr) (own : Value) (f : Bool) (ok ov : Value), es.size - i = k → i ≤ es.size → h.get? I = some (itO own f d i es.size ep ok ov) → OwnOk h I own → RawD h d es ep → (∀ b o, b ≠ S → b ≠ I → h₁.get? b = some o → h.get? b = some o) →
      h.get? S = some { cls := .type "list", dict := none, data := .seq acc c, slots := #[] } → acc.toList = as.map Value.ref → as.length = i → Pairs2 es h S I as →
      codeAny (model prog w) A (.builtin "list.extend.loop" ⟨[.ref S, .ref I, res], []⟩) R { s with heap := h, toks := tk } := by
  intro k
  induction k with
  | zero =>
    intro i h tk c acc as own f ok ov hk hi hit how hD hkeep hS hacc hal hG
    refine codeAny_builtin PySem.F.entry_extend_loop ?_
    rw [Around.under_plainId PySem.F.plain_extend_loop _]
    show wpAny _ A.in1 (pyNext (.ref I) >>= _) _ _ _
    refine wpAny_bind (raw_end (s := { s with heap := h, toks := tk }) (A := A.in1) hh hit hD (Array.getElem?_eq_none (by lia)) fun h' he => ?_)
    refine wpAny_pure (hR h' tk acc c as (fun b o h1 h2 e => he b o h2 (hkeep b o h1 h2 e)) (he S _ hSI hS) (by lia) (fun j a hj => ?_) hacc)
    refine hid fun Gx hGx => ?_
    obtain ⟨e1, e2, e, e3, e4⟩ := hG j a hj
    refine hGx ?_
    clear hGx Gx
    exact ⟨e1, e2, e, e3, he a _ e2 e4⟩
  | succ k ih =>
    intro i h tk c acc as own f ok ov hk hi hit how hD hkeep hS hacc hal hG
    have hlt : i < es.size := by lia
    obtain ⟨e, hx⟩ : ∃ e, es[i]? = some e := ⟨es[i], by simp [hlt]⟩
    have hsz : acc.size = i := by rw [← Array.length_toList, hacc, List.length_map, hal]
    refine codeAny_builtin PySem.F.entry_extend_loop ?_
    rw [Around.under_plainId PySem.F.plain_extend_loop _]
    show wpAny _ A.in1 (pyNext (.ref I) >>= _) _ _ _
    refine wpAny_bind (raw_next (s := { s with heap := h, toks := tk }) hit hD how hx fun h' own' f' ok' ov' hit' how' _ ht hkp => ?_)
    dsimp only at ht hkp ⊢
    have hS' := hkp S _ hSI hS
    have up : But S h' (h'.update S (Obj.mapSeq (·.push (Value.ref h.objs.size)))) := fun b o hb e => (Heap.get?_update_other _ _ (Ne.symm hb)).trans e
    have hSl : S < h.objs.size := Heap.lt_size hS
    have hIl : I < h.objs.size := Heap.lt_size hit
    have hS2 := Heap.get?_update_self (Obj.mapSeq (·.push (Value.ref h.objs.size))) hS' rfl
    show wpAny _ A.in1 (updateSeq S (·.push (Value.ref h.objs.size)) >>= _) _ _ _
    refine wpAny_bind ?_
    refine wpAny_updateSeq hS' rfl (wpAny_pure ⟨plainId_quiet PySem.F.plain_extend_loop _, ih (i + 1) _ tk _ (acc.push (Value.ref h.objs.size)) (as ++ [h.objs.size]) own' f' ok' ov' (by lia) hlt (up _ _ (Ne.symm hSI) hit') (how'.upd up ⟨_, hS2⟩) (hD.at fun o e => up d o hSd (hkp d o hId e))
      (fun b o h1 h2 e => up b o h1 (hkp b o h2 (hkeep b o h1 h2 e))) hS2 (by rw [Array.toList_push, hacc, List.map_append]; rfl) (by rw [List.length_append, hal]; rfl) ?_⟩) (by rw [hsz, sizeLine_eq]; lia) (by show (acc.push (Value.ref h.objs.size)).size ≤ sizeLine + 1; rw [Array.size_push, hsz, sizeLine_eq]; lia)
    intro j b hj
    rcases Nat.lt_trichotomy j as.length with h1 | h1 | h1
    · rw [List.getElem?_append_left h1] at hj
      refine hid fun Gx hGx => ?_
      obtain ⟨e1, e2, e', e3, e4⟩ := hG j b hj
      refine hGx ?_
      clear hGx Gx
      exact ⟨e1, e2, e', e3, up b _ e1 (hkp b _ e2 e4)⟩
    · subst h1
      have hb : h.objs.size = b := by simpa using hj
      subst hb
      exact ⟨Nat.ne_of_gt hSl, Nat.ne_of_gt hIl, e, by rw [hal]; exact hx, up _ _ (Nat.ne_of_gt hSl) ht⟩
    · have hnone : (as ++ [h.objs.size])[j]? = none := List.getElem?_eq_none (by rw [List.length_append, List.length_singleton]; lia)
      rw [hnone] at hj; cases hj

theorem raw_extend {r d : Addr} (hh : A.handled = none) (hv : s.heap.IsItemsView r d) (hm : RawD s.heap d es ep) (S : Addr) (hSr : S ≠ r) (hSd : d ≠ S) (res : Value) (c₀ : Nat) (hS : s.heap.get? S = some { cls := .type "list", data := .seq #[] c₀ })
    (hR : ∀ h' tk acc c as, (∀ b o, b ≠ S → s.heap.get? b = some o → h'.get? b = some o) → h'.get? S = some { cls := .type "list", dict := none, data := .seq acc c, slots := #[] } → as.length = es.size → Pairs2 es h' S s.heap.objs.size as → acc.toList = as.map Value.ref → R (.ok (.ret res)) { s with heap := h', toks := tk }) (hn : es.size ≤ 1000) :
    wpAny (model prog w) A.in1 (Builtin.List.listExtendWith (.ref S) (.ref r) res)
      (fun fin s' => match fin with | .done f => R (.ok f) s' | .again c' => c'.quiet = true ∧ codeAny (model prog w) A c' R s') (fun e s' => R (.error e) s') s := by
  have hSI : S < s.heap.objs.size := Heap.lt_size hS
  have hdI : d < s.heap.objs.size := (by obtain ⟨_, e, _⟩ := hm; exact Heap.lt_size e)
  have key : ∀ (h : Heap) (c₁ tk : Nat), (∀ b o, b ≠ S → (s.heap.push (itO .none false d 0 es.size ep .none .none)).get? b = some o → h.get? b = some o) →
      h.get? S = some { cls := .type "list", data := .seq #[] c₁ } → codeAny (model prog w) A (.builtin "list.extend.loop" ⟨[.ref S, .ref s.heap.objs.size, res], []⟩) R { s with heap := h, toks := tk } := by
    intro h c₁ tk hk hS₁
    have hI := hk s.heap.objs.size _ (Nat.ne_of_gt hSI) (Heap.get?_push_size _ rfl)
    exact raw_loop (ep := ep) (s := s) (h₁ := s.heap) hh (Nat.ne_of_lt hSI) hSd (Nat.ne_of_lt hdI) hn res (fun h' tk' acc c as hk' hS' hl hG hacc => hR h' tk' acc c as (fun b o hb e => hk' b o hb (Nat.ne_of_lt (Heap.lt_size e)) e) hS' hl hG hacc)
      es.size 0 h tk c₁ #[] [] .none false .none .none (Nat.sub_zero _) (Nat.zero_le _) hI (.inl rfl) (hm.at fun o e => hk d o hSd (Heap.get?_push_of_some _ e)) (fun b o hb _ e => hk b o hb (Heap.get?_push_of_some _ e)) hS₁ rfl rfl (fun j a hj => by simp at hj)
  unfold Builtin.List.listExtendWith
  refine wpAny_bind (wpAny_typeOf (T := "dict_items") hv.typeIs ?_)
  have h1 : Builtin.List.listSameRef (.ref S) (.ref r) = false := by simp [Builtin.List.listSameRef, hSr]
  have h2 : (Value.type "dict_items" == Value.type "list") = false := by decide
  have h3 : (Value.type "dict_items" == Value.type "tuple") = false := by decide
  simp only [h1, h2, h3, Bool.or_false, Bool.false_eq_true, if_false]
  refine wpAny_bind (raw_iter_items hv hm ?_)
  have hS₁ := Heap.get?_push_of_some (itO .none false d 0 es.size ep .none .none) hS
  refine wpAny_bind (wpAny_holding (kdx_hint ((by obtain ⟨o, ho, hc, _⟩ := hv; exact ⟨o, Heap.get?_push_of_some _ ho, hc⟩)) ?_))
  refine wpAny_ite_split (fun _ => ?_) (fun _ => wpAny_pure ⟨plainId_quiet PySem.F.plain_extend_loop _, key _ c₀ _ (fun b o _ e => e) hS₁⟩)
  refine wpAny_bind (wpAny_rule ?_)
  refine wpAny_bind ?_
  show wpAny _ _ (updateSeq S (·.push .none) >>= fun _ => updateSeq S (·.pop)) _ _ _
  refine wpAny_bind (wpAny_updateSeq hS₁ rfl ?_)
  have hS₂ := Heap.get?_update_self (Obj.mapSeq (·.push Value.none)) hS₁ rfl
  refine wpAny_updateSeq (hz := by seq_fits) hS₂ rfl ?_
  have hS₃ := Heap.get?_update_self (Obj.mapSeq (·.pop)) hS₂ rfl
  refine wpAny_pure ⟨plainId_quiet PySem.F.plain_extend_loop _, key _ _ _ (fun b o hb e => ?_) hS₃⟩
  exact (Heap.get?_update_other _ _ (Ne.symm hb)).trans ((Heap.get?_update_other _ _ (Ne.symm hb)).trans e)

theorem raw_list {E : Value → Shared → Prop} {r d : Addr} {Q : Value → Shared → Prop} (hh : A.handled = none) (hv : s.heap.IsItemsView r d) (hm : RawD s.heap d es ep) (hn : es.size ≤ 1000)
    (hQ : ∀ (D : Addr) (h' : Heap) (tk : Nat) (acc : Array Value) (c : Nat) (as : List Addr), (∀ b o, s.heap.get? b = some o → h'.get? b = some o) → h'.get? D = some { cls := .type "list", dict := none, data := .seq acc c, slots := #[] } → as.length = es.size →
      (∀ (j : Nat) (a : Addr), as[j]? = some a → ∃ e, es[j]? = some e ∧ h'.get? a = some { cls := .type "tuple", data := .seq #[e.key, e.val] }) → acc.toList = as.map Value.ref → Q (.ref D) { s with heap := h', toks := tk }) :
    wpAny (model prog w) A (call (.type "list") [.ref r]) Q E s := by
  refine callType_codes (Q₁ := fun obj s₁ => obj = .ref s.heap.objs.size ∧ s₁ = { s with heap := s.heap.push { cls := .type "list", data := .seq #[] } }) PySem.F.called_list (PySem.F.typeCall_list_1 _) PySem.F.entry_list_init
    (code_list_new _ ⟨rfl, rfl⟩) fun obj s₁ h₁ => ?_
  obtain ⟨rfl, rfl⟩ := h₁
  have hS : (s.heap.push { cls := .type "list", data := .seq #[] }).get? s.heap.objs.size = some { cls := .type "list", data := .seq #[] } := Heap.get?_push_size _ rfl
  have hr : r < s.heap.objs.size := (by obtain ⟨_, ho, _⟩ := hv; exact Heap.lt_size ho)
  have hd : d < s.heap.objs.size := (by obtain ⟨_, e, _⟩ := hm; exact Heap.lt_size e)
  refine ⟨⟨_, hS, rfl⟩, PySem.F.args_list_init_2 _ _, ?_⟩
  generalize hS0 : s.heap.objs.size = S at *
  have hk0 : ∀ b o, s.heap.get? b = some o → b ≠ S ∧ (s.heap.push { cls := .type "list", data := .seq #[] }).get? b = some o := fun b o e => ⟨by rw [← hS0]; exact Nat.ne_of_lt (Heap.lt_size e), Heap.get?_push_of_some _ e⟩
  show wpAny _ _ (do let old ← Builtin.List.listItems (.ref S); Builtin.List.listUpdate (.ref S) (fun _ => #[]); letGo old.toList.reverse; Builtin.List.listExtendWith (.ref S) (.ref r) .none) _ _ _
  refine wpAny_bind ?_
  unfold Builtin.List.listItems
  refine wpAny_bind (wpAny_seqItems hS rfl (wpAny_pure ?_))
  show wpAny _ _ (updateSeq S (fun _ => #[]) >>= fun _ => letGo (#[] : Array Value).toList.reverse >>= fun _ => Builtin.List.listExtendWith (.ref S) (.ref r) .none) _ _ _
  refine wpAny_bind (wpAny_updateSeq hS rfl ?_)
  have hS₂ := Heap.get?_update_self (Obj.mapSeq (fun _ => (#[] : Array Value))) hS rfl
  have oth : ∀ b o, s.heap.get? b = some o → ((s.heap.push { cls := .type "list", data := .seq #[] }).update S (Obj.mapSeq (fun _ => (#[] : Array Value)))).get? b = some o :=
    fun b o e => (Heap.get?_update_other _ _ (Ne.symm (hk0 b o e).1)).trans (hk0 b o e).2
  refine wpAny_bind (wpAny_letGo ?_)
  refine raw_extend (ep := ep) (A := A.in1) hh ((by obtain ⟨o, ho, x⟩ := hv; exact ⟨o, oth r o ho, x⟩)) (hm.at fun o e => oth d o e) S (Nat.ne_of_gt hr) (Nat.ne_of_lt hd) .none _ hS₂ (fun h' tk acc c as hk hS' hl hG hacc => ?_) hn
  exact ⟨rfl, hQ S h' tk acc c as (fun b o e => hk b o (hk0 b o e).1 (oth b o e)) hS' hl (fun j a hj => (hG j a hj).2.2) hacc⟩
end
end Mine
end

section
set_option maxHeartbeats 1000000
namespace Mine
open PySem PySem.W PyProof.Rows PySem.Calls

/- a key, whatever bears it -/
noncomputable def KeyG (h : Heap) (v : Value) (k : CK) : Prop := ∃ T o n t1 t2 t3, v = .ref T ∧ h.get? T = some o ∧ o.cls = .type "tuple" ∧ o.data = .seq #[.str "page" t1, .int k.1 t2, .str k.2 t3] n
theorem KeyT.g {h : Heap} {v : Value} {k : CK} (x : KeyT h v k) : KeyG h v k := (by obtain ⟨T, n, t1, t2, t3, e, ht⟩ := x; exact ⟨T, _, n, t1, t2, t3, e, ht, rfl, rfl⟩)
theorem KeyG.stay {h h' : Heap} (k : Stay h h') {v : Value} {q : CK} (x : KeyG h v q) : KeyG h' v q := (by obtain ⟨T, o, n, t1, t2, t3, e, ht, hc, hd⟩ := x; exact ⟨T, o, n, t1, t2, t3, e, k _ _ ht (not_tab (by rw [hc]; nofun)), hc, hd⟩)
theorem KeyG.soft {h h' : Heap} {a : Addr} (I : SoftA h a) (k : But a h h') {v : Value} {q : CK} (x : KeyG h v q) : KeyG h' v q := by
  refine hid fun Gx hGx => ?_
  obtain ⟨o, ho, hp, i3⟩ := I
  obtain ⟨T, o', n, t1, t2, t3, e, ht, hc, hd⟩ := x
  refine hGx ?_
  clear hGx Gx
  exact ⟨T, o', n, t1, t2, t3, e, k _ _ (fun q => by rw [q, ho] at ht; cases ht; exact i3 _ _ hd hc) ht, hc, hd⟩
theorem KeyG.reads {h : Heap} {v : Value} {q : CK} (x : KeyG h v q) : Reads h v (dKey q) [] := by
  refine hid fun Gx hGx => ?_
  obtain ⟨T, o, n, t1, t2, t3, rfl, ht, hc, hd⟩ := x
  refine hGx ?_
  clear hGx Gx
  exact .tuple ht hc hd (.cons (.str _ _) (.cons (.int _ _) (.cons (.str _ _) .nil)))
theorem KeyG.of_is {prog : Program} {w : World} {h : Heap} {k : CK} {a : Addr} (x : (tupleKind (mixKind prog w)).is h (ck k) a) : KeyG h (.ref a) k := by
  refine hid fun Gx hGx => ?_
  obtain ⟨o, its, n, e, hc, hd, hi⟩ := x
  obtain ⟨k1, k2⟩ := k
  obtain ⟨l⟩ := its
  refine hGx ?_
  clear hGx Gx
  cases hi with
  | cons a1 hi => cases hi with
    | cons a2 hi => cases hi with
      | cons a3 hi =>
        cases hi
        refine hid fun Gx hGx => ?_
        obtain ⟨t1, rfl⟩ := Value.isStrOf_shape (show Value.isStrOf _ _ = true from a1)
        obtain ⟨t3, rfl⟩ := Value.isStrOf_shape (show Value.isStrOf _ _ = true from a3)
        refine hGx ?_
        clear hGx Gx
        rename_i v2
        have a2' : Value.isInt k1 v2 = true := a2
        cases v2 with
        | int n2 t2 =>
          have : n2 = k1 := by simpa [Value.isInt] using a2'
          subst this
          exact ⟨a, o, n, t1, t2, t3, rfl, e, hc, hd⟩
        | _ => cases a2'
/- a pair of a key and a number -/
noncomputable def PairT (h : Heap) (v : Value) (p : CK × Int) : Prop := ∃ T n kv t, v = .ref T ∧ h.get? T = some { cls := .type "tuple", data := .seq #[kv, .int p.2 t] n } ∧ KeyG h kv p.1
theorem PairT.stay {h h' : Heap} (k : Stay h h') {v : Value} {q : CK × Int} (x : PairT h v q) : PairT h' v q := (by obtain ⟨T, n, kv, t, e, ht, g⟩ := x; exact ⟨T, n, kv, t, e, k _ _ ht (not_tab nofun), g.stay k⟩)
theorem PairT.soft {h h' : Heap} {a : Addr} (I : SoftA h a) (k : But a h h') {v : Value} {q : CK × Int} (x : PairT h v q) : PairT h' v q := by
  refine hid fun Gx hGx => ?_
  obtain ⟨T, n, kv, t, e, ht, g⟩ := x
  refine hGx ?_
  clear hGx Gx
  have g' := g.soft I k
  refine hid fun Gx hGx => ?_
  obtain ⟨o, ho, hp, i3⟩ := I
  refine hGx ?_
  clear hGx Gx
  exact ⟨T, n, kv, t, e, k _ _ (fun q => by rw [q, ho] at ht; cases ht; exact i3 _ _ rfl rfl) ht, g'⟩
noncomputable def dPair (p : CK × Int) : PyData := .tuple [dKey p.1, .int p.2]
theorem PairT.reads {h : Heap} {v : Value} {q : CK × Int} (x : PairT h v q) : Reads h v (dPair q) [] := by
  refine hid fun Gx hGx => ?_
  obtain ⟨T, n, kv, t, rfl, ht, g⟩ := x
  refine hGx ?_
  clear hGx Gx
  exact .tuple ht rfl rfl (.cons g.reads (.cons (.int _ _) .nil))
theorem fok_pair (f : Nat → CK × Int) : FOk fun i h y => PairT h y (f i) := ⟨fun _ _ _ _ k x => x.stay k, fun _ _ _ _ _ I _ k x => x.soft I k⟩
inductive PairsAre (h : Heap) : List Value → List (CK × Int) → Prop
  | nil : PairsAre h [] []
  | cons {v vs k ks} : PairT h v k → PairsAre h vs ks → PairsAre h (v :: vs) (k :: ks)
theorem PairsAre.stay {h h' : Heap} (k : Stay h h') {vs : List Value} {ks : List (CK × Int)} (x : PairsAre h vs ks) : PairsAre h' vs ks := by
  induction x with
  | nil => exact .nil
  | cons y _ ih => exact .cons (y.stay k) ih
theorem PairsAre.reads {h : Heap} {vs : List Value} {ks : List (CK × Int)} (x : PairsAre h vs ks) : ReadsAll h vs (ks.map dPair) [] := by
  induction x with
  | nil => exact .nil
  | cons a _ ih => exact .cons a.reads ih
theorem PairsAre.of_get {h : Heap} : ∀ {vs : List Value} {ks : List (CK × Int)}, vs.length = ks.length → (∀ (i : Nat) v k, vs[i]? = some v → ks[i]? = some k → PairT h v k) → PairsAre h vs ks
  | [], [], _, _ => .nil
  | [], _ :: _, e, _ => by cases e
  | _ :: _, [], e, _ => by cases e
  | v :: vs, k :: ks, e, H => .cons (H 0 v k rfl rfl) (.of_get (Nat.succ.inj e) fun i v k a b => H (i + 1) v k (by simpa using a) (by simpa using b))
theorem FL.pairs {f : Nat → CK × Int} {h : Heap} {is : List Nat} {ys : List Value} (x : FL (fun i h y => PairT h y (f i)) h is ys) : PairsAre h ys (is.map f) := by
  induction x with
  | nil => exact .nil
  | cons a _ ih => exact .cons a ih
theorem plist_reads {h : Heap} {l : Addr} {vs : List Value} {ks : List (CK × Int)} (p : h.PlainList l vs.toArray) (x : PairsAre h vs ks) : Reads h (.ref l) (.list (ks.map dPair)) [l] := by
  obtain ⟨n, e⟩ := p
  exact .list e rfl rfl x.reads
noncomputable def OkK (k : CK) : Prop := PyData.strOk k.2 = true
theorem dep_str (n : Nat) (i : Str) (hi : PyData.strOk i = true) : Dep n (.str i) := ⟨by rw [PyData.canLay0]; exact hi, by rw [PyData.depth]; exact Nat.zero_le _⟩
theorem Dep.mono {n m : Nat} {d : PyData} (h : Dep n d) (k : n ≤ m) : Dep m d := ⟨h.1, Nat.le_trans h.2 k⟩
theorem dep_key {k : CK} (hk : OkK k) : Dep 1 (dKey k) := dep_tuple fun d hd => by
  simp only [List.mem_cons, List.not_mem_nil, or_false] at hd
  rcases hd with rfl | rfl | rfl
  · exact dep_str _ _ (by decide +kernel)
  · exact dep_int _ _
  · exact dep_str _ _ hk
theorem dep_pair {p : CK × Int} (hk : OkK p.1) : Dep 2 (dPair p) := dep_tuple fun d hd => by
  simp only [List.mem_cons, List.not_mem_nil, or_false] at hd
  rcases hd with rfl | rfl
  · exact dep_key hk
  · exact dep_int _ _
theorem dep_pairs {ks : List (CK × Int)} (hk : ∀ x ∈ ks, OkK x.1) : Dep 3 (.list (ks.map dPair)) := dep_list fun d hd => by obtain ⟨x, hx, rfl⟩ := List.mem_map.mp hd; exact dep_pair (hk x hx)

theorem eqv_key (a b : CK) : PyData.eqv (dKey a) (dKey b) = decide (a = b) := by
  refine hid fun Gx hGx => ?_
  obtain ⟨a1, a2⟩ := a
  obtain ⟨b1, b2⟩ := b
  refine hGx ?_
  clear hGx Gx
  simp only [dKey, PyData.eqv, PyData.eqvAll, Prod.mk.injEq, beq_self_eq_true, Bool.true_and, Bool.and_true]
  rw [Bool.eq_iff_iff]
  simp only [Bool.and_eq_true, beq_iff_eq, decide_eq_true_eq]

open Classical in
noncomputable def isKey (h : Heap) (k : CK) (v : Value) : Bool := decide (KeyT h v k)
theorem KeyT.uniq {h : Heap} {v : Value} {a b : CK} (x : KeyT h v a) (y : KeyT h v b) : a = b := by
  refine hid fun Gx hGx => ?_
  obtain ⟨T, n, t1, t2, t3, rfl, ht⟩ := x
  obtain ⟨T', n', t1', t2', t3', e, ht'⟩ := y
  refine hGx ?_
  clear hGx Gx
  cases e
  rw [ht] at ht'
  refine hid fun Gx hGx => ?_
  obtain ⟨a1, a2⟩ := a
  obtain ⟨b1, b2⟩ := b
  refine hGx ?_
  clear hGx Gx
  simp only [Option.some.injEq, Obj.mk.injEq, Data.seq.injEq, Array.mk.injEq, List.cons.injEq, Value.str.injEq, Value.int.injEq, true_and, and_true] at ht'
  rw [ht'.1.2.1.1, ht'.1.2.2.1]
theorem isKey_eq {h : Heap} {v : Value} {a : CK} (x : KeyT h v a) (k : CK) : isKey h k v = decide (a = k) := by
  unfold isKey
  by_cases q : a = k
  · subst q; simp [x]
  · have : ¬ KeyT h v k := fun y => q (x.uniq y)
    simp [this, q]
theorem isKey_any {h : Heap} {vs : List Value} {ks : List CK} (x : KeysAre h vs ks) (k : CK) : vs.any (isKey h k) = decide (k ∈ ks) := by
  induction x with
  | nil => simp
  | cons a _ ih =>
    rename_i k' ks
    rw [List.any_cons, ih, isKey_eq a, Bool.eq_iff_iff]
    simp only [Bool.or_eq_true, decide_eq_true_eq, List.mem_cons]
    exact ⟨fun q => q.elim (fun q => .inl q.symm) .inr, fun q => q.elim (fun q => .inl q.symm) .inr⟩
noncomputable def cntK (k : CK) (ks : List CK) : Nat := ks.countP fun q => decide (q = k)
theorem isKey_count {h : Heap} {vs : List Value} {ks : List CK} (x : KeysAre h vs ks) (k : CK) : vs.countP (isKey h k) = cntK k ks := by
  unfold cntK
  induction x with
  | nil => rfl
  | cons a _ ih => rw [List.countP_cons, List.countP_cons, ih, isKey_eq a]
theorem KeysAre.get {h : Heap} {vs : List Value} {ks : List CK} (x : KeysAre h vs ks) : ∀ {i : Nat}, i < ks.length → ∃ v, vs[i]? = some v ∧ KeyT h v (ks.getD i (0, "")) := by
  induction x with
  | nil => intro i hi; cases hi
  | cons a _ ih =>
    intro i hi
    cases i with
    | zero => exact ⟨_, rfl, a⟩
    | succ i =>
      obtain ⟨v, e, k⟩ := ih (i := i) (Nat.lt_of_succ_lt_succ hi)
      exact ⟨v, by simpa using e, by simpa using k⟩
theorem KeysAre.mem {h : Heap} {vs : List Value} {ks : List CK} (x : KeysAre h vs ks) : ∀ y ∈ vs, ∃ k ∈ ks, KeyT h y k := by
  induction x with
  | nil => nofun
  | cons a _ ih =>
    intro y hy
    rcases List.mem_cons.mp hy with rfl | hy
    · exact ⟨_, .head _, a⟩
    · obtain ⟨k, hk, q⟩ := ih y hy
      exact ⟨k, .tail _ hk, q⟩
theorem KeysAre.take {h : Heap} {vs : List Value} {ks : List CK} (x : KeysAre h vs ks) (n : Nat) : KeysAre h (vs.take n) (ks.take n) := by
  induction x generalizing n with
  | nil => simp only [List.take_nil]; exact .nil
  | cons a _ ih =>
    cases n with
    | zero => exact .nil
    | succ n => exact .cons a (ih n)

noncomputable def firstK (ks : List CK) (i : Nat) : Bool := !decide (ks.getD i (0, "") ∈ ks.take i)
noncomputable def pairsOf (ks : List CK) : List (CK × Int) := ((List.range ks.length).filter (firstK ks)).map fun i => (ks.getD i (0, ""), (cntK (ks.getD i (0, "")) ks : Int))

section
variable {prog : Program} {w : World} {A : Around} {s : Shared}
theorem eq_key {h : Heap} {v x : Value} {a k : CK} (hu : A.units + 64 < cLine) (hs : s.heap = h) (y : KeyT h v a) (q : KeyT h x k) (oa : OkK a) (ok : OkK k) : SeqAt.EqAt A.in1 s v x (isKey h k v) := by
  subst hs
  rw [isKey_eq y, ← eqv_key]
  refine SeqAt.eqAt_reads _ _ _ _ _ _ _ _ y.reads q.reads (dep_key oa).1 (dep_key ok).1 ?_
  have h1 := (dep_key oa).2
  have h2 : min (dKey a).depth (dKey k).depth ≤ (dKey a).depth := Nat.min_le_left _ _
  show A.units + 1 + _ < cLine
  lia
theorem count_keys {E : Value → Shared → Prop} {l : Addr} {vs : List Value} {ks : List CK} {x : Value} {k : CK} {Q : Value → Shared → Prop} (hu : A.units + 64 < cLine) (hl : s.heap.PlainList l vs.toArray) (hk : KeysAre s.heap vs ks) (hx : KeyT s.heap x k) (oks : ∀ q ∈ ks, OkK q) (ok : OkK k)
    (h : ∀ tk, Q (.int (cntK k ks : Int) s.toks) { s with toks := tk }) : wpAny (model prog w) A (call (.builtin "list.count") [.ref l, x]) Q E s := by
  obtain ⟨n, ho⟩ := hl
  refine call_meets PySem.F.slot_list_count ⟨_, ho, rfl⟩ PySem.F.entry_list_count (PySem.F.args_list_count_2 _ _) (SeqAt.list_countAt l vs.toArray n none #[] x (isKey s.heap k)) ⟨ho, fun y hy => ?_, ?_⟩
  · obtain ⟨a, hm, ha⟩ := hk.mem y (by simpa using hy)
    exact eq_key hu rfl ha hx (oks a hm) ok
  · rw [show vs.toArray.toList = vs from rfl, isKey_count hk]
    exact h _
end
end Mine
end

section
set_option maxHeartbeats 1000000
namespace Mine
open PySem PySem.W PyProof.Rows PySem.Calls

section
variable {prog : Program} {w : World} {A : Around} {s : Shared} {R : Result → Shared → Prop} {mg mb : Str → Option Value}

/- ledger[4] -/
theorem ev_led {E : Value → Shared → Prop} {env : Env} {m : Str → Option Value} {v : Value} {d : Addr} {q : Sm} {p1 p2 p3 : Pos} {kd : Nat} {Q : Value → Shared → Prop}
    (hn : s.heap.Ns env.locals m) (hx : m "ledger" = some v) (X : LedS prog w s.heap v d q) (h : ∀ tk, Q (.ref d) { s with toks := tk })
    (h1 : env.scope.kind = .function := by rfl) (h2 : env.kindOf "ledger" = some .local := by rfl) (h4 : ∀ o j, subscripted (.Constant (.int 4) kd p2) false o j = operate [o, j] (getItem o j) := by intro o j; with_unfolding_all rfl) :
    wpAny (model prog w) A (eval (.Subscript (.Name "ledger" p1) (.Constant (.int 4) kd p2) p3) env) Q E s := by
  refine hid fun Gx hGx => ?_
  obtain ⟨t, n, u1, u2, u3, u4, rfl, ht, cd⟩ := X
  refine hGx ?_
  clear hGx Gx
  have hT : IsTup s.heap t #[.int q.a u1, .int q.b u2, .int q.c u3, .int q.e u4, .ref d] := ⟨_, ht, rfl, n, rfl⟩
  exact Subscript_ (ldL hn hx (wpAny_Constant_int (tail_any hT.typeIs slot_tuple_getitem.lookup (getItem_tuple (j := 4) hT (by lia) (by lia) (by rfl) (by rfl) (h _)) (h4 _ _))) h1 h2)

/- keys[p] -/
theorem ev_key {E : Value → Shared → Prop} {env : Env} {m : Str → Option Value} {c lk : Addr} {vs : List Value} {ks : List CK} {i : Nat} {t : Tok} {p1 p2 p3 : Pos} {Q : Value → Shared → Prop}
    (hc : s.heap.IsCell c (some (.ref lk))) (hn : s.heap.Ns env.locals m) (hx : m "p" = some (.int i t)) (hp : s.heap.PlainList lk vs.toArray) (hk : KeysAre s.heap vs ks) (hi : i < ks.length) (hb : ks.length ≤ 60)
    (h : ∀ v, KeyT s.heap v (ks.getD i (0, "")) → Q v s)
    (hcl : env.cells.lookup ("keys" : Str) = some c := by rfl) (h1 : env.scope.kind = .function := by rfl) (h2 : env.kindOf "keys" = some .cell := by rfl) (h3 : env.kindOf "p" = some .local := by rfl)
    (h4 : ∀ o j, subscripted (.Name "p" p2) false o j = operate [o, j] (getItem o j) := by intro o j; with_unfolding_all rfl) :
    wpAny (model prog w) A (eval (.Subscript (.Name "keys" p1) (.Name "p" p2) p3) env) Q E s := by
  obtain ⟨v, hv, kt⟩ := hk.get hi
  exact Subscript_ (ldC hc (ldL hn hx (tail_any hp.isList.typeIs slot_list_getitem.lookup (wpAny_getItem_list (x := v) hp.isList (by lia) (by lia) (by simpa using hv) (h v kt)) (h4 _ _)) h1 h3) hcl h1 h2)

theorem law_h {L fa r2 lt lk d : Addr} {cd v : Value} {h₀ h : Heap} {v2 : List Value} {ts : List (List Int)} {ks : List CK} {q : Sm} {m : Str → Option Value} {k1 k2 k3 : Option Value} {g : Array GenState} {dr : Drawn} {tk : Nat} {os : OsState} {E : Value → Shared → Prop} {Q : Flow → Shared → Prop}
    (S : Stat w mg mb h₀) (hh : A.handled = none) (hu : A.units + 64 < cLine) (hroom : A.depth < recursionLimit) (hl : ts.length ≤ 60) (hkl : ks.length ≤ 60) (oks : ∀ k ∈ ks, OkK k) (hkv : q.kvs = pairsOf ks) (hsum : sumI (q.kvs.map (·.2)) = (ts.length : Int))
    (X : LS h₀ L m k1 k2 k3 (some (.ref lk)) (fun h => ((h.IsList r2 v2.toArray ∧ LT h lt ts) ∧ LedS prog w h v d q) ∧ KL h lk ks) h) (ml : m "ledger" = some v) (mt : m "told" = some (.ref lt))
    (done : ∀ h' tk', Ev h₀ h' → Q (.ret (.bool true)) ⟨h', g, dr, tk', os⟩) :
    wpAny (model prog w) A (execs (dLaw.body.drop 12) (envLw L fa cd)) Q E ⟨h, g, dr, tk, os⟩ := by
  have S₀ := S.stay X.F.ev.keep
  refine hid fun Gx hGx => ?_
  obtain ⟨_, _, _, _, _, _, _, _, cdd₀⟩ := X.dat.1.2
  obtain ⟨hd, es, ep, hm, hsz, hes⟩ := cdd₀.raw
  refine hGx ?_
  clear hGx Gx
  have hpl : (pairsOf ks).length ≤ 60 := by
    unfold pairsOf
    rw [List.length_map]
    exact Nat.le_trans (List.length_filter_le _ _) (by simpa using hkl)
  refine letQ ?_
  intro Qx Ex
  refine wpAny_execs_cons <| wpAny_If <| wpAny_isTrue_Compare1 <| Call_ <| ldB S₀.g (g_list S₀) S₀.b (b_list S₀) <| PyProof.Rows.callWith_type1 <| wpAny_items_cons <| MethodCall_ <| ev_led X.F.ns ml X.dat.1.2 fun tk₁ => ?_
  refine getMethod_builtin (v := .ref d) (s := ⟨h, g, dr, tk₁, os⟩) hm.typeIs PySem.F.plainAttrs_dict PySem.F.slot_dict_items PySem.F.type_dict_items (fun a q => by cases q; obtain ⟨o, e, c, _⟩ := hm; exact ⟨o, e, c.2.1⟩) (callWith_method0 (raw_items hd hm ?_))
  have kp : ∀ b o, h.get? b = some o → (h.push { cls := .type "dict_items", data := .fields #[.ref d] }).get? b = some o := fun b o e => Heap.get?_push_of_some _ e
  refine wpAny_items_nil <| raw_list hh (r := h.objs.size) (d := d) ⟨_, Heap.get?_push_size _ rfl, rfl, rfl⟩ (hm.at fun o e => kp _ _ e) (by rw [hsz, hkv]; lia) fun D h₁ tk₂ acc c as k₁ hD hal hG hacc => ?_
  dsimp only at k₁ hD hG ⊢
  have X₁ := X.keeps fun b o e => k₁ b o (kp b o e)
  have S₁ := S.stay X₁.F.ev.keep
  have hst : Stay h h₁ := fun b o e _ => k₁ b o (kp b o e)
  have P₁ : PairsAre h₁ acc.toList (pairsOf ks) := by
    refine .of_get (by rw [hacc, List.length_map, hal, hsz, hkv]) fun i v k hv hk => ?_
    rw [hacc, List.getElem?_map] at hv
    refine hid fun Gx hGx => ?_
    obtain ⟨a, ha, rfl⟩ := Option.map_eq_some_iff.mp hv
    obtain ⟨e, he, ht⟩ := hG i a ha
    obtain ⟨k', n, a', t, hk', hek, hev, his⟩ := hes i e he
    refine hGx ?_
    clear hGx Gx
    rw [hkv, hk] at hk'; cases hk'
    rw [hek, hev] at ht
    exact ⟨a, _, _, t, rfl, ht, (KeyG.of_is his).stay hst⟩
  clear hG hacc hal k₁
  obtain ⟨acc⟩ := acc
  have hpD : h₁.PlainList D acc.toArray := ⟨c, hD⟩
  clear hD
  obtain ⟨ws, hp, hk⟩ := X₁.dat.2.ex
  have hwl : ws.length = ks.length := hk.length
  refine eval_comp (cl := [(("keys" : Str), L + 4)]) rfl (by decide +kernel) rfl (by decide +kernel) ?_
  refine Call_ <| ldB S₁.g (g_range S₁) S₁.b (b_range S₁) <| PyProof.Rows.callWith_type1 <| wpAny_items_cons <| Call_ <| ldB S₁.g (g_len S₁) S₁.b (b_len S₁) <| PyProof.Rows.callWith_builtin1 <| wpAny_items_cons <| ldC X₁.c4 (hcl := by rfl) <| wpAny_items_nil <| call_len_list hp.isList (by rw [List.size_toArray, hwl]; lia) ?_
  rw [show (ws.toArray.size : Int) = (ks.length : Int) by rw [List.size_toArray, hwl]]
  refine wpAny_items_nil <| call_range_1 ?_
  dsimp only
  generalize ho : ({ cls := .type "range", data := .fields _ } : Obj) = oR
  refine wpAny_pyIter_range (by rw [← ho]; exact IsRange.new ..) (range_up_small ks.length (by lia)) ?_
  rw [range_up]
  dsimp only
  clear ho
  have X₂ := X₁.step (.push oR)
  have hev₁ : Ev h₁ (h₁.push oR) := .push oR
  generalize h₁.push oR = h₂ at *
  refine ⟨_, _, ks.length, _, _, h₂, _, firstK ks, fun i h y => PairT h y (ks.getD i (0, ""), (cntK (ks.getD i (0, "")) ks : Int)), g, dr, os, _, _, rfl, rfl, range_at (x := "p") hh (by lia) (fun C => rfl) rfl (fok_pair _) ?_ ?_, ?_⟩
  · rintro i C m' h' tk' E' hi ⟨tp, hV⟩ hn hev
    have Y := X₂.step hev
    obtain ⟨ws, hp, hk⟩ := Y.dat.2.ex
    have hwl : ws.length = ks.length := hk.length
    refine wpAny_tests_one <| wpAny_isTrue_Compare1 <| ev_key Y.c4 hn hV hp hk hi hkl fun kv hkv => ?_
    refine wpAny_Subscript_list_slice <| ldC Y.c4 (hcl := by rfl) <| wpAny_evalPart_none <| wpAny_evalPart_some <| ldL hn hV ⟨lk, ws.toArray, none, some (i : Int), rfl, hp.isList, by rw [List.size_toArray, hwl, sizeLine_eq]; lia, .none, .int _ _, ?_⟩
    rw [slicePick_upto']
    dsimp only
    generalize ({ cls := .type "slice", data := .fields _ } : Obj) = oS
    have hl₁ : ((h'.push oS).push { cls := .type "list", data := .seq (List.take i ws).toArray }).IsList (h'.objs.size + 1) (List.take i ws).toArray := by
      rw [← Heap.size_push (h := h') (o := oS)]; exact ⟨_, Heap.get?_push_size _ rfl, rfl, _, rfl⟩
    have x₂ : Ev h' ((h'.push oS).push { cls := .type "list", data := .seq (List.take i ws).toArray }) := (Ev.push oS).trans (.push _)
    show wpAny _ _ (compareOp .NotIn kv (.ref (h'.objs.size + 1))) _ _ ⟨(h'.push oS).push { cls := .type "list", data := .seq (List.take i ws).toArray }, g, dr, _, os⟩
    generalize (h'.push oS).push { cls := .type "list", data := .seq (List.take i ws).toArray } = h₃ at *
    have hk₃ := (hk.take i).stay x₂.keep
    have hkv₃ := hkv.stay x₂.keep
    have hmem : ks.getD i (0, "") ∈ ks := by rw [List.getD_eq_getElem?_getD, List.getElem?_eq_getElem hi]; exact List.getElem_mem hi
    refine SeqAt.notIn_listAt (isKey h₃ (ks.getD i (0, ""))) hl₁ (fun y hy => ?_) (wpAny_truthy_bool ?_)
    · obtain ⟨a, ha, kt⟩ := hk₃.mem y (by simpa using hy)
      exact eq_key hu rfl kt hkv₃ (oks a (List.mem_of_mem_take ha)) (oks _ hmem)
    · refine ⟨?_, _, _, rfl, x₂⟩
      rw [List.any_toArray, isKey_any hk₃]; rfl
  · rintro i C m' h' tk' E' hi _ ⟨tp, hV⟩ hn hev
    have Y := X₂.step hev
    obtain ⟨ws, hp, hk⟩ := Y.dat.2.ex
    have hmem : ks.getD i (0, "") ∈ ks := by rw [List.getD_eq_getElem?_getD, List.getElem?_eq_getElem hi]; exact List.getElem_mem hi
    refine wpAny_Tuple <| wpAny_items_cons <| ev_key Y.c4 hn hV hp hk hi hkl fun kv hkv => ?_
    refine wpAny_items_cons <| MethodCall_ <| ldC Y.c4 (hcl := by rfl) <| getMethod_list_of PySem.F.slot_list_count PySem.F.type_list_count hp.isList ((by obtain ⟨n, e⟩ := hp; exact ⟨_, e, rfl⟩)) <| callWith_method1 <| wpAny_items_cons <| ev_key Y.c4 hn hV hp hk hi hkl fun kv' hkv' => wpAny_items_nil <| count_keys hu hp hk hkv' oks (oks _ hmem) fun tk₃ => ?_
    refine wpAny_items_nil ⟨szl, ?_⟩
    exact ⟨_, _, rfl, .push _, ⟨_, _, _, _, rfl, Heap.get?_push_size _ rfl, (hkv.stay (Ev.push _).keep).g⟩, fun a' q => by cases q; exact Heap.get?_none_of_le (Nat.le_refl _)⟩
  · intro Dl h₃ tk₃ ys₃ hD₃ hpl₃ hev₃ hfl₃
    have P₃ := hfl₃.pairs
    have xx := hev₁.trans hev₃
    have X₃ := X₁.step xx
    have hoks : ∀ x ∈ pairsOf ks, OkK x.1 := fun x hx => by
      obtain ⟨i, hi, rfl⟩ := List.mem_map.mp hx
      have hi' : i < ks.length := List.mem_range.mp (List.mem_filter.mp hi).1
      exact oks _ (by rw [List.getD_eq_getElem?_getD, List.getElem?_eq_getElem hi']; exact List.getElem_mem hi')
    refine SeqAt.compareNe_shaped (plist_reads (PlainList.stay xx.keep hpD) (P₁.stay xx.keep)) (plist_reads hpl₃ P₃) ((dep_pairs hoks).shaped (by decide)) ((dep_pairs hoks).shaped (by decide)) hu <| wpAny_truthy_bool ?_
    rw [show List.map (fun i => (ks.getD i (0, ""), (cntK (ks.getD i (0, "")) ks : Int))) (List.filter (firstK ks) (List.range ks.length)) = pairsOf ks from rfl, SeqAt.eqv_refl _ (dep_pairs hoks).1]
    simp only [Bool.not_true, Bool.false_eq_true, if_false]
    refine wpAny_execs_nil ?_
    have S₃ := S.stay X₃.F.ev.keep
    refine hid fun Gx hGx => ?_
    obtain ⟨pm, c', ct, hK, hC⟩ := K70 w.params
    refine hGx ?_
    clear hGx Gx
    refine letQ ?_
    intro Qx Ex
    refine wpAny_execs_cons <| wpAny_Return_some <| wpAny_Compare1 <| Call_ <| ldG S₃.g (g_cc S₃) <| callWith_def (o := fnObj (fnAny "count_calls" "count_calls" dCC.params (.stmts dCC.body) dCC.scope [] .none .none pm (.ref c') ct)) rfl <| wpAny_items_cons <| ev_led X₃.F.ns ml X₃.dat.1.2 fun tk₄ => wpAny_items_nil ⟨S₃.K _ _ hK, wpAny_call ?_⟩
    refine hid fun Gx hGx => ?_
    obtain ⟨_, _, _, _, _, _, _, _, cdd⟩ := X₃.dat.1.2
    refine hGx ?_
    clear hGx Gx
    refine cc_ct S₃ cdd hroom hh fun t₄ h₄ tk₅ x₄ => ?_
    dsimp only at x₄ ⊢
    have X₄ := X₃.step x₄
    have S₄ := S.stay X₄.F.ev.keep
    obtain ⟨wt, hpt, htt⟩ := X₄.dat.1.1.2.ex
    have hwt : wt.length = ts.length := htt.length
    refine Call_ <| ldB S₄.g (g_len S₄) S₄.b (b_len S₄) <| PyProof.Rows.callWith_builtin1 <| wpAny_items_cons <| ldL X₄.F.ns mt <| wpAny_items_nil <| call_len_list hpt.isList (by rw [List.size_toArray, hwt]; lia) ?_
    refine PySem.P.eq_int ?_
    rw [hsum, show (wt.toArray.size : Int) = (ts.length : Int) by rw [List.size_toArray, hwt]]
    rw [show ((ts.length : Int) == (ts.length : Int)) = true from beq_self_eq_true _]
    exact done _ _ X₄.F.ev
end
end Mine
end

section
set_option maxHeartbeats 1000000
namespace Mine
open PySem PySem.W PyProof.Rows PySem.Calls

/- the places of a scan -/
noncomputable def hs (y : List Nat) : Nat → List Nat → Nat → List Nat
  | _, [], _ => []
  | free, c :: t, pos => if free ≤ pos ∧ c ≠ 10 ∧ (c :: t).take y.length = y then pos :: hs y (pos + y.length) t (pos + 1) else hs y free t (pos + 1)
noncomputable def joinL : List (List Nat) → List Nat
  | [] => []
  | [x] => x
  | x :: y :: r => x ++ 10 :: joinL (y :: r)
/- the hits of the rows, the first row at place pos -/
noncomputable def allH (y : List Nat) : List (List Nat) → Nat → List Nat
  | [], _ => []
  | r :: rs, pos => hs y 0 r pos ++ allH y rs (pos + r.length + 1)

theorem hs_free (y : List Nat) : ∀ (t : List Nat) (free pos : Nat), free ≤ pos → hs y free t pos = hs y 0 t pos
  | [], _, _, _ => rfl
  | c :: t, free, pos, h => by
    unfold hs
    rw [hs_free y t free (pos + 1) (by lia)]
    simp only [h, Nat.zero_le, true_and]
theorem hs_shift (y : List Nat) (d : Nat) : ∀ (t : List Nat) (free pos : Nat), hs y (free + d) t (pos + d) = (hs y free t pos).map (· + d)
  | [], _, _ => rfl
  | c :: t, free, pos => by
    have e2 : pos + d + y.length = pos + y.length + d := by lia
    have e3 : pos + d + 1 = pos + 1 + d := by lia
    by_cases hc : free ≤ pos ∧ c ≠ 10 ∧ (c :: t).take y.length = y
    · rw [hs, hs, if_pos ⟨by lia, hc.2⟩, if_pos hc, e2, e3, hs_shift y d t (pos + y.length) (pos + 1), List.map_cons]
    · rw [hs, hs, if_neg (fun q => hc ⟨by lia, q.2⟩), if_neg hc, e3, hs_shift y d t free (pos + 1)]
theorem hs_at (y t : List Nat) (pos : Nat) : hs y 0 t pos = (hs y 0 t 0).map (· + pos) := by
  have := hs_shift y pos t 0 0
  rw [Nat.zero_add] at this
  rw [← this, hs_free y t pos pos (Nat.le_refl _)]
theorem hs_ge (y : List Nat) : ∀ (t : List Nat) (free pos : Nat), ∀ i ∈ hs y free t pos, pos ≤ i ∧ i < pos + t.length
  | [], _, _, i, h => nomatch h
  | c :: t, free, pos, i, h => by
    unfold hs at h
    rw [List.length_cons]
    split at h
    · rcases List.mem_cons.mp h with rfl | h
      · lia
      · have := hs_ge y t _ _ i h; lia
    · have := hs_ge y t _ _ i h; lia
theorem hs_asc (y : List Nat) : ∀ (t : List Nat) (free pos : Nat), (hs y free t pos).Pairwise (· < ·)
  | [], _, _ => .nil
  | c :: t, free, pos => by
    unfold hs
    split
    · refine .cons (fun i hi => ?_) (hs_asc y t _ _)
      have := hs_ge y t _ _ i hi; lia
    · exact hs_asc y t _ _
theorem hs_len (y : List Nat) : ∀ (t : List Nat) (free pos : Nat), (hs y free t pos).length ≤ t.length
  | [], _, _ => Nat.le_refl _
  | c :: t, free, pos => by
    unfold hs
    split
    · rw [List.length_cons, List.length_cons]; exact Nat.succ_le_succ (hs_len y t _ _)
    · rw [List.length_cons]; exact Nat.le_succ_of_le (hs_len y t _ _)

theorem take_row {y : List Nat} (hy : 10 ∉ y) (s t : List Nat) : (s ++ 10 :: t).take y.length = y ↔ s.take y.length = y := by
  by_cases h : y.length ≤ s.length
  · rw [List.take_append_of_le_length h]
  · constructor
    · intro e
      refine absurd ?_ hy
      rw [← e, List.take_append, List.mem_append]
      right
      have : y.length - s.length = (y.length - s.length - 1) + 1 := by lia
      rw [this, List.take_succ_cons]
      exact .head _
    · intro e
      have := congrArg List.length e
      rw [List.length_take] at this
      lia
theorem hs_row {y : List Nat} (hy : 10 ∉ y) (t : List Nat) : ∀ (r : List Nat) (free pos : Nat), 10 ∉ r → free ≤ pos + r.length → hs y free (r ++ 10 :: t) pos = hs y free r pos ++ hs y 0 t (pos + r.length + 1)
  | [], free, pos, _, h => by
    show hs y free (10 :: t) pos = hs y 0 t (pos + 1)
    have h' : free ≤ pos := h
    rw [hs, if_neg (fun q => q.2.1 rfl)]
    exact hs_free y t free (pos + 1) (by lia)
  | c :: r, free, pos, hr, h => by
    have hr' : 10 ∉ r := fun q => hr (.tail _ q)
    show hs y free (c :: (r ++ 10 :: t)) pos = _
    rw [List.length_cons] at h ⊢
    have ih := fun f hf => hs_row hy t r f (pos + 1) hr' hf
    have e1 : (List.take y.length (c :: (r ++ 10 :: t)) = y) ↔ (List.take y.length (c :: r) = y) := take_row hy (c :: r) t
    have e2 : pos + 1 + r.length + 1 = pos + (r.length + 1) + 1 := by lia
    by_cases hc : free ≤ pos ∧ c ≠ 10 ∧ (c :: r).take y.length = y
    · have hl := congrArg List.length hc.2.2
      rw [List.length_take, List.length_cons] at hl
      rw [hs, hs, if_pos ⟨hc.1, hc.2.1, e1.mpr hc.2.2⟩, if_pos hc, ih (pos + y.length) (by lia), List.cons_append, e2]
    · rw [hs, hs, if_neg (fun q => hc ⟨q.1, q.2.1, e1.mp q.2.2⟩), if_neg hc, ih free (by lia), e2]
theorem hs_join {y : List Nat} (hy : 10 ∉ y) : ∀ (rs : List (List Nat)) (pos : Nat), (∀ r ∈ rs, 10 ∉ r) → hs y 0 (joinL rs) pos = allH y rs pos
  | [], _, _ => rfl
  | [r], pos, _ => by simp [joinL, allH]
  | r :: s :: rs, pos, h => by
    rw [joinL, hs_row hy _ r 0 pos (h r (.head _)) (Nat.zero_le _), allH, hs_join hy (s :: rs) _ fun q hq => h q (.tail _ hq)]

/- how many rows lie ahead of a place -/
theorem count_ahead : ∀ (rs : List (List Nat)) (k h : Nat) (r : List Nat), rs[k]? = some r → (∀ r ∈ rs, 10 ∉ r) → h ≤ r.length →
    ((joinL rs).take (((rs.take k).map fun r => r.length + 1).sum + h)).count 10 = k
  | [], k, h, r, hk, _, _ => by cases hk
  | [s], k, h, r, hk, hn, hh => by
    cases k with
    | zero =>
      have e : s = r := by simpa using hk
      subst e
      rw [joinL, List.count_eq_zero]
      exact fun q => hn s (.head _) (List.mem_of_mem_take q)
    | succ k => cases k <;> cases hk
  | s :: s' :: rs, k, h, r, hk, hn, hh => by
    have hs0 : s.count 10 = 0 := List.count_eq_zero.mpr (hn s (.head _))
    cases k with
    | zero =>
      have e : s = r := by simpa using hk
      subst e
      rw [joinL, List.count_eq_zero]
      simp only [List.take_zero, List.map_nil, List.sum_nil, Nat.zero_add]
      rw [List.take_append_of_le_length hh]
      exact fun q => hn s (.head _) (List.mem_of_mem_take q)
    | succ k =>
      have ih := count_ahead (s' :: rs) k h r (by simpa using hk) (fun q hq => hn q (.tail _ hq)) hh
      rw [joinL, List.take_succ_cons, List.map_cons, List.sum_cons]
      have e : s.length + 1 + (List.map (fun r => r.length + 1) (List.take k (s' :: rs))).sum + h = s.length + ((List.map (fun r => r.length + 1) (List.take k (s' :: rs))).sum + h + 1) := by lia
      rw [e, List.take_length_add_append, List.take_succ_cons, List.count_append, List.count_cons, ih, hs0]
      simp
theorem joinL_len : ∀ (rs : List (List Nat)), ((rs.map List.length).sum) ≤ (joinL rs).length ∧ rs.length ≤ (joinL rs).length + 1
  | [] => ⟨Nat.le_refl _, Nat.zero_le _⟩
  | [x] => ⟨by simp [joinL], by simp⟩
  | x :: y :: r => by
    have := joinL_len (y :: r)
    rw [joinL, List.map_cons, List.sum_cons, List.length_append, List.length_cons, List.length_cons (as := y :: r)]
    lia
theorem joinL_place : ∀ (rs : List (List Nat)) (k : Nat) (r : List Nat), rs[k]? = some r → ((rs.take k).map fun r => r.length + 1).sum + r.length ≤ (joinL rs).length
  | [], k, r, hk => by cases hk
  | [s], k, r, hk => by
    cases k with
    | zero => have e : s = r := by simpa using hk
              subst e; simp [joinL]
    | succ k => cases k <;> cases hk
  | s :: s' :: rs, k, r, hk => by
    cases k with
    | zero => have e : s = r := by simpa using hk
              subst e; simp [joinL]
    | succ k =>
      have ih := joinL_place (s' :: rs) k r (by simpa using hk)
      rw [joinL, List.take_succ_cons, List.map_cons, List.sum_cons, List.length_append, List.length_cons]
      lia
end Mine
end

section
set_option maxHeartbeats 1000000
namespace Mine
open PySem PySem.W PyProof.Rows PySem.Calls

noncomputable def AtL (r w : List Nat) (i : Nat) : Prop := i + w.length ≤ r.length ∧ (r.drop i).take w.length = w
noncomputable def Chain (r w : List Nat) : Nat → List Nat → Prop
  | j, [] => ∀ i, j ≤ i → i < r.length → ¬ AtL r w i
  | j, h :: H => j ≤ h ∧ h < r.length ∧ AtL r w h ∧ (∀ i, j ≤ i → i < h → ¬ AtL r w i) ∧ Chain r w (h + max 1 w.length) H

theorem chain_ext {r w : List Nat} {j : Nat} (hj : ¬ AtL r w j) : ∀ {H : List Nat}, Chain r w (j + 1) H → Chain r w j H
  | [], h => fun i h1 h2 => by
    rcases Nat.eq_or_lt_of_le h1 with rfl | h1
    · exact hj
    · exact h i h1 h2
  | a :: H, h => by
    refine hid fun Gx hGx => ?_
    obtain ⟨h1, h2, h3, h4, h5⟩ := h
    refine hGx ?_
    clear hGx Gx
    refine ⟨by lia, h2, h3, fun i q1 q2 => ?_, h5⟩
    rcases Nat.eq_or_lt_of_le q1 with rfl | q1
    · exact hj
    · exact h4 i q1 q2
theorem chain_hs {r w : List Nat} (hr : 10 ∉ r) : ∀ (t : List Nat) (free pos : Nat), t = r.drop pos → Chain r w (max free pos) (hs w free t pos)
  | [], free, pos, e => by
    have : r.length ≤ pos := List.drop_eq_nil_iff.mp e.symm
    intro i h1 h2
    lia
  | c :: t, free, pos, e => by
    have hp : pos < r.length := by
      rcases Nat.lt_or_ge pos r.length with q | q
      · exact q
      · rw [List.drop_of_length_le q] at e; cases e
    have et : t = r.drop (pos + 1) := by rw [← List.drop_drop, ← e]; rfl
    have hc : c ≠ 10 := fun q => hr (List.mem_of_mem_drop (i := pos) (by rw [← e, q]; exact .head _))
    have hA : AtL r w pos ↔ (c :: t).take w.length = w := by
      unfold AtL
      rw [← e]
      refine ⟨fun q => q.2, fun q => ⟨?_, q⟩⟩
      have := congrArg List.length q
      have l2 := congrArg List.length e
      rw [List.length_take] at this
      rw [List.length_drop] at l2
      lia
    by_cases hh : free ≤ pos ∧ c ≠ 10 ∧ (c :: t).take w.length = w
    · rw [hs, if_pos hh]
      have e1 : max free pos = pos := by lia
      rw [e1]
      refine ⟨Nat.le_refl _, hp, hA.mpr hh.2.2, fun i h1 h2 => by lia, ?_⟩
      have ih := chain_hs (w := w) hr t (pos + w.length) (pos + 1) et
      have e2 : max (pos + w.length) (pos + 1) = pos + max 1 w.length := by lia
      rw [e2] at ih
      exact ih
    · rw [hs, if_neg hh]
      have ih := chain_hs (w := w) hr t free (pos + 1) et
      by_cases hf : free ≤ pos
      · have e1 : max free pos = pos := by lia
        have e2 : max free (pos + 1) = pos + 1 := by lia
        rw [e2] at ih
        rw [e1]
        exact chain_ext (fun q => hh ⟨hf, hc, hA.mp q⟩) ih
      · have e1 : max free pos = max free (pos + 1) := by lia
        rw [e1]; exact ih
theorem chain_row {r : List Nat} (w : List Nat) (hr : 10 ∉ r) : Chain r w 0 (hs w 0 r 0) := chain_hs hr r 0 0 rfl

theorem at_iff (x y : Str) (i : Nat) : StrLaws.At x y x.length i ↔ AtL x.cps.toList y.cps.toList i := by
  unfold StrLaws.At AtL
  rw [StrLaws.subAt_eq, beq_iff_eq]
  exact Iff.rfl
theorem fnd_cons {x y : Str} {j h : Nat} {H : List Nat} (c : Chain x.cps.toList y.cps.toList j (h :: H)) : fnd x y j = some h := by
  refine hid fun Gx hGx => ?_
  obtain ⟨h1, h2, h3, h4, _⟩ := c
  refine hGx ?_
  clear hGx Gx
  rcases fnd_spec x y j with ⟨_, q⟩ | ⟨i, e, q1, q2, q3⟩
  · exact absurd ((at_iff x y h).mpr h3) (q h h1)
  · rw [e]
    rcases Nat.lt_trichotomy i h with q | q | q
    · exact absurd ((at_iff x y i).mp q2) (h4 i q1 q)
    · rw [q]
    · exact absurd ((at_iff x y h).mpr h3) (q3 h h1 q)
theorem fnd_nil {x y : Str} {j : Nat} (c : Chain x.cps.toList y.cps.toList j []) : ∀ i, fnd x y j = some i → x.length ≤ i := by
  intro i e
  rcases fnd_spec x y j with ⟨q, _⟩ | ⟨i', e', q1, q2, q3⟩
  · rw [q] at e; cases e
  · rw [e'] at e; cases e
    rcases Nat.lt_or_ge i x.length with q | q
    · exact absurd ((at_iff x y i).mp q2) (c i q1 q)
    · exact q

theorem srGo_eq {x y : Str} {col : Nat} (hcol : col ≤ x.length) : ∀ (A B : List Nat) (k j i : Nat) (f : Option Nat), Chain x.cps.toList y.cps.toList j (A ++ B) → (∀ a ∈ A, a + max 1 y.length ≤ col) → (∀ b ∈ B, col < b + max 1 y.length) →
    fnd x y j = some i → x.length < i + k → srGo x y col k i f = A.getLast?.or f
  | [], B, k, j, i, f, c, hA, hB, hi, hk => by
    have key : ¬ (i < col ∧ i + y.length ≤ col) := by
      cases B with
      | nil =>
        have := fnd_nil c i hi
        lia
      | cons b B =>
        have := fnd_cons c
        rw [this] at hi
        have q := hB b (.head _)
        have e := Option.some.inj hi
        lia
    cases k with
    | zero => rfl
    | succ k => rw [srGo, if_neg key]; rfl
  | a :: A, B, k, j, i, f, c, hA, hB, hi, hk => by
    have := fnd_cons c
    rw [this] at hi; cases hi
    have ha := hA a (.head _)
    have hax : a < x.length := c.2.1
    cases k with
    | zero => lia
    | succ k =>
      have c' : Chain x.cps.toList y.cps.toList (a + max 1 y.length) (A ++ B) := c.2.2.2.2
      have e1 : (if y.length = 0 then a + 1 else a + y.length) = a + max 1 y.length := by split <;> lia
      rw [srGo, if_pos ⟨by lia, by lia⟩, e1]
      cases hf : fnd x y (a + max 1 y.length) with
      | none =>
        cases A with
        | nil => rfl
        | cons b A => rw [fnd_cons c'] at hf; cases hf
      | some i' =>
        have hb := (fnd_bounds hf).1
        show srGo x y col k i' (some a) = _
        rw [srGo_eq hcol A B k _ i' (some a) c' (fun q hq => hA q (.tail _ hq)) hB hf (by lia)]
        cases A with
        | nil => rfl
        | cons b A =>
          rw [List.getLast?_cons_cons]
          cases h : (b :: A).getLast? with
          | none => simp at h
          | some z => rfl
theorem sr_eq {x y : Str} {col : Nat} (hcol : col ≤ x.length) (A B : List Nat) (c : Chain x.cps.toList y.cps.toList 0 (A ++ B)) (hA : ∀ a ∈ A, a + max 1 y.length ≤ col) (hB : ∀ b ∈ B, col < b + max 1 y.length) : sr x y col = A.getLast? := by
  unfold sr
  cases hf : fnd x y 0 with
  | none =>
    cases A with
    | nil => rfl
    | cons a A => rw [fnd_cons c] at hf; cases hf
  | some i =>
    show srGo x y col (x.length + 1) i none = _
    rw [srGo_eq hcol A B (x.length + 1) 0 i none c hA hB hf (by lia), Option.or_none]

theorem chain_asc {r w : List Nat} : ∀ {H : List Nat} {j : Nat}, Chain r w j H → (∀ h ∈ H, j ≤ h) ∧ H.Pairwise (fun a b => a + max 1 w.length ≤ b) ∧ ∀ h ∈ H, h + max 1 w.length ≤ r.length
  | [], _, _ => ⟨nofun, .nil, nofun⟩
  | a :: H, j, c => by
    refine hid fun Gx hGx => ?_
    obtain ⟨h1, h2, h3, _, h5⟩ := c
    obtain ⟨i1, i2, i3⟩ := chain_asc h5
    refine hGx ?_
    clear hGx Gx
    have hb : a + max 1 w.length ≤ r.length := by have := h3.1; lia
    refine ⟨fun h hh => ?_, .cons i1 i2, fun h hh => ?_⟩
    · rcases List.mem_cons.mp hh with rfl | hh
      · exact h1
      · have := i1 h hh; lia
    · rcases List.mem_cons.mp hh with rfl | hh
      · exact hb
      · exact i3 h hh

noncomputable def hitOf (line number : Int) (y : Str) (h : Nat) : List Int := [line, (h : Int), (y.length : Int), number]
theorem wRow_eq {x y : Str} (line number : Int) : ∀ (k : Nat) (A B : List Nat) (col : Nat) (acc : List (List Int)), Chain x.cps.toList y.cps.toList 0 (A ++ B) → col ≤ x.length → (∀ a ∈ A, a + max 1 y.length ≤ col) → (∀ b ∈ B, col < b + max 1 y.length) → A.length ≤ k →
    wRow x y line number k (sr x y col) acc = acc ++ A.reverse.map (hitOf line number y)
  | 0, A, B, col, acc, c, hcol, hA, hB, hk => by
    have : A = [] := List.eq_nil_of_length_eq_zero (by lia)
    subst this
    simp [wRow]
  | k + 1, A, B, col, acc, c, hcol, hA, hB, hk => by
    rw [sr_eq hcol A B c hA hB]
    rcases List.eq_nil_or_concat A with rfl | ⟨A', i, rfl⟩
    · simp [wRow]
    · have hi := hA i (by simp)
      have hp := (chain_asc c).2.1
      have e : (A'.concat i).getLast? = some i := by simp
      rw [e]
      show wRow x y line number k (sr x y (max i (i + y.length - 1))) (acc ++ [hitOf line number y i]) = _
      have e2 : max i (i + y.length - 1) = i + max 1 y.length - 1 := by lia
      have c' : Chain x.cps.toList y.cps.toList 0 (A' ++ (i :: B)) := by simpa using c
      rw [e2, wRow_eq line number k A' (i :: B) (i + max 1 y.length - 1) _ c' (by lia) ?_ ?_ (by simp at hk; lia)]
      · simp
      · intro a ha
        have hp' : (A' ++ (i :: B)).Pairwise (fun a b => a + max 1 y.cps.toList.length ≤ b) := by simpa using hp
        have := (List.pairwise_append.mp hp').2.2 a ha i (.head _)
        have e3 : y.cps.toList.length = y.length := rfl
        lia
      · intro b hb
        rcases List.mem_cons.mp hb with rfl | hb
        · lia
        · have hp' : (A' ++ (i :: B)).Pairwise (fun a b => a + max 1 y.cps.toList.length ≤ b) := by simpa using hp
          have := List.rel_of_pairwise_cons (List.pairwise_append.mp hp').2.1 hb
          have e3 : y.cps.toList.length = y.length := rfl
          lia
/- one row -/
theorem wLine_eq {x y : Str} (line number : Int) (acc : List (List Int)) (hx : 10 ∉ x.cps.toList) (hk : acc.length + x.length ≤ 20) :
    wLine x y line number acc = acc ++ (hs y.cps.toList 0 x.cps.toList 0).reverse.map (hitOf line number y) := by
  have c := chain_row y.cps.toList hx
  have hl := hs_len y.cps.toList x.cps.toList 0 0
  unfold wLine
  refine wRow_eq line number _ (hs y.cps.toList 0 x.cps.toList 0) [] x.length acc (by rw [List.append_nil]; exact c) (Nat.le_refl _) (fun a ha => (chain_asc c).2.2 a ha) nofun ?_
  have e : x.cps.toList.length = x.length := rfl
  lia
end Mine
end

section
set_option maxHeartbeats 1000000
namespace Mine
open PySem PySem.W PyProof.Rows PySem.Calls

/-! the scan of the page -/
theorem scTo_eq {page word : Str} (num : Int) : ∀ (n k free : Nat) (acc : List (List Int)), k + n = page.length →
    ((List.range' k n).foldl (scStep page word num) (free, acc)).2 = acc ++ (hs word.cps.toList free (page.cps.toList.drop k) k).map fun i : Nat => [-(i : Int), (word.length : Int), num]
  | 0, k, free, acc, h => by
    have e : page.cps.toList.drop k = [] := List.drop_of_length_le (show page.length ≤ k by lia)
    rw [e]
    show acc = acc ++ []
    rw [List.append_nil]
  | n + 1, k, free, acc, h => by
    have hk : k < page.cps.toList.length := show k < page.length by lia
    rw [List.range'_succ, List.foldl_cons, List.drop_eq_getElem_cons hk]
    have e1 : scHit page word free k = true ↔ (free ≤ k ∧ page.cps.toList[k] ≠ 10 ∧ (page.cps.toList[k] :: page.cps.toList.drop (k + 1)).take word.cps.toList.length = word.cps.toList) := by
      unfold scHit slEq
      rw [← List.drop_eq_getElem_cons hk, List.getD_eq_getElem?_getD, List.getElem?_eq_getElem hk]
      simp only [Option.getD_some, Bool.and_eq_true, decide_eq_true_eq, bne_iff_ne, beq_iff_eq, and_assoc]
      exact Iff.rfl
    by_cases hc : scHit page word free k = true
    · rw [hs, if_pos (e1.mp hc)]
      have e2 : scStep page word num (free, acc) k = (k + word.length, acc ++ [[-(k : Int), (word.length : Int), num]]) := by unfold scStep; exact if_pos hc
      rw [e2, scTo_eq num n (k + 1) _ _ (by lia), List.map_cons, List.append_assoc]
      rfl
    · rw [hs, if_neg fun q => hc (e1.mpr q)]
      have e2 : scStep page word num (free, acc) k = (free, acc) := by unfold scStep; exact if_neg hc
      rw [e2, scTo_eq num n (k + 1) _ _ (by lia)]
noncomputable def scP (page word : Str) (num : Int) : List (List Int) := (hs word.cps.toList 0 page.cps.toList 0).map fun i : Nat => [-(i : Int), (word.length : Int), num]
theorem scW_succ (page : Str) (words : List Str) (k : Nat) : scW page words (k + 1) = scW page words k ++ scP page (words.getD k "") k := by
  show ((List.range page.length).foldl (scStep page (words.getD k "") k) (0, scW page words k)).2 = _
  rw [List.range_eq_range', scTo_eq (k : Int) page.length 0 0 _ (Nat.zero_add _)]
  rfl

/-! the walk -/
/- the hits of the rows from line k on, the last row first -/
noncomputable def wkP (rows : List Str) (y : Str) (num : Int) : Nat → List (List Int)
  | 0 => []
  | i + 1 => wkP rows y num i ++ (hs y.cps.toList 0 (rows.getD (rows.length - 1 - i) "").cps.toList 0).reverse.map (hitOf ((rows.length - 1 - i : Nat) : Int) num y)
theorem wTo_eq {rows : List Str} {y : Str} (num : Int) (hr : ∀ r ∈ rows, 10 ∉ r.cps.toList) (hb : (rows.map (·.length)).sum ≤ 20) : ∀ i, i ≤ rows.length → wTo rows y num i = wkP rows y num i ∧ (wTo rows y num i).length ≤ ((rows.drop (rows.length - i)).map (·.length)).sum
  | 0, _ => ⟨rfl, Nat.zero_le _⟩
  | i + 1, hi => by
    obtain ⟨h1, h2⟩ := wTo_eq (y := y) num hr hb i (by lia)
    have hlt : rows.length - 1 - i < rows.length := by lia
    have e1 : rows.getD (rows.length - 1 - i) "" = rows[rows.length - 1 - i] := by rw [List.getD_eq_getElem?_getD, List.getElem?_eq_getElem hlt]; rfl
    have hmem : rows.getD (rows.length - 1 - i) "" ∈ rows := by rw [e1]; exact List.getElem_mem hlt
    have e2 : rows.drop (rows.length - (i + 1)) = rows.getD (rows.length - 1 - i) "" :: rows.drop (rows.length - i) := by
      have e3 : rows.length - (i + 1) = rows.length - 1 - i := by lia
      have e4 : rows.length - i = rows.length - 1 - i + 1 := by lia
      rw [e3, e4, e1, ← List.drop_eq_getElem_cons hlt]
    have hs2 : ((rows.drop (rows.length - (i + 1))).map (·.length)).sum ≤ 20 := by
      have : rows = rows.take (rows.length - (i + 1)) ++ rows.drop (rows.length - (i + 1)) := (List.take_append_drop _ _).symm
      have := congrArg (fun l => (l.map Str.length).sum) this
      simp only [List.map_append, List.sum_append] at this
      lia
    rw [e2, List.map_cons, List.sum_cons] at hs2 ⊢
    have e5 : wTo rows y num (i + 1) = wkP rows y num (i + 1) := by
      show wLine _ y _ num (wTo rows y num i) = _
      rw [wLine_eq _ num _ (hr _ hmem) (by lia), h1]
      rfl
    refine ⟨e5, ?_⟩
    rw [e5]
    show (wkP rows y num i ++ _).length ≤ _
    rw [List.length_append, List.length_map, List.length_reverse, ← h1]
    have := hs_len y.cps.toList (rows.getD (rows.length - 1 - i) "").cps.toList 0 0
    have e6 : (rows.getD (rows.length - 1 - i) "").cps.toList.length = (rows.getD (rows.length - 1 - i) "").length := rfl
    lia

/- a place's triple -/
noncomputable def trp (num : Int) (y : Str) (p : Nat) : List Int := [(p : Int), (y.length : Int), num]
noncomputable def offN (rs : List (List Nat)) (k : Nat) : Nat := ((rs.take k).map fun r => r.length + 1).sum
theorem off_eq (rows : List Str) (k : Nat) : off rows k = (offN (rows.map fun r => r.cps.toList) k : Nat) := by
  unfold off offN
  rw [← List.map_take, List.map_map]
  induction rows.take k with
  | nil => rfl
  | cons r rs ih => rw [List.map_cons, List.sum_cons, ih, List.map_cons, List.sum_cons]; show (r.length : Int) + 1 + _ = ((r.length + 1 + _ : Nat) : Int); push_cast; rfl
theorem place_hit (rows : List Str) (y : Str) (num : Int) (line h : Nat) : place rows (hitOf (line : Int) num y h) = trp num y (h + offN (rows.map fun r => r.cps.toList) line) := by
  show [(h : Int) + off rows ((line : Int)).toNat, (y.length : Int), num] = _
  rw [Int.toNat_natCast, off_eq]
  rfl

theorem allH_snoc (y : List Nat) : ∀ (rs : List (List Nat)) (pos : Nat), allH y rs pos = (List.range rs.length).flatMap fun k => (hs y 0 (rs.getD k []) 0).map (· + (pos + offN rs k))
  | [], _ => rfl
  | r :: rs, pos => by
    rw [allH, List.length_cons, List.range_succ_eq_map, List.flatMap_cons, allH_snoc y rs, List.flatMap_map, hs_at y r pos]
    congr 1
    congr 1
    funext k
    have e : pos + r.length + 1 + offN rs k = pos + offN (r :: rs) (k + 1) := by
      unfold offN
      rw [List.take_succ_cons, List.map_cons, List.sum_cons]
      lia
    rw [e]
    rfl
end Mine
end

section
set_option maxHeartbeats 1000000
namespace Mine
open PySem PySem.W PyProof.Rows PySem.Calls

theorem flat_rev {α : Type} (g : Nat → List α) (N : Nat) : ∀ n, n ≤ N → (List.range n).flatMap (fun i => g (N - 1 - i)) = ((List.range' (N - n) n).flatMap fun k => (g k).reverse).reverse
  | 0, _ => rfl
  | n + 1, h => by
    have e1 : N - (n + 1) + 1 = N - n := by lia
    have e2 : N - 1 - n = N - (n + 1) := by lia
    rw [List.range_succ, List.flatMap_append, flat_rev g N n (by lia), List.range'_succ, List.flatMap_cons, List.flatMap_cons, List.reverse_append, List.reverse_reverse, e1, List.flatMap_nil, List.append_nil, e2]
noncomputable def wkB (rows : List Str) (y : Str) (num : Int) (k : Nat) : List (List Int) := (hs y.cps.toList 0 (rows.getD k "").cps.toList 0).reverse.map (hitOf (k : Int) num y)
theorem wkP_flat (rows : List Str) (y : Str) (num : Int) : ∀ n, wkP rows y num n = (List.range n).flatMap fun i => wkB rows y num (rows.length - 1 - i)
  | 0 => rfl
  | n + 1 => by
    rw [wkP, wkP_flat rows y num n, List.range_succ, List.flatMap_append, List.flatMap_cons, List.flatMap_nil, List.append_nil]
    rfl
noncomputable abbrev cpsOf (rows : List Str) : List (List Nat) := rows.map fun r => r.cps.toList
theorem getD_cps (rows : List Str) (k : Nat) : (cpsOf rows).getD k [] = (rows.getD k "").cps.toList := by
  rw [List.getD_eq_getElem?_getD, List.getD_eq_getElem?_getD, List.getElem?_map]
  cases rows[k]? <;> rfl
/- the walk's places are the hits, the last one first -/
theorem wk_place (rows : List Str) (y : Str) (num : Int) : (wkP rows y num rows.length).map (place rows) = (allH y.cps.toList (cpsOf rows) 0).reverse.map (trp num y) := by
  rw [wkP_flat, flat_rev (wkB rows y num) rows.length rows.length (Nat.le_refl _), Nat.sub_self, ← List.range_eq_range', List.map_reverse, List.map_reverse, allH_snoc, List.length_map, List.map_flatMap, List.map_flatMap]
  congr 1
  congr 1
  funext k
  rw [getD_cps]
  unfold wkB
  simp only [List.map_map, List.map_reverse, List.reverse_reverse]
  congr 1
  funext h
  rw [Function.comp, Function.comp, place_hit, Nat.zero_add]

theorem join_cps : ∀ rows : List Str, (Str.join ⟨#[10]⟩ rows).cps.toList = joinL (cpsOf rows)
  | [] => rfl
  | [x] => rfl
  | x :: y :: r => by
    have ih := join_cps (y :: r)
    show (x ++ (⟨#[10]⟩ : Str) ++ Str.join ⟨#[10]⟩ (y :: r)).cps.toList = x.cps.toList ++ 10 :: joinL (cpsOf (y :: r))
    rw [Str.cps_append, Str.cps_append, Array.toList_append, Array.toList_append, ih, List.append_assoc]
    rfl
theorem nl_eq : Str.ofString "\n" = ⟨#[10]⟩ := by decide +kernel
theorem rows_page (zs : List Int) : (pageOf zs).cps.toList = joinL (cpsOf (rowsOf zs)) := by
  rw [← join_cps]
  unfold rowsOf
  rw [nl_eq, StrLaws.join_split]
theorem rows_free (zs : List Int) : ∀ r ∈ rowsOf zs, 10 ∉ r.cps.toList := by
  unfold rowsOf
  rw [nl_eq]
  exact StrLaws.split_free _ 10
theorem cps_free (zs : List Int) : ∀ r ∈ cpsOf (rowsOf zs), 10 ∉ r := by
  intro r hr
  obtain ⟨s, hs, rfl⟩ := List.mem_map.mp hr
  exact rows_free zs s hs
theorem page_hits (zs : List Int) {y : Str} (hy : 10 ∉ y.cps.toList) : hs y.cps.toList 0 (pageOf zs).cps.toList 0 = allH y.cps.toList (cpsOf (rowsOf zs)) 0 := by
  rw [rows_page]
  exact hs_join hy _ 0 (cps_free zs)

/-! order -/
noncomputable def ep (t : List Int) : Int := enc (neg3 t)
theorem ep_trp (num : Int) (y : Str) (p : Nat) : ep (trp num y p) = -(p : Int) * 1000000 + (y.length : Int) * 1000 + num := rfl
theorem uniq {α : Type} (f : α → Int) : ∀ {l1 l2 : List α}, l1.Perm l2 → l1.Pairwise (fun a b => f a < f b) → l2.Pairwise (fun a b => f a < f b) → l1 = l2
  | [], l2, p, _, _ => by rw [List.nil_perm.mp p]
  | a :: l1, [], p, _, _ => by have := p.length_eq; simp at this
  | a :: l1, b :: l2, p, h1, h2 => by
    have hab : a = b := by
      by_cases q : a = b
      · exact q
      · have m1 : a ∈ l2 := (List.mem_cons.mp (p.mem_iff.mp (.head _))).resolve_left q
        have m2 : b ∈ l1 := (List.mem_cons.mp (p.mem_iff.mpr (.head _))).resolve_left (Ne.symm q)
        have := List.rel_of_pairwise_cons h1 m2
        have := List.rel_of_pairwise_cons h2 m1
        lia
    subst hab
    rw [uniq f (List.Perm.cons_inv p) (List.Pairwise.of_cons h1) (List.Pairwise.of_cons h2)]
theorem mrg_perm : ∀ (xs ys : List (List Int)), (mrg xs ys).Perm (xs ++ ys)
  | [], ys => by rw [mrg_nil]; exact .refl _
  | x :: xs, [] => by rw [mrg_one, List.append_nil]
  | x :: xs, y :: ys => by
    rw [mrg_cons]
    split
    · exact .cons _ (mrg_perm xs (y :: ys))
    · exact ((mrg_perm (x :: xs) ys).cons y).trans List.perm_middle.symm
termination_by xs ys => xs.length + ys.length
theorem mrg_sorted (f : List Int → Int) : ∀ (xs ys : List (List Int)), xs.Pairwise (fun a b => f a < f b) → ys.Pairwise (fun a b => f a < f b) → (∀ x ∈ xs, ∀ y ∈ ys, (cmpS x y selL ≤ 0 → f x < f y) ∧ (¬ cmpS x y selL ≤ 0 → f y < f x)) → (mrg xs ys).Pairwise (fun a b => f a < f b)
  | [], ys, _, h2, _ => by rw [mrg_nil]; exact h2
  | x :: xs, [], h1, _, _ => by rw [mrg_one]; exact h1
  | x :: xs, y :: ys, h1, h2, h => by
    have hxy := h x (.head _) y (.head _)
    rw [mrg_cons]
    split
    · rename_i hc
      refine .cons (fun z hz => ?_) (mrg_sorted f xs (y :: ys) (List.Pairwise.of_cons h1) h2 fun a ha b hb => h a (.tail _ ha) b hb)
      rcases mrg_mem _ _ _ hz with hz | hz
      · exact List.rel_of_pairwise_cons h1 hz
      · have := hxy.1 hc
        rcases List.mem_cons.mp hz with rfl | hz
        · exact this
        · exact Int.lt_trans this (List.rel_of_pairwise_cons h2 hz)
    · rename_i hc
      refine .cons (fun z hz => ?_) (mrg_sorted f (x :: xs) ys h1 (List.Pairwise.of_cons h2) fun a ha b hb => h a ha b (.tail _ hb))
      rcases mrg_mem _ _ _ hz with hz | hz
      · have := hxy.2 hc
        rcases List.mem_cons.mp hz with rfl | hz
        · exact this
        · exact Int.lt_trans this (List.rel_of_pairwise_cons h1 hz)
      · exact List.rel_of_pairwise_cons h2 hz
termination_by xs ys => xs.length + ys.length

theorem cmp_eq (l h s n l' h' s' n' : Int) : cmpS [l, h, s, n] [l', h', s', n'] selL = if l < l' then 1 else if l > l' then -1 else if h < h' then 1 else if h > h' then -1 else if s < s' then -1 else if s > s' then 1 else 0 := rfl
theorem cmp_ord {l h s n l' h' s' n' p p' : Int} (hlt : l < l' → p < p') (hgt : l' < l → p' < p) (heq : l = l' → p - h = p' - h') (b1 : 0 ≤ s) (b2 : s ≤ 2) (b3 : 0 ≤ s') (b4 : s' ≤ 2) (b5 : 0 ≤ n) (b6 : n < n') (b7 : n' < 3) :
    (cmpS [l, h, s, n] [l', h', s', n'] selL ≤ 0 → -p * 1000000 + s * 1000 + n < -p' * 1000000 + s' * 1000 + n') ∧ (¬ cmpS [l, h, s, n] [l', h', s', n'] selL ≤ 0 → -p' * 1000000 + s' * 1000 + n' < -p * 1000000 + s * 1000 + n) := by
  rw [cmp_eq]
  rcases Int.lt_trichotomy l l' with q | q | q
  · have := hlt q
    rw [if_pos q]
    constructor <;> intro <;> lia
  · have := heq q
    rw [if_neg (by lia), if_neg (by lia)]
    rcases Int.lt_trichotomy h h' with r | r | r
    · rw [if_pos r]
      constructor <;> intro <;> lia
    · rw [if_neg (by lia), if_neg (by lia)]
      rcases Int.lt_trichotomy s s' with t | t | t
      · rw [if_pos t]
        constructor <;> intro <;> lia
      · rw [if_neg (by lia), if_neg (by lia)]
        constructor <;> intro <;> lia
      · rw [if_neg (by lia), if_pos t]
        constructor <;> intro <;> lia
    · rw [if_neg (by lia), if_pos r]
      constructor <;> intro <;> lia
  · have := hgt q
    rw [if_neg (by lia), if_pos q]
    constructor <;> intro <;> lia
end Mine
end

section
set_option maxHeartbeats 1000000
namespace Mine
open PySem PySem.W PyProof.Rows PySem.Calls

/-! the page, the rows, the words -/
theorem page_len (zs : List Int) : (pageOf zs).length ≤ 13 := by
  have h0 : (Str.ofString "").length = 0 := by decide +kernel
  have h5 : (Str.ofString "aab\na").length = 5 := by decide +kernel
  have hsum : (((zs.take 8).map sgn).map (·.length)).sum = (zs.take 8).length := by
    rw [List.map_map]
    have : ((fun x : Str => x.length) ∘ sgn) = fun _ => 1 := by funext x; rfl
    rw [this]; exact sum_ones _
  have h8 : (zs.take 8).length ≤ 8 := List.length_take_le 8 zs
  have hj := StrLaws.join_length_le (Str.ofString "") ((zs.take 8).map sgn)
  rw [hsum, h0, Nat.mul_zero] at hj
  have e3 : Txt.join (Str.ofString "") ((zs.take 8).map sgn) = Str.join (Str.ofString "") ((zs.take 8).map sgn) := StrLaws.glued_eq_join _ _
  unfold pageOf
  rw [Str.length_append, h5, e3]
  lia
theorem sum_mem {l : List Nat} {a : Nat} (h : a ∈ l) : a ≤ l.sum := by
  induction l with
  | nil => cases h
  | cons b l ih =>
    rw [List.sum_cons]
    rcases List.mem_cons.mp h with rfl | h
    · exact Nat.le_add_right _ _
    · exact Nat.le_trans (ih h) (Nat.le_add_left _ _)
theorem rows_sum (zs : List Int) : ((rowsOf zs).map (·.length)).sum ≤ 13 := by
  have h1 := (joinL_len (cpsOf (rowsOf zs))).1
  rw [← rows_page, List.map_map] at h1
  exact Nat.le_trans h1 (page_len zs)
theorem rows_len (zs : List Int) : (rowsOf zs).length ≤ 14 := by
  have h1 := (joinL_len (cpsOf (rowsOf zs))).2
  rw [← rows_page, List.length_map] at h1
  exact Nat.le_trans h1 (Nat.succ_le_succ (page_len zs))
theorem row_len (zs : List Int) : ∀ r ∈ rowsOf zs, r.length ≤ 13 := fun r hr => Nat.le_trans (sum_mem (List.mem_map.mpr ⟨r, hr, rfl⟩)) (rows_sum zs)
noncomputable def WOk (y : Str) : Prop := y.length ≤ 2 ∧ 10 ∉ y.cps.toList ∧ PyData.strOk y = true
theorem wok_empty : WOk "" := ⟨by decide +kernel, by decide +kernel, by decide +kernel⟩
theorem wok_A : ∀ y ∈ wsA, WOk y := by unfold WOk wsA; decide +kernel
theorem wok_B : ∀ y ∈ wsB, WOk y := by unfold WOk wsB; decide +kernel
theorem wok_getD {l : List Str} (h : ∀ y ∈ l, WOk y) (i : Nat) : WOk (l.getD i "") := by
  rw [List.getD_eq_getElem?_getD]
  cases e : l[i]? with
  | none => exact wok_empty
  | some y => exact h y (List.mem_of_getElem? e)
theorem wok_words (zs : List Int) : ∀ y ∈ wordsOf zs, WOk y := by
  intro y hy
  unfold wordsOf at hy
  simp only [List.mem_cons, List.not_mem_nil, or_false] at hy
  rcases hy with rfl | rfl | rfl
  · exact wok_getD wok_A _
  · exact wok_getD wok_B _
  · exact wok_empty
noncomputable def wd (zs : List Int) (p : Nat) : Str := (wordsOf zs).getD p ""
theorem wok (zs : List Int) (p : Nat) : WOk (wd zs p) := wok_getD (wok_words zs) p

/-! the hits -/
noncomputable abbrev RS (zs : List Int) : List (List Nat) := cpsOf (rowsOf zs)
noncomputable def hitsOf (zs : List Int) (p : Nat) : List Nat := allH (wd zs p).cps.toList (RS zs) 0
theorem hits_asc (zs : List Int) (p : Nat) : (hitsOf zs p).Pairwise (· < ·) := by
  unfold hitsOf
  rw [← page_hits zs (wok zs p).2.1]
  exact hs_asc _ _ _ _
theorem walk_eq (zs : List Int) (p : Nat) : walkOf zs p = wkP (rowsOf zs) (wd zs p) p (rowsOf zs).length :=
  (wTo_eq (y := wd zs p) (p : Int) (rows_free zs) (Nat.le_trans (rows_sum zs) (by decide)) (rowsOf zs).length (Nat.le_refl _)).1
theorem walk_place (zs : List Int) (p : Nat) : (walkOf zs p).map (place (rowsOf zs)) = (hitsOf zs p).reverse.map (trp p (wd zs p)) := by
  rw [walk_eq]; exact wk_place _ _ _
theorem scan_eq (zs : List Int) (p : Nat) : (scP (pageOf zs) (wd zs p) p).map neg3 = (hitsOf zs p).map (trp p (wd zs p)) := by
  unfold scP hitsOf
  rw [page_hits zs (wok zs p).2.1, List.map_map]
  congr 1
  funext i
  show [-(-(i : Int)), _, _] = _
  rw [Int.neg_neg]; rfl
theorem scW3 (zs : List Int) : scW (pageOf zs) (wordsOf zs) 3 = scP (pageOf zs) (wd zs 0) (0 : Nat) ++ scP (pageOf zs) (wd zs 1) (1 : Nat) ++ scP (pageOf zs) (wd zs 2) (2 : Nat) := by
  rw [scW_succ, scW_succ, scW_succ]; rfl
theorem walk_sorted (zs : List Int) (p : Nat) : (walkOf zs p).Pairwise fun a b => ep (place (rowsOf zs) a) < ep (place (rowsOf zs) b) := by
  have h : ((walkOf zs p).map (place (rowsOf zs))).Pairwise fun a b => ep a < ep b := by
    rw [walk_place, List.pairwise_map, List.pairwise_reverse]
    refine (hits_asc zs p).imp fun {a b} h => ?_
    rw [ep_trp, ep_trp]
    lia
  rw [List.pairwise_map] at h
  exact h
theorem walk_hit (zs : List Int) (p : Nat) : ∀ x ∈ walkOf zs p, ∃ line h : Nat, line < (rowsOf zs).length ∧ h < ((rowsOf zs).getD line "").length ∧ x = hitOf (line : Int) p (wd zs p) h := by
  intro x hx
  rw [walk_eq, wkP_flat] at hx
  obtain ⟨i, hi, hx⟩ := List.mem_flatMap.mp hx
  have hi := List.mem_range.mp hi
  unfold wkB at hx
  obtain ⟨h, hh, rfl⟩ := List.mem_map.mp hx
  have := hs_ge _ _ _ _ h (List.mem_reverse.mp hh)
  exact ⟨_, h, by lia, by rw [Nat.zero_add] at this; exact this.2, rfl⟩

theorem offN_succ (R : List (List Nat)) (k : Nat) (hk : k < R.length) : offN R (k + 1) = offN R k + (R.getD k []).length + 1 := by
  unfold offN
  rw [List.take_add_one, List.getElem?_eq_getElem hk, List.map_append, List.sum_append, List.getD_eq_getElem?_getD, List.getElem?_eq_getElem hk]
  simp only [Option.toList_some, List.map_cons, List.map_nil, List.sum_cons, List.sum_nil, Option.getD_some]
  lia
theorem offN_mono (R : List (List Nat)) (k : Nat) : ∀ d, offN R k ≤ offN R (k + d)
  | 0 => Nat.le_refl _
  | d + 1 => by
    refine Nat.le_trans (offN_mono R k d) ?_
    by_cases h : k + d < R.length
    · rw [← Nat.add_assoc, offN_succ R _ h]; lia
    · unfold offN
      rw [List.take_of_length_le (by lia), List.take_of_length_le (by lia)]
      exact Nat.le_refl _
theorem off_lt (zs : List Int) {l l' h : Nat} (hl : l < (rowsOf zs).length) (hh : h < ((rowsOf zs).getD l "").length) (q : l < l') (h' : Nat) : h + offN (RS zs) l < h' + offN (RS zs) l' := by
  have h1 := offN_succ (RS zs) l (by rw [List.length_map]; exact hl)
  rw [getD_cps] at h1
  have h2 := offN_mono (RS zs) (l + 1) (l' - (l + 1))
  rw [show l + 1 + (l' - (l + 1)) = l' by lia] at h2
  have e : ((rowsOf zs).getD l "").cps.toList.length = ((rowsOf zs).getD l "").length := rfl
  lia
theorem walk_ord (zs : List Int) {p q : Nat} (hpq : p < q) (hq : q < 3) : ∀ x ∈ walkOf zs p, ∀ y ∈ walkOf zs q, (cmpS x y selL ≤ 0 → ep (place (rowsOf zs) x) < ep (place (rowsOf zs) y)) ∧ (¬ cmpS x y selL ≤ 0 → ep (place (rowsOf zs) y) < ep (place (rowsOf zs) x)) := by
  intro x hx y hy
  refine hid fun Gx hGx => ?_
  obtain ⟨l, h, hl, hh, rfl⟩ := walk_hit zs p x hx
  obtain ⟨l', h', hl', hh', rfl⟩ := walk_hit zs q y hy
  refine hGx ?_
  clear hGx Gx
  rw [place_hit, place_hit, ep_trp, ep_trp]
  have w1 := (wok zs p).1
  have w2 := (wok zs q).1
  refine cmp_ord (fun r => ?_) (fun r => ?_) (fun r => ?_) (Int.natCast_nonneg _) (by exact_mod_cast w1) (Int.natCast_nonneg _) (by exact_mod_cast w2) (Int.natCast_nonneg _) (by exact_mod_cast hpq) (by exact_mod_cast hq)
  · exact_mod_cast off_lt zs hl hh (by exact_mod_cast r) h'
  · exact_mod_cast off_lt zs hl' hh' (by exact_mod_cast r) h
  · have r' : l = l' := by exact_mod_cast r
    subst r'
    lia

/-! met -/
theorem met_sorted (zs : List Int) : (metOf zs).Pairwise fun a b => ep (place (rowsOf zs) a) < ep (place (rowsOf zs) b) := by
  refine mrg_sorted (fun x => ep (place (rowsOf zs) x)) _ _ (mrg_sorted (fun x => ep (place (rowsOf zs) x)) _ _ (walk_sorted zs 0) (walk_sorted zs 1) (walk_ord zs (by decide) (by decide))) (walk_sorted zs 2) fun x hx y hy => ?_
  rcases mrg_mem _ _ _ hx with hx | hx
  · exact walk_ord zs (show 0 < 2 by decide) (by decide) x hx y hy
  · exact walk_ord zs (show 1 < 2 by decide) (by decide) x hx y hy
theorem met_perm (zs : List Int) : ((metOf zs).map (place (rowsOf zs))).Perm ((scW (pageOf zs) (wordsOf zs) 3).map neg3) := by
  have h : (metOf zs).Perm (walkOf zs 0 ++ walkOf zs 1 ++ walkOf zs 2) := (mrg_perm _ _).trans ((mrg_perm _ _).append (.refl _))
  refine (h.map _).trans ?_
  rw [scW3, List.map_append, List.map_append, List.map_append, List.map_append, scan_eq, scan_eq, scan_eq, walk_place, walk_place, walk_place]
  exact (((List.reverse_perm _).map _).append ((List.reverse_perm _).map _)).append ((List.reverse_perm _).map _)
theorem ep_neg (x : List Int) : ep (neg3 x) = enc x := by
  show -(-(x.getD 0 0)) * 1000000 + x.getD 1 0 * 1000 + x.getD 2 0 = _
  rw [Int.neg_neg]; rfl
theorem met_told (zs : List Int) {ys : List (List Int)} (hp : ys.Perm (scW (pageOf zs) (wordsOf zs) 3)) (hs : (ys.map enc).Pairwise (· < ·)) : (metOf zs).map (place (rowsOf zs)) = ys.map neg3 := by
  refine uniq ep ((met_perm zs).trans (hp.map neg3).symm) (List.pairwise_map.mpr (met_sorted zs)) (List.pairwise_map.mpr ?_)
  refine (List.pairwise_map.mp hs).imp fun {a b} h => ?_
  rw [ep_neg, ep_neg]; exact h
theorem scan_nodup (zs : List Int) : ((scW (pageOf zs) (wordsOf zs) 3).map enc).Nodup := by
  have h1 : ((((metOf zs).map (place (rowsOf zs))).map ep)).Pairwise (· < ·) := List.pairwise_map.mpr (List.pairwise_map.mpr (met_sorted zs))
  have h2 : ((((metOf zs).map (place (rowsOf zs))).map ep)).Nodup := h1.imp fun h => Int.ne_of_lt h
  have h3 := ((met_perm zs).map ep).nodup_iff.mp h2
  rw [List.map_map] at h3
  rwa [show ep ∘ neg3 = enc from funext ep_neg] at h3
theorem scan_T3 (zs : List Int) : ∀ x ∈ scW (pageOf zs) (wordsOf zs) 3, T3 x := by
  have one : ∀ p : Nat, p < 3 → ∀ x ∈ scP (pageOf zs) (wd zs p) p, T3 x := by
    intro p hp x hx
    obtain ⟨i, _, rfl⟩ := List.mem_map.mp hx
    have := (wok zs p).1
    exact ⟨_, _, _, rfl, Int.natCast_nonneg _, by lia, Int.natCast_nonneg _, by lia⟩
  intro x hx
  rw [scW3] at hx
  rcases List.mem_append.mp hx with hx | hx
  · rcases List.mem_append.mp hx with hx | hx
    · exact one 0 (by decide) x hx
    · exact one 1 (by decide) x hx
  · exact one 2 (by decide) x hx
theorem hs_empty : ∀ (t : List Nat) (free pos : Nat), free ≤ pos → (hs [] free t pos).length = t.countP fun c => decide (c ≠ 10)
  | [], _, _, _ => rfl
  | c :: t, free, pos, h => by
    by_cases hc : c = 10
    · rw [hs, if_neg fun q => q.2.1 hc, hs_empty t free (pos + 1) (by lia), List.countP_cons_of_neg (by simp [hc])]
    · rw [hs, if_pos ⟨h, hc, rfl⟩, List.length_cons, hs_empty t _ (pos + 1) (by simp), List.countP_cons_of_pos (by simp [hc])]
theorem scan_two (zs : List Int) : 2 ≤ (scW (pageOf zs) (wordsOf zs) 3).length := by
  have h1 : 2 ≤ (hs (Str.ofString "").cps.toList 0 (pageOf zs).cps.toList 0).length := by
    rw [show (Str.ofString "").cps.toList = [] by decide +kernel, hs_empty _ 0 0 (Nat.le_refl _)]
    unfold pageOf
    rw [Str.cps_append, Array.toList_append, List.countP_append]
    have : List.countP (fun c => decide (c ≠ 10)) (Str.ofString "aab\na").cps.toList = 4 := by decide +kernel
    lia
  have e : scP (pageOf zs) (wd zs 2) (2 : Nat) = (hs (Str.ofString "").cps.toList 0 (pageOf zs).cps.toList 0).map fun i : Nat => [-(i : Int), ((Str.ofString "").length : Int), (2 : Nat)] := rfl
  rw [scW3, List.length_append, e, List.length_map]
  lia
theorem met_hit (zs : List Int) : ∀ x ∈ metOf zs, ∃ p line h : Nat, p < 3 ∧ line < (rowsOf zs).length ∧ h < ((rowsOf zs).getD line "").length ∧ x = hitOf (line : Int) p (wd zs p) h := by
  intro x hx
  rcases mrg_mem _ _ _ hx with hx | hx
  · rcases mrg_mem _ _ _ hx with hx | hx
    · obtain ⟨l, h, q⟩ := walk_hit zs 0 x hx; exact ⟨0, l, h, by decide, q⟩
    · obtain ⟨l, h, q⟩ := walk_hit zs 1 x hx; exact ⟨1, l, h, by decide, q⟩
  · obtain ⟨l, h, q⟩ := walk_hit zs 2 x hx; exact ⟨2, l, h, by decide, q⟩
theorem cnt_count (c : Nat) : ∀ l : List Nat, cnt c l = (l.count c : Nat)
  | [] => rfl
  | n :: r => by
    rw [cnt_cons, cnt_count c r, List.count_cons]
    by_cases h : n = c
    · simp only [h, if_true, beq_self_eq_true]; push_cast; lia
    · simp only [h, if_false, beq_iff_eq]; push_cast; lia
theorem met_key (zs : List Int) : ∀ x ∈ metOf zs, keyOf zs (place (rowsOf zs) x) = (x.getD 0 0, (wordsOf zs).getD (x.getD 3 0).toNat "") := by
  intro x hx
  refine hid fun Gx hGx => ?_
  obtain ⟨p, l, h, hp, hl, hh, rfl⟩ := met_hit zs x hx
  refine hGx ?_
  clear hGx Gx
  rw [place_hit]
  have hk : (RS zs)[l]? = some ((rowsOf zs).getD l "").cps.toList := by rw [List.getElem?_map, List.getD_eq_getElem?_getD, List.getElem?_eq_getElem hl]; rfl
  have hpl := joinL_place (RS zs) l _ hk
  rw [← rows_page] at hpl
  have hb : h + offN (RS zs) l ≤ (pageOf zs).length := by
    have e : ((rowsOf zs).getD l "").cps.toList.length = ((rowsOf zs).getD l "").length := rfl
    have e2 : (pageOf zs).cps.toList.length = (pageOf zs).length := rfl
    unfold offN
    lia
  have e1 : Txt.slice (pageOf zs) none (some ((h + offN (RS zs) l : Nat) : Int)) = ⟨((pageOf zs).cps.toList.take (h + offN (RS zs) l)).toArray⟩ := by
    have := eq_of_beq (slice_closes_toL (x := pageOf zs) (j := ((h + offN (RS zs) l : Nat) : Int)) (Int.natCast_nonneg _) (by exact_mod_cast hb))
    rw [this, Int.sub_zero, Int.toNat_natCast]
    rfl
  have e2 := count_ahead (RS zs) l h _ hk (cps_free zs) (Nat.le_of_lt hh)
  show (Txt.count (Txt.slice (pageOf zs) none (some ((h + offN (RS zs) l : Nat) : Int))) "\n", _) = _
  rw [e1, nl_eq, count_cnt, cnt_count]
  show (((List.count 10 ((pageOf zs).cps.toList.take (h + offN (RS zs) l)) : Nat) : Int), _) = _
  rw [rows_page, Nat.add_comm h]
  unfold offN
  rw [e2]
  rfl
end Mine
end

section
set_option maxHeartbeats 1000000
namespace Mine
open PySem PySem.W PyProof.Rows PySem.Calls

/-! tallies -/
theorem getC_none {k : CK} : ∀ {l : List (CK × Int)}, k ∉ l.map (·.1) → getC k l = none
  | [], _ => rfl
  | p :: l, h => by
    have h1 : ¬ p.1 = k := fun q => h (by rw [← q]; exact .head _)
    have ih := getC_none (l := l) fun q => h (.tail _ q)
    unfold getC at ih ⊢
    rw [List.find?_cons_of_neg (by simpa using h1)]
    exact ih
theorem getC_some {k : CK} {n : Int} : ∀ {l : List (CK × Int)}, (∀ p ∈ l, p.1 = k → p.2 = n) → k ∈ l.map (·.1) → getC k l = some n
  | [], _, h => by cases h
  | p :: l, h, hm => by
    unfold getC
    by_cases h1 : p.1 = k
    · rw [List.find?_cons_of_pos (by simpa using h1)]
      show some p.2 = some n
      rw [h p (.head _) h1]
    · rw [List.find?_cons_of_neg (by simpa using h1)]
      have hm' : k ∈ l.map (·.1) := by
        rcases List.mem_cons.mp hm with q | q
        · exact absurd q.symm h1
        · exact q
      exact getC_some (fun p hp => h p (.tail _ hp)) hm'
theorem put_new {k : CK} {v : Int} {l : List (CK × Int)} (h : k ∉ l.map (·.1)) : putC k v l = l ++ [(k, v)] := by
  unfold putC
  rw [getC_none h]
  rfl
theorem fold_put : ∀ (a acc : List (CK × Int)), ((acc ++ a).map (·.1)).Nodup → a.foldl (fun kvs p => putC p.1 p.2 kvs) acc = acc ++ a
  | [], acc, _ => (List.append_nil _).symm
  | p :: a, acc, h => by
    have e : acc ++ p :: a = acc ++ [p] ++ a := by simp
    have h1 : p.1 ∉ acc.map (·.1) := by
      rw [List.map_append] at h
      intro q
      exact (List.nodup_append.mp h).2.2 p.1 q p.1 (by simp) rfl
    rw [List.foldl_cons, put_new h1, fold_put a (acc ++ [p]) (by rw [← e]; exact h), e]

noncomputable def bump (k : CK) (p : CK × Int) : CK × Int := (p.1, p.2 + if k = p.1 then 1 else 0)
theorem cntK_snoc (q k : CK) (ks : List CK) : cntK q (ks ++ [k]) = cntK q ks + if k = q then 1 else 0 := by
  unfold cntK
  rw [List.countP_append, List.countP_singleton]
  simp only [decide_eq_true_eq]
theorem pairs_snoc (ks : List CK) (k : CK) : pairsOf (ks ++ [k]) = (pairsOf ks).map (bump k) ++ if k ∈ ks then [] else [(k, (cntK k (ks ++ [k]) : Int))] := by
  have hg : ∀ i, i < ks.length → (ks ++ [k]).getD i (0, "") = ks.getD i (0, "") := fun i hi => by rw [List.getD_eq_getElem?_getD, List.getD_eq_getElem?_getD, List.getElem?_append_left hi]
  have hn : (ks ++ [k]).getD ks.length (0, "") = k := by rw [List.getD_eq_getElem?_getD, List.getElem?_append_right (Nat.le_refl _), Nat.sub_self]; rfl
  have hf : (List.range ks.length).filter (firstK (ks ++ [k])) = (List.range ks.length).filter (firstK ks) := by
    refine List.filter_congr fun i hi => ?_
    have hi := List.mem_range.mp hi
    unfold firstK
    rw [hg i hi, List.take_append_of_le_length (Nat.le_of_lt hi)]
  have hl : firstK (ks ++ [k]) ks.length = !decide (k ∈ ks) := by
    unfold firstK
    rw [hn, List.take_append_of_le_length (Nat.le_refl _), List.take_length]
  unfold pairsOf
  rw [List.length_append, List.length_singleton, List.range_succ, List.filter_append, List.map_append, hf, List.map_map]
  congr 1
  · refine List.map_congr_left fun i hi => ?_
    have hi := List.mem_range.mp (List.mem_filter.mp hi).1
    rw [hg i hi, cntK_snoc]
    show (_, _) = (_, _)
    congr 1
    push_cast
    split <;> rfl
  · by_cases hk : k ∈ ks
    · rw [if_pos hk, List.filter_cons_of_neg (by rw [hl]; simpa using hk)]; rfl
    · rw [if_neg hk, List.filter_cons_of_pos (by rw [hl]; simpa using hk)]
      show [(_, _)] = _
      rw [hn]
structure TOk (ks : List CK) : Prop where
  val : ∀ p ∈ pairsOf ks, p.1 ∈ ks ∧ p.2 = (cntK p.1 ks : Int)
  mem : ∀ k ∈ ks, k ∈ (pairsOf ks).map (·.1)
  nd : ((pairsOf ks).map (·.1)).Nodup
  sum : ((pairsOf ks).map (·.2)).sum = (ks.length : Int)
theorem bump_fst (k : CK) (l : List (CK × Int)) : (l.map (bump k)).map (·.1) = l.map (·.1) := by rw [List.map_map]; rfl
theorem bump_sum_out (k : CK) : ∀ l : List (CK × Int), k ∉ l.map (·.1) → l.map (bump k) = l
  | [], _ => rfl
  | p :: l, h => by
    have h1 : ¬ k = p.1 := fun q => h (by rw [q]; exact .head _)
    rw [List.map_cons, bump_sum_out k l fun q => h (.tail _ q)]
    unfold bump
    rw [if_neg h1, Int.add_zero]
theorem bump_sum_in (k : CK) : ∀ l : List (CK × Int), (l.map (·.1)).Nodup → k ∈ l.map (·.1) → ((l.map (bump k)).map (·.2)).sum = (l.map (·.2)).sum + 1
  | [], _, h => by cases h
  | p :: l, hd, hm => by
    rw [List.map_cons, List.nodup_cons] at hd
    rw [List.map_cons, List.map_cons, List.map_cons, List.sum_cons, List.sum_cons]
    by_cases h1 : k = p.1
    · subst h1
      rw [bump_sum_out p.1 l hd.1]
      unfold bump
      rw [if_pos rfl]
      show p.2 + 1 + _ = _
      lia
    · have hm' : k ∈ l.map (·.1) := by
        rcases List.mem_cons.mp hm with q | q
        · exact absurd q h1
        · exact q
      rw [bump_sum_in k l hd.2 hm']
      unfold bump
      rw [if_neg h1]
      show p.2 + 0 + _ = _
      lia
theorem cntK_new {k : CK} {ks : List CK} (h : k ∉ ks) : cntK k (ks ++ [k]) = 1 := by
  rw [cntK_snoc, if_pos rfl]
  unfold cntK
  rw [List.countP_eq_zero.mpr]
  intro a ha
  simp only [decide_eq_true_eq]
  exact fun q => h (q ▸ ha)
theorem tok_snoc {ks : List CK} (T : TOk ks) (k : CK) : TOk (ks ++ [k]) := by
  have hv : ∀ p ∈ (pairsOf ks).map (bump k), p.1 ∈ ks ++ [k] ∧ p.2 = (cntK p.1 (ks ++ [k]) : Int) := by
    intro p hp
    refine hid fun Gx hGx => ?_
    obtain ⟨q, hq, rfl⟩ := List.mem_map.mp hp
    obtain ⟨a, b⟩ := T.val q hq
    refine hGx ?_
    clear hGx Gx
    refine ⟨List.mem_append_left _ a, ?_⟩
    show q.2 + (if k = q.1 then 1 else 0) = ((cntK q.1 (ks ++ [k]) : Nat) : Int)
    rw [b, cntK_snoc]
    push_cast
    split <;> rfl
  by_cases hk : k ∈ ks
  · have e : pairsOf (ks ++ [k]) = (pairsOf ks).map (bump k) := by rw [pairs_snoc, if_pos hk, List.append_nil]
    refine ⟨by rw [e]; exact hv, ?_, by rw [e, bump_fst]; exact T.nd, ?_⟩
    · rw [e, bump_fst]
      intro q hq
      rcases List.mem_append.mp hq with hq | hq
      · exact T.mem q hq
      · rw [List.mem_singleton.mp hq]; exact T.mem k hk
    · rw [e, bump_sum_in k _ T.nd (T.mem k hk), T.sum, List.length_append]
      rfl
  · have ho : k ∉ (pairsOf ks).map (·.1) := fun q => by
      obtain ⟨p, hp, rfl⟩ := List.mem_map.mp q
      exact hk (T.val p hp).1
    have e : pairsOf (ks ++ [k]) = (pairsOf ks).map (bump k) ++ [(k, (cntK k (ks ++ [k]) : Int))] := by rw [pairs_snoc, if_neg hk]
    have e' : pairsOf (ks ++ [k]) = pairsOf ks ++ [(k, 1)] := by rw [e, bump_sum_out k _ ho, cntK_new hk]; rfl
    refine ⟨?_, ?_, ?_, ?_⟩
    · intro p hp
      rw [e] at hp
      rcases List.mem_append.mp hp with hp | hp
      · exact hv p hp
      · rw [List.mem_singleton.mp hp]; exact ⟨by simp, rfl⟩
    · rw [e', List.map_append]
      intro q hq
      rcases List.mem_append.mp hq with hq | hq
      · exact List.mem_append_left _ (T.mem q hq)
      · rw [List.mem_singleton.mp hq]; exact List.mem_append_right _ (.head _)
    · rw [e', List.map_append, List.nodup_append]
      refine ⟨T.nd, by simp, fun a ha b hb q => ?_⟩
      have : b = k := by simpa using hb
      exact ho (by rw [← this, ← q]; exact ha)
    · rw [e', List.map_append, List.sum_append, T.sum, List.length_append]
      rfl
theorem tok_all (ks : List CK) : TOk ks := by
  suffices h : ∀ n (ks : List CK), ks.length = n → TOk ks from h _ ks rfl
  intro n
  induction n with
  | zero =>
    intro ks h
    rw [List.eq_nil_of_length_eq_zero h]
    exact ⟨nofun, nofun, .nil, rfl⟩
  | succ n ih =>
    intro ks h
    rcases List.eq_nil_or_concat ks with rfl | ⟨l, k, rfl⟩
    · cases h
    · rw [List.concat_eq_append] at h ⊢
      exact tok_snoc (ih l (by simpa using h)) k
noncomputable def tal (ks : List CK) : List (CK × Int) := ks.foldl (fun a k => addC a [(k, 1)]) []
theorem addC_one (ks : List CK) (k : CK) : addC (pairsOf ks) [(k, 1)] = pairsOf (ks ++ [k]) := by
  have T := tok_all ks
  unfold addC
  rw [fold_put _ [] (by rw [List.nil_append]; exact T.nd), List.nil_append]
  show add1 (pairsOf ks) (k, 1) = _
  unfold add1
  by_cases hk : k ∈ ks
  · have hg : getC k (pairsOf ks) = some (cntK k ks : Int) := getC_some (fun p hp q => by rw [(T.val p hp).2, q]) (T.mem k hk)
    rw [pairs_snoc, if_pos hk, List.append_nil]
    show (match getC k (pairsOf ks) with | some n => putC k (n + 1) (pairsOf ks) | none => putC k 1 (pairsOf ks)) = _
    rw [hg]
    show putC k ((cntK k ks : Int) + 1) (pairsOf ks) = _
    unfold putC
    rw [hg]
    simp only [Option.isSome_some, if_true]
    refine List.map_congr_left fun p hp => ?_
    unfold bump
    by_cases q : p.1 = k
    · rw [if_pos q, if_pos q.symm, (T.val p hp).2, q]
    · rw [if_neg q, if_neg (Ne.symm q), Int.add_zero]
  · have ho : k ∉ (pairsOf ks).map (·.1) := fun q => by
      obtain ⟨p, hp, rfl⟩ := List.mem_map.mp q
      exact hk (T.val p hp).1
    rw [pairs_snoc, if_neg hk, cntK_new hk, bump_sum_out k _ ho]
    show (match getC k (pairsOf ks) with | some n => putC k (n + 1) (pairsOf ks) | none => putC k 1 (pairsOf ks)) = _
    rw [getC_none ho]
    show putC k 1 (pairsOf ks) = _
    rw [put_new ho]
    rfl
theorem tal_eq (ks : List CK) : tal ks = pairsOf ks := by
  suffices h : ∀ (l pre : List CK), l.foldl (fun a k => addC a [(k, 1)]) (pairsOf pre) = pairsOf (pre ++ l) from h ks []
  intro l
  induction l with
  | nil => intro pre; rw [List.append_nil]; rfl
  | cons k l ih =>
    intro pre
    rw [List.foldl_cons, addC_one, ih, List.append_assoc]; rfl
theorem sumI_eq (l : List Int) : sumI l = l.sum := by
  have h : ∀ (l : List Int) (a : Int), l.foldl (· + ·) a = a + l.sum := by
    intro l
    induction l with
    | nil => intro a; exact (Int.add_zero a).symm
    | cons b l ih => intro a; rw [List.foldl_cons, ih, List.sum_cons, Int.add_assoc]
  unfold sumI
  rw [h, Int.zero_add]

/-! sums -/
noncomputable def kOf (words : List Str) (x : List Int) : CK := (x.getD 0 0, words.getD (x.getD 3 0).toNat "")
noncomputable def sz (x : List Int) : Int := x.getD 2 0
theorem sm_fold (words : List Str) : ∀ (xs : List (List Int)) (q : Sm), (∀ x ∈ xs, 0 ≤ sz x) →
    xs.foldl (sm1 words) q = ⟨q.a + (xs.countP (fun x => decide (0 < sz x)) : Nat), q.b + (xs.length : Nat), q.c + (xs.map sz).sum, q.e + (xs.map fun x => sz x * sz x).sum, (xs.map (kOf words)).foldl (fun a k => addC a [(k, 1)]) q.kvs⟩
  | [], q, _ => by
    refine hid fun Gx hGx => ?_
    obtain ⟨a, b, c, e, k⟩ := q
    refine hGx ?_
    clear hGx Gx
    simp
  | x :: xs, q, h => by
    have hx := h x (.head _)
    rw [List.foldl_cons, sm_fold words xs _ fun y hy => h y (.tail _ hy), List.countP_cons, List.length_cons, List.map_cons, List.sum_cons, List.map_cons, List.sum_cons, List.map_cons, List.foldl_cons]
    have e1 : (if 1 < x.getD 2 0 then (1 : Int) else x.getD 2 0) = ((if decide (0 < sz x) = true then 1 else 0 : Nat) : Int) := by
      show (if 1 < sz x then (1 : Int) else sz x) = _
      by_cases h1 : 0 < sz x
      · rw [decide_eq_true h1, if_pos rfl]
        split <;> lia
      · rw [decide_eq_false h1, if_neg (by lia), if_neg (by decide)]
        lia
    simp only [sm1, Sm.mk.injEq]
    refine ⟨?_, ?_, ?_, ?_, rfl⟩
    · rw [e1]; push_cast; lia
    · push_cast; lia
    · show x.getD 2 0 + q.c + _ = q.c + (x.getD 2 0 + _); lia
    · show x.getD 2 0 * x.getD 2 0 + q.e + _ = q.e + (x.getD 2 0 * x.getD 2 0 + _); lia
theorem range_count {α : Type} (l : List α) (d : α) (p : α → Bool) : ((List.range l.length).filter fun i => p (l.getD i d)).length = l.countP p := by
  rw [← List.countP_eq_length_filter]
  have e : (List.range l.length).map (fun i => l.getD i d) = l := by
    have := map_range_getD l d id
    simpa using this
  conv => rhs; rw [← e, List.countP_map]
  rfl
end Mine
end

section
set_option maxHeartbeats 1000000
namespace Mine
open PySem PySem.W PyProof.Rows PySem.Calls

theorem met_len (zs : List Int) : (metOf zs).length ≤ 60 := by
  have b0 : (walkOf zs 0).length ≤ 20 := wTo_len ..
  have b1 : (walkOf zs 1).length ≤ 20 := wTo_len ..
  have b2 : (walkOf zs 2).length ≤ 20 := wTo_len ..
  unfold metOf
  rw [mrg_len, mrg_len]
  lia
theorem met_ok (zs : List Int) : ∀ x ∈ metOf zs, ∃ l f z k : Int, x = [l, f, z, k] ∧ (0 ≤ l ∧ l < 2 ^ 20) ∧ 0 ≤ z ∧ z < 2 ^ 20 ∧ 0 ≤ k ∧ k < 3 := by
  intro x hx
  refine hid fun Gx hGx => ?_
  obtain ⟨p, l, h, hp, hl, _, rfl⟩ := met_hit zs x hx
  refine hGx ?_
  clear hGx Gx
  have h1 := rows_len zs
  have h2 := (wok zs p).1
  exact ⟨_, _, _, _, rfl, ⟨Int.natCast_nonneg _, by lia⟩, Int.natCast_nonneg _, by lia, Int.natCast_nonneg _, by lia⟩
noncomputable def tsOf (zs : List Int) : List (List Int) := (metOf zs).map (place (rowsOf zs))
theorem ts_mem (zs : List Int) : ∀ x ∈ tsOf zs, x.length = 3 ∧ (0 ≤ x.getD 1 0 ∧ x.getD 1 0 < 2 ^ 20) ∧ 0 ≤ x.getD 2 0 ∧ x.getD 2 0 < 3 := by
  intro x hx
  refine hid fun Gx hGx => ?_
  obtain ⟨y, hy, rfl⟩ := List.mem_map.mp hx
  obtain ⟨l, f, z, k, rfl, _, h1, h2, h3, h4⟩ := met_ok zs y hy
  refine hGx ?_
  clear hGx Gx
  exact ⟨rfl, ⟨h1, h2⟩, h3, h4⟩
theorem ts_len (zs : List Int) : (tsOf zs).length = (metOf zs).length := List.length_map _
theorem met_sz (zs : List Int) : ∀ x ∈ metOf zs, 0 ≤ sz x := by
  intro x hx
  refine hid fun Gx hGx => ?_
  obtain ⟨l, f, z, k, rfl, _, h1, _⟩ := met_ok zs x hx
  refine hGx ?_
  clear hGx Gx
  exact h1
theorem sm_eq (zs : List Int) : smAll (wordsOf zs) (metOf zs) = ⟨0 + ((metOf zs).countP (fun x => decide (0 < sz x)) : Nat), 0 + ((metOf zs).length : Nat), 0 + ((metOf zs).map sz).sum, 0 + ((metOf zs).map fun x => sz x * sz x).sum, tal ((metOf zs).map (kOf (wordsOf zs)))⟩ :=
  sm_fold _ _ _ (met_sz zs)
theorem sm_a (zs : List Int) : (smAll (wordsOf zs) (metOf zs)).a = (((List.range (tsOf zs).length).filter (posW (tsOf zs))).length : Int) := by
  have h := range_count (tsOf zs) [] fun x => decide (0 < x.getD 1 0)
  rw [sm_eq]
  show (0 : Int) + _ = ((List.filter (fun i => decide (0 < ((tsOf zs).getD i []).getD 1 0)) _).length : Nat)
  rw [h, Int.zero_add]
  unfold tsOf
  rw [List.countP_map]
  rfl
theorem sm_b (zs : List Int) : (smAll (wordsOf zs) (metOf zs)).b = ((tsOf zs).length : Int) := by
  rw [sm_eq, ts_len]
  exact Int.zero_add _
theorem sm_c (zs : List Int) : (smAll (wordsOf zs) (metOf zs)).c = ((List.range (tsOf zs).length).map fun i => ((tsOf zs).getD i []).getD 1 0).sum := by
  rw [sm_eq, map_range_getD (tsOf zs) [] fun x => x.getD 1 0]
  unfold tsOf
  rw [List.map_map]
  exact Int.zero_add _
theorem sm_e (zs : List Int) : (smAll (wordsOf zs) (metOf zs)).e = ((List.range (tsOf zs).length).map fun i => ((tsOf zs).getD i []).getD 1 0 * ((tsOf zs).getD i []).getD 1 0).sum := by
  rw [sm_eq, map_range_getD (tsOf zs) [] fun x => x.getD 1 0 * x.getD 1 0]
  unfold tsOf
  rw [List.map_map]
  exact Int.zero_add _
theorem keys_eq (zs : List Int) : (tsOf zs).map (keyOf zs) = (metOf zs).map (kOf (wordsOf zs)) := by
  unfold tsOf
  rw [List.map_map]
  exact List.map_congr_left fun x hx => met_key zs x hx
theorem sm_kvs (zs : List Int) : (smAll (wordsOf zs) (metOf zs)).kvs = pairsOf ((tsOf zs).map (keyOf zs)) := by
  rw [sm_eq, keys_eq]
  exact tal_eq _
theorem sm_sum (zs : List Int) : sumI ((smAll (wordsOf zs) (metOf zs)).kvs.map (·.2)) = ((tsOf zs).length : Int) := by
  rw [sm_kvs, sumI_eq, (tok_all _).sum, List.length_map]
theorem keys_ok (zs : List Int) : ∀ k ∈ (tsOf zs).map (keyOf zs), OkK k := by
  intro k hk
  obtain ⟨x, _, rfl⟩ := List.mem_map.mp hk
  exact (wok_getD (wok_words zs) _).2.2

section
variable {prog : Program} {w : World} {A : Around} {mg mb : Str → Option Value}
theorem law_all {L fa a : Addr} {cd : Value} {h₀ h : Heap} {vals : List Value} {zs : List Int} {m : Str → Option Value} {k1 k2 k3 k4 : Option Value} {D : Heap → Prop} {g : Array GenState} {dr : Drawn} {tk : Nat} {os : OsState} {E : Value → Shared → Prop} {Q : Flow → Shared → Prop}
    (S : Stat w mg mb h₀) (hr : Root h₀) (hroom : A.depth + 2 < recursionLimit) (hh : A.handled = none) (hu : A.units + 64 < cLine) (X : LS h₀ L m k1 k2 k3 k4 D h) (ms : m "script" = some (.ref a)) (hl : h₀.IsList a vals.toArray) (hi : IntsAre vals zs) (h63 : zs.length ≤ 63)
    (done : ∀ h' tk', Ev h₀ h' → Q (.ret (.bool true)) ⟨h', g, dr, tk', os⟩) : wpAny (model prog w) A (execs dLaw.body (envLw L fa cd)) Q E ⟨h, g, dr, tk, os⟩ := by
  have hwl : ∀ y ∈ wordsOf zs, y.length ≤ 2 := fun y hy => (wok_words zs y hy).1
  have hrl := rows_len zs
  have htl : (tsOf zs).length ≤ 60 := by rw [ts_len]; exact met_len zs
  refine law_a S hh X ms hl hi h63 fun l h₁ tk₁ m₁ t1 ml X₁ => ?_
  refine law_b S hh X₁ ml (ints_take hi 8) (page_len zs) fun r1 r2 v1 v2 h₂ tk₂ m₂ hs1 hs2 X₂ => ?_
  refine law_c S hr hroom hh hs1 hs2 (Nat.lt_of_le_of_lt hrl (by decide)) (fun r hr => Nat.lt_of_le_of_lt (row_len zs r hr) (by decide)) hwl X₂ fun l0 l1 l2 Dw h₃ tk₃ m₃ mw X₃ => ?_
  refine law_d S hroom hh hs2 hwl (page_len zs) (scan_T3 zs) (scan_nodup zs) (scan_two zs) X₃ mw fun lm lt ys h₄ tk₄ m₄ mm mt hp hs X₄ => ?_
  have hmath := met_told zs hp hs
  refine law_e S hh hu hs1 (Nat.le_trans hrl (by decide)) (fun r hr => Nat.le_trans (row_len zs r hr) (by decide)) (fun x hx => ?_) (met_len zs) hmath X₄ mm mt fun h₅ tk₅ X₅ => ?_
  · obtain ⟨l, f, z, k, e, h1, _⟩ := met_ok zs x hx
    exact ⟨l, f, z, k, e, h1⟩
  rw [← hmath] at X₅
  refine law_f (ts := tsOf zs) S hh hu hroom hs2 (fun x hx => ?_) (met_len zs) (fun x hx => (ts_mem zs x hx).1) (fun x hx => (ts_mem zs x hx).2.1) htl (sm_a zs) (sm_b zs) (sm_c zs) (sm_e zs) X₅ mm mt fun v d h₆ tk₆ m₆ mled mt₆ X₆ => ?_
  · obtain ⟨l, f, z, k, e, _, h1⟩ := met_ok zs x hx
    exact ⟨l, f, z, k, e, h1⟩
  refine law_g hh hs2 (page_len zs) (fun x hx => (ts_mem zs x hx).1) (fun x hx => (ts_mem zs x hx).2.2) htl X₆ mt₆ fun lk h₇ tk₇ X₇ => ?_
  exact law_h S hh hu (Nat.lt_of_succ_lt (Nat.lt_of_succ_lt hroom)) htl (by rw [List.length_map]; exact htl) (keys_ok zs) (sm_kvs zs) (sm_sum zs) X₇ mled mt₆ done
end
end Mine
end

section
set_option maxHeartbeats 8000000
namespace Mine
open PySem PySem.W PyProof.Rows PySem.Calls

theorem post_a (a b : List WData) : PySem.Challenge.rw_ny0060_01.row.claim.post a (.bool true) b = true := by kernel_rfl
theorem ghost_of {h : Heap} {b : Addr} {o : Obj} (e : (ghostOf h [(76, 72)]).get? b = some o) : h.get? b = some o := of_hideAll _ e
theorem law_top {p : Program} {loose : List Str} {mean : ExcName → Option Value} {prog : Program} {w : World} {A : Around} {h₀ h : Heap} {mg mb : Str → Option Value} {fa a : Addr} {cd : Value} {vals : List Value} {zs : List Int} {m : Str → Option Value} {o1 o2 o3 o4 : Obj} {k1 k2 k3 k4 : Option Value} {g : Array GenState} {dr : Drawn} {tk : Nat} {os : OsState} {E : Value → Shared → Prop} {Q : Flow → Shared → Prop}
    (T : Top p loose mean mg mb h₀) (X : (KF w.params).In (ghostOf h₀ [(76, 72)])) (hT : TabsAt [(76, 72)] h₀) (hl : h₀.IsList a vals.toArray) (hi : IntsAre vals zs) (h63 : ¬ ((63 : Nat) : Int) < (zs.length : Int))
    (F : Fr (ghostOf h₀ [(76, 72)]) h₀.objs.size h m) (N : News (ghostOf h₀ [(76, 72)]) h₀.objs.size h [(h₀.objs.size + 1 + 1 + 1 + 1, o4), (h₀.objs.size + 1 + 1 + 1, o3), (h₀.objs.size + 1 + 1, o2), (h₀.objs.size + 1, o1), (72, tabObj #[])])
    (d4 : o4.data = .cell k4) (d3 : o3.data = .cell k3) (d2 : o2.data = .cell k2) (d1 : o1.data = .cell k1) (ms : m "script" = some (.ref a)) (hroom : A.depth + 2 < recursionLimit) (hh : A.handled = none) (hu : A.units + 64 < cLine)
    (done : ∀ h' tk', (∀ b o, (ghostOf h₀ [(76, 72)]).get? b = some o → h'.get? b = some o) → (∃ ps, h'.get? 72 = some (tabObj ps)) → Q (.ret (.bool true)) ⟨h', g, dr, tk', os⟩) :
    wpAny (model prog w) A (execs dLaw.body (envLw h₀.objs.size fa cd)) Q E ⟨h, g, dr, tk, os⟩ := by
  have hP : h₀.get? 72 = some (tabObj #[]) := (hT _ (.head _)).2
  have hK : (KF w.params).In h₀ := fun b o e => ghost_of (X b o e)
  have S : Stat w mg mb h₀ := ⟨hK, T.g, T.b, T.nolimit, T.builtins, T.bmain⟩
  have hr : Root h₀ := by
    refine ⟨#[], hP, trivial, ?_, ?_⟩
    · intro cv q; exact absurd (show (none : Option Value) = some cv from q) nofun
    · intro cv q; exact absurd (show (none : Option Value) = some cv from q) nofun
  have keep : ∀ b o, h₀.get? b = some o → h.get? b = some o := by
    intro b o e
    by_cases hb : b = 72
    · subst hb
      rw [hP] at e
      rw [← e]
      exact (N (72, tabObj #[]) (.tail _ (.tail _ (.tail _ (.tail _ (.head _)))))).1
    · exact F.keep b o (ghost_ne e (by simpa using hb))
  have fresh : ∀ i, h₀.get? (h₀.objs.size + i) = none := fun i => Heap.get?_none_of_le (Nat.le_add_right _ _)
  have Y : LS h₀ h₀.objs.size m k1 k2 k3 k4 (fun _ => True) h :=
    { F := ⟨.of_keeps keep, F.ns, fresh 0⟩, c1 := ⟨o1, (N _ (.tail _ (.tail _ (.tail _ (.head _))))).1, d1⟩, c2 := ⟨o2, (N _ (.tail _ (.tail _ (.head _)))).1, d2⟩, c3 := ⟨o3, (N _ (.tail _ (.head _))).1, d3⟩, c4 := ⟨o4, (N _ (.head _)).1, d4⟩,
      n1 := fresh 1, n2 := fresh 2, n3 := fresh 3, n4 := fresh 4, rob := rob_true, dat := trivial }
  refine law_all S hr hroom hh hu Y ms hl hi (by omega) fun h' tk' x => done h' tk' (fun b o e => ?_) (x.tab 72 _ hP)
  have e₀ := ghost_of e
  by_cases ht : IsTab o
  · obtain ⟨ps, rfl⟩ := ht
    have hb : b ≠ 72 := fun q => by
      have := (N (72, tabObj #[]) (.tail _ (.tail _ (.tail _ (.tail _ (.head _)))))).2.2
      rw [q, this] at e; cases e
    exact (x.old (fun b => ∃ o, h₀.get? b = some o) (fun b hb => hb) ⟨#[], hP, fun cv q => absurd (show (none : Option Value) = some cv from q) nofun⟩).2 b ps ⟨_, e₀⟩ hb e₀
  · exact x.keep b o e₀ ht
end Mine
end

section
set_option maxHeartbeats 8000000
namespace Mine
open PySem PySem.W PyProof.Rows PySem.Calls

/- the head: the run of the program's top, seen by the kernel -/
noncomputable def pV : Program := { Challenge.pw_ny0060_01 with main := { Challenge.pw_ny0060_01.main with body := [stAt pB 1, stAt pB 3, stAt pB 4, stAt pB 5, stAt pB 6, stAt pB 8, stAt pB 9, stAt pB 10, stAt pB 11, stAt pB 12, stAt pB 13] } }
theorem hKe (P : Params) : [3, 20, 21, 34, 35, 41, 42, 44, 45, 55, 56, 62, 63, 69, 70, 76, 77, 83, 84, 90, 91, 97, 98, 102, 103, 107, 108] = (KF P).map (·.1) := by kernel_rfl
noncomputable abbrev hK : Hook := kmHook KF [3, 20, 21, 34, 35, 41, 42, 44, 45, 55, 56, 62, 63, 69, 70, 76, 77, 83, 84, 90, 91, 97, 98, 102, 103, 107, 108] hKe [72]
noncomputable def hX (s : Shared) : Bool := xlAt pV [] s && recOk (RowW.records Challenge.rw_ny0060_01.row.toRowW) s
theorem look1 : sreFenced Challenge.pw_ny0060_01.main = true := by
  try rw [Fast.te11788848310118352699]
  kernel_rfl
theorem look2 : ((moduleNames Challenge.pw_ny0060_01.main.body).isEmpty || lookedIntoSs (moduleNames Challenge.pw_ny0060_01.main.body) Challenge.pw_ny0060_01.main.body) = true := by
  try rw [Fast.te9807087744658564304, Fast.te12862048085361865435]
  kernel_rfl
theorem look3 : namesResolve Challenge.pw_ny0060_01 = true := by
  try rw [Fast.te8377067652309620493]
  kernel_rfl
theorem look4 : Challenge.pw_ny0060_01.boundNames.all (fun n => !worldNames.contains n) = true := by
  try rw [Fast.te18344453789297297638, Fast.te14412699480532031325]
  kernel_rfl
theorem look5 : noRoadLSs { strict := !(importedModules Challenge.pw_ny0060_01.main.body).all cThrough.contains, foot := none, bare := (["vars", "dir", "locals"] : List Str).filter (readsOut Challenge.pw_ny0060_01 Challenge.pw_ny0060_01.main.body) } Challenge.pw_ny0060_01.main.body = true := by
  try rw [Fast.te8326940854005059898, Fast.te5923862056798008813, Fast.te17691160309236699985, Fast.te13343964577679436407]
  kernel_rfl
theorem look6 : (namesMeet Challenge.pw_ny0060_01 Challenge.pw_ny0060_01.main.body fun _ n => attrL n) = true := by
  try rw [Fast.te17119622794617984870, Fast.te17868728402115742887]
  kernel_rfl
theorem said1 : looksOpen Challenge.rw_ny0060_01.row.prog = true := by
  show looksOpen Challenge.pw_ny0060_01 = true
  unfold looksOpen
  rw [look1, look2, look3, look4, look5, look6]
  rfl
theorem said2 : Challenge.rw_ny0060_01.row.wellSaid = true := by
  unfold OpenRow.wellSaid OpenRow.partSaid
  rw [said1]
  try rw [Fast.te18344453789297297638, Fast.te13582783067957832011, Fast.te5318747976498570220, Fast.te2357444279172408678, Fast.named_eq, Fast.te4857012375875476094]
  kernel_rfl
theorem said3 : namesMeet Challenge.rw_ny0060_01.prog Challenge.rw_ny0060_01.above (fun _ n => !Challenge.rw_ny0060_01.own.contains n) = true := by
  try rw [Fast.te17119622794617984870]
  kernel_rfl
theorem said4 : noRoadLSs { strict := true, foot := some Challenge.rw_ny0060_01.bound', writes := Challenge.rw_ny0060_01.writes, may := Challenge.rw_ny0060_01.may } Challenge.rw_ny0060_01.footing = true := by
  try rw [Fast.te8326940854005059898]
  kernel_rfl
theorem said : Challenge.rw_ny0060_01.wellSaid = true := by
  unfold OpenLaw.wellSaid
  rw [said2, said3, said4]
  try rw [Fast.te8179353310426384613, Fast.te10501279942588096481, Fast.te797321630700447069, Fast.te9572597257264208301, Fast.te9558739934217749035, Fast.te16286561074155671207, Fast.named_eq, Fast.te6984425678791042302, Fast.te482687673346738481, Fast.te17119622794617984870, Fast.te12879404354523853263]
  kernel_rfl
theorem left (w : World) : (openEnds treeTable Challenge.pw_ny0060_01 w 1352).map (fun s => (openSeen pV [] (importedModules Challenge.pw_ny0060_01.main.body) hX true s, hK.obs s)) = some (openGood pV [], hK.val w) := by
  unfold openEnds fencedOpening topFrom
  try rw [Fast.te14082659384304107361, Fast.te10274390034422433532, Fast.te4187177175401517315, Fast.te1435165496053646825, Fast.te14364793385576792824, Fast.te14289696077712309145, Fast.te5923862056798008813, Fast.te8920871248978507458]
  kernel_rfl
end Mine
open PySem PySem.W PyProof.Rows PySem.Calls
theorem PySem.Challenge.cw_ny0060_01_holds : PySem.Challenge.rw_ny0060_01.Holds := by
  w_on
  refine holds_law Mine.said fun said => holds_open (q := Mine.pV) (loose := []) (Xt := Mine.hX) (XP := XL Mine.pV []) (Yf := Mine.hK.obs) (Ya := Mine.hK.val) (YP := (kmHook Mine.KF [3, 20, 21, 34, 35, 41, 42, 44, 45, 55, 56, 62, 63, 69, 70, 76, 77, 83, 84, 90, 91, 97, 98, 102, 103, 107, 108] Mine.hKe [72]).says) (N := 1352) Mine.left Mine.hK.of Mine.hK.keeps (fun s e => xl_of s (Bool.and_eq_true_iff.mp e).1) XL.keeps (by rfl) (by rfl) (by rfl) (fun s e => recFacts_of (Bool.and_eq_true_iff.mp e).2) (by rfl) (by assumption) (by decide +kernel) ⟨rfl, rfl, rfl, rfl, rfl, by decide +kernel⟩ ?hw ?hc
  case hw => w_witness2
  case hc =>
    w_strict (k_go0; refine Mine.law_top (by assumption) (by assumption) hT9 (by assumption) (by assumption) (by assumption) (by assumption) (by assumption) (by assumption) (by assumption) (by assumption) (by assumption) ?h1 ?h2 ?h3 ?h4 ?h5; (case h1 => rfl); (case h2 => exact Nat.le_of_ble_eq_true rfl); (case h3 => rfl); (case h4 => exact Nat.le_of_ble_eq_true rfl); (case h5 => exact fun h' tk' hk hps => ⟨⟨.inl ⟨.bool true, .bool true, [], rfl, fun _ => rfl, .bool true, Mine.post_a _ _, fun _ => ⟨.nil, nofun⟩⟩, hk, rfl, by assumption⟩, hps, trivial⟩))
end
