import PyProof.Rows.All
import Wide.All
import OpenK.AllK
import Wide.FinOn
import KE.KCompText
import KE.KLcTest
import PySem.Challenge.RW_kq0072_01
set_option Elab.async false
set_option compiler.extract_closed false
set_option linter.all false
section -- HeadT
open PySem PySem.W PyProof.Rows
set_option maxRecDepth 100000
set_option maxHeartbeats 8000000
namespace Mine
open_top hd for PySem.Challenge.rw_kq0072_01
end Mine
end
section -- Base1
open PySem PySem.W PyProof.Rows
namespace Mine
/-- the claim of a def that leaves what its caller holds: what it gives back, and what it makes above the ledger -/
abbrev Cl (K : Frag) (w : World) (mean : ExcName → Option Value) (mg mb : Str → Option Value) (f : Addr) (vs : List Value) (kw : List (Str × Value)) (news : List (Addr × Obj)) (Out : Value → List (Addr × Obj) → Prop) : Prop :=
  ∀ (gd : Option (List Code)) (cn : Str) (cs : Scope) (a : Addr) (ccd : Value) (cl : List (Str × Addr)) (outer : List Env) (A₀ : Around) (base h₀ : Heap) (L : Addr) (m : Str → Option Value) (s : Shared) (Q E : Value → Shared → Prop),
    Below A₀ base outer h₀ → Fr h₀ L s.heap m → K.In h₀ → News h₀ L s.heap news → Top hd.view_39 (looseW hd.view_39 [Str.ofString "bytes_types", Str.ofString "a85decode"]) mean mg mb h₀ → cs.kind = .function →
    
    (∀ v tl h' tk', Fr h₀ L h' m → News h₀ L h' (tl ++ news) → Out v tl → Q v { s with heap := h', toks := tk' }) →
      wpAny (model PySem.Challenge.rw_kq0072_01.row.prog w) (ktrTop 350 300 gd cn cs L a ccd cl outer) (call (.ref f) vs kw) Q E s
end Mine
end
section -- StructA
open PySem PySem.W PyProof.Rows PySem.Calls
set_option maxRecDepth 100000
namespace Mine
theorem st_mro : mroOf (.type "_struct.Struct") = pure [.type "_struct.Struct", .type "object"] := by rw [mroOf_type]; kernel_rfl
theorem st_lookup_new : typeLookup (.type "_struct.Struct") "__new__" = pure (some (.builtin "_struct.Struct.__new__")) := by rw [typeLookup_type, builtinLookup_eq_fast]; kernel_rfl
theorem st_slot_init : Slot "_struct.Struct" "__init__" "_struct.Struct.__init__" :=
  .of (owner := "_struct.Struct") (n := "__init__") (by rw [typeLookup_type, builtinLookup_eq_fast]; kernel_rfl) (by decide +kernel) (by decide +kernel) (by decide +kernel)
    (by first | exact .inl (by decide +kernel) | exact .inr (by decide +kernel)) (by rw [isSubtype_type]; kernel_rfl)
theorem st_called : TypeCalled "_struct.Struct" "_struct.Struct.__new__" "_struct.Struct.__init__" :=
  ⟨by decide +kernel, by decide +kernel, ⟨_, _, st_mro⟩, madeBy_type st_mro st_lookup_new (by decide +kernel), by decide +kernel, by rw [isSubtype_type]; kernel_rfl, st_slot_init⟩
theorem st_typeCall (a : Value) : checkTypeCall "_struct.Struct" ⟨[a], []⟩ = pure () := by kernel_rfl
theorem st_newCall (a : Value) : checkBuiltinCall "_struct.Struct.__new__" ⟨[.type "_struct.Struct", a], []⟩ = pure () := by kernel_rfl
theorem st_plain : plainId "_struct.Struct.__new__" = true := by decide +kernel
theorem st_entry : entryFor table "_struct.Struct.__new__" = some Builtin.«_struct.Struct.__new__» := by exact entryFor_of_tree (by kernel_rfl)
theorem st_entry_init : entryFor table "_struct.Struct.__init__" = some Builtin.«_struct.Struct.__init__» := by exact entryFor_of_tree (by kernel_rfl)
theorem st_sub : isSubtype (.type "_struct.Struct") (.type "_struct.Struct") = pure true := by rw [isSubtype_type]; kernel_rfl
theorem st_entry_pack : entryFor table "_struct.Struct.pack" = some Builtin.«_struct.Struct.pack» := by exact entryFor_of_tree (by kernel_rfl)
theorem st_args_init (a v : Value) : argsOk "_struct.Struct.__init__" ⟨[a, v], []⟩ := by unfold argsOk; kernel_rfl
section
variable {prog : Program} {w : World} {A : Around} {E : Value → Shared → Prop} {s : Shared}
theorem st_new {v : Value} {Q : Value → Shared → Prop} (h : Q (.ref s.heap.objs.size) { s with heap := s.heap.push { cls := .type "_struct.Struct", data := .fields #[.none] } }) :
    codeAny (model prog w) A (.call (.builtin "_struct.Struct.__new__") ⟨[.type "_struct.Struct", v], []⟩) (wants Q E) s := by
  refine codeAny_of_tree ?_
  show wpAny _ A.in1 (do checkBuiltinCall "_struct.Struct.__new__" ⟨[.type "_struct.Struct", v], []⟩; again (.builtin "_struct.Struct.__new__" ⟨[.type "_struct.Struct", v], []⟩)) _ _ s
  refine wpAny_bind (wpAny_of_eq (st_newCall _) (wpAny_pure ⟨plainId_quiet st_plain _, codeAny_builtin st_entry ?_⟩))
  rw [Around.under_plainId st_plain _]
  unfold Builtin.«_struct.Struct.__new__»
  refine wpAny_bind (wpAny_of_eq (a := true) rfl ?_)
  refine bm_if_false rfl ?_
  refine wpAny_bind (wpAny_of_eq st_sub ?_)
  refine bm_if_false rfl ?_
  refine wpAny_bind (wpAny_newObj_type ?_)
  exact wpAny_pure h
end
end Mine
end
section -- StructB
open PySem PySem.W PyProof.Rows PySem.Calls
set_option maxRecDepth 100000
namespace Mine
open Builtin
abbrev fmtI : Builtin.Struct.Format := ⟨true, false, [⟨'I', 1, 0, 4⟩], 4, 1⟩
theorem st_parse : Builtin.Struct.parse #[33, 73] = pure fmtI := by kernel_rfl
theorem st_fmt (t : Tok) : Builtin.Struct.formatBytes (.str (Str.ofString "!I") t) = pure #[33, 73] := by kernel_rfl
theorem st_bind (v : Value) : Builtin.Bytes.bindOptional "_struct.Struct.__init__" "Struct" ["format"] [v] [] = pure [some v] := by kernel_rfl
abbrev structObj (t : Tok) : Obj := { cls := .type "_struct.Struct", data := .fields #[.bytes #[33, 73] t] }
section
variable {prog : Program} {w : World} {A : Around} {E : Value → Shared → Prop} {s : Shared}
theorem st_under {a : Addr} {Q : Bool → Shared → Prop} (hg : A.guards = some []) (h : Q false s) : wpAny (model prog w) A (Builtin.Struct.packUnderWay (.ref a)) Q E s := by
  refine wpAny_stackAny_false (g := []) hg (fun c p hc => ?_) (fun c hc => nomatch hc) h
  unfold Code.isGuard at hc
  split at hc
  · rename_i id args
    split
    · rename_i heq
      injection heq with h1 h2
      injection h1 with h3 h4
      subst h3
      simp [guardIds] at hc
    · rename_i heq
      injection heq with h1 h2
      injection h1 with h3 h4
      subst h3
      simp [guardIds] at hc
    · rfl
  · rename_i hne
    split
    · rename_i heq
      injection heq with h1 h2
      exact absurd h1 (hne _ _)
    · rename_i heq
      injection heq with h1 h2
      exact absurd h1 (hne _ _)
    · rfl
theorem call_Struct {t : Tok} {Q : Value → Shared → Prop} (hg : A.guards = some [])
    (h : ∀ h' t' k, h'.get? s.heap.objs.size = some (structObj t') → (∀ b o, s.heap.get? b = some o → h'.get? b = some o) → Q (.ref s.heap.objs.size) { s with heap := h', toks := k }) :
    wpAny (model prog w) A (call (.type "_struct.Struct") [.str (Str.ofString "!I") t]) Q E s := by
  refine callType_codes (Q₁ := fun obj s₁ => obj = .ref s.heap.objs.size ∧ s₁ = { s with heap := s.heap.push { cls := .type "_struct.Struct", data := .fields #[.none] } }) st_called (st_typeCall _) st_entry_init (st_new ⟨rfl, rfl⟩) ?_
  rintro obj s₁ ⟨rfl, rfl⟩
  have ho : (s.heap.push { cls := .type "_struct.Struct", data := .fields #[.none] }).get? s.heap.objs.size = some { cls := .type "_struct.Struct", data := .fields #[.none] } := Heap.get?_push_size _ rfl
  refine ⟨?_, st_args_init _ _, ?_⟩
  · exact ⟨_, ho, rfl⟩
  · unfold Builtin.«_struct.Struct.__init__»
    dsimp only
    refine wpAny_bind (wpAny_of_eq (st_bind _) ?_)
    dsimp only
    refine wpAny_bind (st_under hg ?_)
    refine bm_if_false rfl ?_
    refine wpAny_bind (wpAny_of_eq (st_fmt _) ?_)
    refine wpAny_bind (wpAny_of_eq st_parse ?_)
    refine wpAny_bind (wpAny_mkBytes ?_ (by decide))
    refine wpAny_bind (wpAny_setField ho rfl (by decide) ?_)
    refine wpAny_pure ?_
    refine ⟨rfl, ?_⟩
    refine h _ s.toks _ ?ga ?gb
    case ga => exact Heap.get?_update_self _ ho rfl
    case gb => exact fun b o e => (Heap.get?_update_other _ _ (Ne.symm (Nat.ne_of_lt (Heap.lt_size e)))).trans (Heap.get?_push_of_some _ e)
end
end Mine
namespace Mine
section
variable {prog : Program} {w : World} {A : Around} {E : Value → Shared → Prop} {s : Shared} {h₀ : Heap} {L : Addr} {m : Str → Option Value} {news : List (Addr × Obj)}
theorem news_lift {h h' : Heap} (F : Fr h₀ L h m) (N : News h₀ L h news) (k : ∀ b o, h.get? b = some o → h'.get? b = some o) : Fr h₀ L h' m ∧ News h₀ L h' news :=
  ⟨⟨F.ns.keeps k, fun b o e => k b o (F.keep b o e), F.above⟩, fun p hp => ⟨k _ _ (N p hp).1, (N p hp).2⟩⟩
theorem struct_K {t : Tok} {Q : Value → Shared → Prop} (hg : A.guards = some []) (F : Fr h₀ L s.heap m) (N : News h₀ L s.heap news)
    (h : ∀ a h' t' k, Fr h₀ L h' m → News h₀ L h' ((a, structObj t') :: news) → (∀ p ∈ news, p.1 < a) → Q (.ref a) { s with heap := h', toks := k }) :
    wpAny (model prog w) A (call (.type "_struct.Struct") [.str (Str.ofString "!I") t]) Q E s := by
  refine call_Struct hg fun h' t' k e kp => ?_
  obtain ⟨F', N'⟩ := news_lift F N kp
  refine h _ h' t' k F' (fun p hp => ?_) fun p hp => Heap.lt_size (N p hp).1
  rcases List.mem_cons.mp hp with rfl | hp
  · refine ⟨e, Nat.ne_of_gt F.ns.lt, ?_⟩
    cases q : h₀.get? s.heap.objs.size with
    | none => rfl
    | some o => exact absurd (Heap.lt_size (F.keep _ _ q)) (Nat.lt_irrefl _)
  · exact N' p hp
end
end Mine
end
section -- Bound
open PySem PySem.W PyProof.Rows PySem.Calls
set_option maxRecDepth 100000
namespace Mine
open Builtin
/-- a bound method of a built-in type, kept as a value -/
abbrev bmObj (id : String) (a : Addr) : Obj := { cls := .type "builtin_function_or_method", data := .fields #[.builtin id, .ref a] }
theorem bm_type_append : typeOf (.builtin "list.append") = pure (.type "method_descriptor") := by show builtinType _ = _; rw [builtinType_eq_fast]; kernel_rfl
theorem bm_type_clear : typeOf (.builtin "list.clear") = pure (.type "method_descriptor") := by show builtinType _ = _; rw [builtinType_eq_fast]; kernel_rfl
theorem bm_type_pack : typeOf (.builtin "_struct.Struct.pack") = pure (.type "method_descriptor") := by show builtinType _ = _; rw [builtinType_eq_fast]; kernel_rfl
theorem bm_look_append : typeLookup (.type "list") "append" = pure (some (.builtin "list.append")) := by rw [typeLookup_type, builtinLookup_eq_fast]; kernel_rfl
theorem bm_look_clear : typeLookup (.type "list") "clear" = pure (some (.builtin "list.clear")) := by rw [typeLookup_type, builtinLookup_eq_fast]; kernel_rfl
theorem bm_look_pack : typeLookup (.type "_struct.Struct") "pack" = pure (some (.builtin "_struct.Struct.pack")) := by rw [typeLookup_type, builtinLookup_eq_fast]; kernel_rfl
theorem bm_md_get : typeLookup (.type "method_descriptor") "__get__" = pure (some (.builtin "method_descriptor.__get__")) := by rw [typeLookup_type, builtinLookup_eq_fast]; kernel_rfl
theorem bm_md_set : typeLookup (.type "method_descriptor") "__set__" = pure none := by rw [typeLookup_type, builtinLookup_eq_fast]; kernel_rfl
theorem bm_md_del : typeLookup (.type "method_descriptor") "__delete__" = pure none := by rw [typeLookup_type, builtinLookup_eq_fast]; kernel_rfl
theorem bm_slot_md : Slot "method_descriptor" "__get__" "method_descriptor.__get__" :=
  .of (owner := "method_descriptor") (n := "__get__") (by rw [typeLookup_type, builtinLookup_eq_fast]; kernel_rfl) (by decide +kernel) (by decide +kernel) (by decide +kernel)
    (by first | exact .inl (by decide +kernel) | exact .inr (by decide +kernel)) (by rw [isSubtype_type]; kernel_rfl)
theorem bm_entry_md : entryFor table "method_descriptor.__get__" = some Builtin.«method_descriptor.__get__» := entryFor_of_tree (by kernel_rfl)
theorem bm_args_md (a b c : Value) : argsOk "method_descriptor.__get__" ⟨[a, b, c], []⟩ := by unfold argsOk; kernel_rfl
theorem bm_no_sgetattr : typeLookup (.type "_struct.Struct") "__getattr__" = pure none := by rw [typeLookup_type, builtinLookup_eq_fast]; kernel_rfl
theorem bm_slot_sga : Slot "_struct.Struct" "__getattribute__" "_struct.Struct.__getattribute__" :=
  .of (owner := "_struct.Struct") (n := "__getattribute__") (by rw [typeLookup_type, builtinLookup_eq_fast]; kernel_rfl) (by decide +kernel) (by decide +kernel) (by decide +kernel)
    (by first | exact .inl (by decide +kernel) | exact .inr (by decide +kernel)) (by rw [isSubtype_type]; kernel_rfl)
theorem bm_entry_sga : entryFor table "_struct.Struct.__getattribute__" = some Builtin.«object.__getattribute__» :=
  entryFor_alias (id' := "object.__getattribute__") (by rw [fastTable_eq_tree]; kernel_rfl) (by first | rfl | decide +kernel) (by decide +kernel) (by rw [fastTable_eq_tree]; kernel_rfl)
theorem bm_args_sga (a b : Value) : argsOk "_struct.Struct.__getattribute__" ⟨[a, b], []⟩ := by unfold argsOk; kernel_rfl
theorem bm_sub_list : isSubtype (.type "list") (.type "list") = pure true := by rw [isSubtype_type]; kernel_rfl
section
variable {prog : Program} {w : World} {A : Around} {E : Value → Shared → Prop} {s : Shared}
theorem md_get {T id : String} {a : Addr} {o : Obj} {Q : Value → Shared → Prop} (ho : s.heap.get? a = some o) (hc : o.cls = .type T)
    (hm : typeOf (.builtin id) = pure (.type "method_descriptor")) (htold : Manifest.toldItsClass.contains id = false) (hn : ".".intercalate (id.cutAt '.').dropLast = T) (hsub : isSubtype (.type T) (.type T) = pure true)
    (h : Q (.ref s.heap.objs.size) { s with heap := s.heap.push (bmObj id a) }) :
    wpAny (model prog w) A (call (.builtin "method_descriptor.__get__") [.builtin id, .ref a, .type T]) Q E s := by
  have hT : s.TypeIs (.builtin id) "method_descriptor" := by
    show typeOf _ = _
    exact hm
  refine wpAny_call_entry bm_slot_md hT bm_entry_md ?_ (bm_args_md _ _ _)
  unfold Builtin.«method_descriptor.__get__»
  refine wpAny_bind (wpAny_of_eq (a := (.builtin id, some (.ref a), some (.type T))) rfl ?_)
  dsimp only
  rw [htold]
  refine bm_if_false rfl ?_
  refine wpAny_bind ?_
  refine wpAny_bind (wpAny_of_eq (a := (Str.ofString ((id.cutAt '.').getLastD ""), .type T)) ?_ ?_)
  · show pure (Str.ofString ((id.cutAt '.').getLastD ""), Value.type (".".intercalate (id.cutAt '.').dropLast)) = _
    rw [hn]
  dsimp only
  refine wpAny_bind (wpAny_isInstance ⟨o, ho, hc⟩ hsub ?_)
  refine bm_if_false rfl ?_
  refine wpAny_pure ?_
  refine wpAny_bind (wpAny_newObj_type ?_)
  exact wpAny_pure ⟨_, rfl, h⟩
end
end Mine
end
section -- Bound2
open PySem PySem.W PyProof.Rows PySem.Calls
set_option maxRecDepth 100000
namespace Mine
open Builtin
section
variable {prog : Program} {w : World} {A : Around} {E : Value → Shared → Prop} {s : Shared}
theorem ga_meets {T id : String} {a : Addr} {dat : Data} {sl : Array (Option Value)} {name : Str} {tk : Tok} {Q : Value → Shared → Prop} (ho : s.heap.get? a = some { cls := .type T, dict := none, data := dat, slots := sl }) (hdata : (∃ xs k, dat = .seq xs k) ∨ ∃ vs, dat = .fields vs)
    (hlook : typeLookup (.type T) name = pure (some (.builtin id))) (hm : typeOf (.builtin id) = pure (.type "method_descriptor")) (htold : Manifest.toldItsClass.contains id = false)
    (hn : ".".intercalate (id.cutAt '.').dropLast = T) (hsub : isSubtype (.type T) (.type T) = pure true)
    (hname : (["__module__", "__name__", "__qualname__", "__doc__", "__annotations__"] : List Str).contains name = false)
    (h : Q (.ref s.heap.objs.size) { s with heap := s.heap.push (bmObj id a) }) :
    wpAny (model prog w) A (Builtin.«object.__getattribute__» ⟨[.ref a, .str name tk], []⟩) (fun fin s' => ∃ v, fin = .done (.ret v) ∧ Q v s') E s := by
  have hT : s.TypeIs (.ref a) T := ⟨_, ho, rfl⟩
  have f1 := bm_md_get
  have f2 := bm_md_set
  have f3 := bm_md_del
  unfold Builtin.«object.__getattribute__»
  rcases hdata with ⟨xs, k, rfl⟩ | ⟨vs, rfl⟩
  · repeat (any_goals (first | assumption | wp_step))
    simp only [hname, Bool.false_eq_true, if_false]
    repeat (any_goals (first | assumption | ((with_reducible show wpAny _ _ (call (Value.builtin "method_descriptor.__get__") _ _) _ _ _); refine md_get ho rfl hm htold hn hsub ?_) | wp_step))
    exact ⟨_, rfl, h⟩
  · repeat (any_goals (first | assumption | wp_step))
    simp only [hname, Bool.false_eq_true, if_false]
    repeat (any_goals (first | assumption | ((with_reducible show wpAny _ _ (call (Value.builtin "method_descriptor.__get__") _ _) _ _ _); refine md_get ho rfl hm htold hn hsub ?_) | wp_step))
    exact ⟨_, rfl, h⟩

theorem getAttr_bm {T ga id : String} {a : Addr} {dat : Data} {sl : Array (Option Value)} {name : Str} {expr : Bool} {Q : Value → Shared → Prop} (ho : s.heap.get? a = some { cls := .type T, dict := none, data := dat, slots := sl }) (hdata : (∃ xs k, dat = .seq xs k) ∨ ∃ vs, dat = .fields vs)
    (slot : Slot T "__getattribute__" ga) (entry : entryFor table ga = some Builtin.«object.__getattribute__») (args : ∀ x y, argsOk ga ⟨[x, y], []⟩)
    (hlook : typeLookup (.type T) name = pure (some (.builtin id))) (hm : typeOf (.builtin id) = pure (.type "method_descriptor")) (htold : Manifest.toldItsClass.contains id = false)
    (hn : ".".intercalate (id.cutAt '.').dropLast = T) (hsub : isSubtype (.type T) (.type T) = pure true)
    (hname : (["__module__", "__name__", "__qualname__", "__doc__", "__annotations__"] : List Str).contains name = false)
    (h : Q (.ref s.heap.objs.size) { s with heap := s.heap.push (bmObj id a), toks := s.toks + 1 }) :
    wpAny (model prog w) A (getAttr (.ref a) name expr) Q E s := by
  obtain ⟨hp, g, d, tk, os⟩ := s
  have hT : ∀ tk', (⟨hp, g, d, tk', os⟩ : Shared).TypeIs (.ref a) T := fun _ => ⟨_, ho, rfl⟩
  have f3 := slot.lookup
  have f4 := slot.bind (.ref a)
  unfold getAttr getAttrBy
  repeat (any_goals (first | assumption | exact hT _ | ((with_reducible show wpAny _ _ (call (Value.builtin ga) _ _) _ _ _); refine wpAny_call_entry slot (hT _) entry (ga_meets ho hdata hlook hm htold hn hsub hname ?_) (args _ _)) | wp_step))
  rw [show (expr && onTheHeap (Value.builtin ga)) = false from Bool.and_false _]
  refine bm_if_false rfl ?_
  unfold boundAndCalled
  rw [f4]
  refine wpAny_bind (wpAny_pure ?_)
  show wpAny _ _ (call (.builtin ga) [.ref a, .str name _]) _ _ _
  refine wpAny_call_entry slot (hT _) entry (ga_meets ho hdata hlook hm htold hn hsub hname ?_) (args _ _)
  exact wpAny_pure h
end
end Mine
end
section -- Bound3
open PySem PySem.W PyProof.Rows PySem.Calls
set_option maxRecDepth 100000
namespace Mine
open Builtin
def BcOk (T id : String) (args : Args) : Prop := (match Manifest.signature? id with | some sig => Bind.checkArgs id { sig with full := toString (Bind.lastOf T) ++ toString "." ++ toString (Bind.lastOf id) } args | none => pure ()) = pure ()
theorem bc_args_append (a x : Value) : BcOk "list" "list.append" ⟨[a, x], []⟩ := by unfold BcOk; kernel_rfl
theorem bc_args_clear (a : Value) : BcOk "list" "list.clear" ⟨[a], []⟩ := by unfold BcOk; kernel_rfl
theorem bc_args_pack (a x : Value) : BcOk "_struct.Struct" "_struct.Struct.pack" ⟨[a, x], []⟩ := by unfold BcOk; kernel_rfl
theorem bc_kind_append : builtinKind "list.append" = some .method := by kernel_rfl
theorem bc_kind_clear : builtinKind "list.clear" = some .method := by kernel_rfl
theorem bc_kind_pack : builtinKind "_struct.Struct.pack" = some .method := by kernel_rfl
theorem bc_nomod_list : isSubtype (.type "list") (.type "module") = pure false := by rw [isSubtype_type]; kernel_rfl
theorem bc_nomod_struct : isSubtype (.type "_struct.Struct") (.type "module") = pure false := by rw [isSubtype_type]; kernel_rfl
theorem bc_var_append : Manifest.varargsMethods.contains "list.append" = false := by decide +kernel
theorem bc_var_clear : Manifest.varargsMethods.contains "list.clear" = false := by decide +kernel
theorem bc_var_pack : Manifest.varargsMethods.contains "_struct.Struct.pack" = false := by decide +kernel
section
variable {prog : Program} {w : World} {A : Around} {E : Value → Shared → Prop} {s : Shared}
theorem bound_check {T id : String} {D : Addr} {dat : Data} {sl : Array (Option Value)} {rest : List Value} {Q : Unit → Shared → Prop} (ho : s.heap.get? D = some { cls := .type T, dict := none, data := dat, slots := sl }) (hdata : (∃ xs k, dat = .seq xs k) ∨ ∃ vs, dat = .fields vs)
    (hk : builtinKind id = some .method) (hv : Manifest.varargsMethods.contains id = false) (hm : isSubtype (.type T) (.type "module") = pure false) (ha : BcOk T id ⟨.ref D :: rest, []⟩)
    (h : Q () s) : wpAny (model prog w) A (checkBoundCall id ⟨.ref D :: rest, []⟩) Q E s := by
  have hT : s.TypeIs (.ref D) T := ⟨_, ho, rfl⟩
  unfold checkBoundCall
  cases hs : Manifest.signature? id with
  | none => exact wpAny_pure h
  | some sig =>
    dsimp only
    rw [hk]
    dsimp only
    refine bm_if_false (by decide) ?_
    refine wpAny_bind (wpAny_isInstance hT hm ?_)
    rw [hv]
    refine bm_if_false rfl ?_
    have e : Bind.checkArgs id { sig with full := toString (Bind.lastOf T) ++ toString "." ++ toString (Bind.lastOf id) } ⟨.ref D :: rest, []⟩ = pure () := by
      have := ha
      unfold BcOk at this
      rw [hs] at this
      exact this
    refine wpAny_bind ?_
    refine wpAny_bind (wpAny_bind (wpAny_load ho ?_))
    refine wpAny_pure (wpAny_pure ?_)
    refine bm_if_false ?_ ?_
    · rcases hdata with ⟨xs, k, rfl⟩ | ⟨vs, rfl⟩ <;> rfl
    refine wpAny_bind ?_
    refine wpAny_bind (wpAny_load ho ?_)
    refine wpAny_pure ?_
    dsimp only
    rw [e]
    exact wpAny_pure h
end
end Mine
end
section -- Bound4
open PySem PySem.W PyProof.Rows PySem.Calls
set_option maxRecDepth 100000
namespace Mine
open Builtin
theorem intBytes_four (i : Int) : Builtin.Struct.intBytes true 4 i = #[((i % 4294967296).toNat / 16777216 % 256).toUInt8, ((i % 4294967296).toNat / 65536 % 256).toUInt8, ((i % 4294967296).toNat / 256 % 256).toUInt8, ((i % 4294967296).toNat % 256).toUInt8] := by
  unfold Builtin.Struct.intBytes Builtin.Memoryview.toLittleEndian
  simp [List.range_succ]
section
variable {prog : Program} {w : World} {A : Around} {E : Value → Shared → Prop} {s : Shared} {h₀ : Heap} {L : Addr} {m : Str → Option Value} {news news' : List (Addr × Obj)}
theorem call_bm {T id : String} {q D : Addr} {dat : Data} {sl : Array (Option Value)} {rest : List Value} {b : Builtin} {Q : Value → Shared → Prop} (hq : s.heap.get? q = some (bmObj id D))
    (ho : s.heap.get? D = some { cls := .type T, dict := none, data := dat, slots := sl }) (hdata : (∃ xs k, dat = .seq xs k) ∨ ∃ vs, dat = .fields vs)
    (hk : builtinKind id = some .method) (hv : Manifest.varargsMethods.contains id = false) (hm : isSubtype (.type T) (.type "module") = pure false) (ha : BcOk T id ⟨.ref D :: rest, []⟩)
    (hquiet : (Code.builtin id ⟨.ref D :: rest, []⟩).quiet = true) (hb : entryFor table id = some b)
    (h : wpAny (model prog w) (A.under (.builtin id ⟨.ref D :: rest, []⟩)) (b ⟨.ref D :: rest, []⟩) (fun fin s' => match fin with | .done f => wants Q E (.ok f) s' | .again c' => c'.quiet = true ∧ codeAny (model prog w) A c' (wants Q E) s') (fun e s' => wants Q E (.error e) s') s) :
    wpAny (model prog w) A (call (.ref q) rest) Q E s := by
  refine wpAny_call (codeAny_of_tree ?_)
  show wpAny _ A.in1 (callAny (.ref q) ⟨rest, []⟩) _ _ s
  simp only [callAny]
  refine wpAny_bind (wpAny_load hq ?_)
  simp only [bmObj, show (Value.type "builtin_function_or_method" == Value.type "method" || Value.type "builtin_function_or_method" == Value.type "builtin_function_or_method" || Value.type "builtin_function_or_method" == Value.type "method-wrapper") = true by decide, if_true]
  refine bm_if_true (by decide) ?_
  refine wpAny_bind (bound_check ho hdata hk hv hm ha ?_)
  refine wpAny_bind (wpAny_pure (wpAny_pure ?_))
  refine ⟨hquiet, codeAny_builtin hb ?_⟩
  exact h

theorem bm_keeper {M : Model} {q : Addr} {id : String} {a : Addr} {h : Heap} (X : h.get? q = some (bmObj id a)) : ∃ k, (k = Keeper.frame ∨ k = Keeper.machine ∨ k = Keeper.boundFrame) ∧ Looks M h (keeperOf (.ref q)) k := by
  refine ⟨.machine, .inr (.inl rfl), (Looks.ld (part := none) X).andThen ?_⟩
  exact .now
theorem callWith_bm {q : Addr} {id : String} {a : Addr} {env : Env} {pos : Pos} {e : Expr} {rest : List Expr} {Q : Value → Shared → Prop} (_N : News h₀ L s.heap news) (_q : (q, bmObj id a) ∈ news)
    (h : wpAny (model prog w) A (spliced (backTo pos (starEach (e :: rest) env))) (fun vs s₁ => s₁.heap.get? q = some (bmObj id a) ∧ wpAny (model prog w) A (call (.ref q) ([] ++ vs)) Q E s₁) E s)
    (he : starEach (e :: rest) env = (false, eval e env) :: starEach rest env := by rfl) (hplain : (backTo pos (starEach rest env)).any (·.1) = false := by rfl) :
    wpAny (model prog w) A (callWith pos (.ref q) [] (backTo pos (starEach (e :: rest) env)) []) Q E s := by
  rw [he] at h ⊢
  exact callWith_of (P := fun h => h.get? q = some (bmObj id a)) (by show ((false || (backTo pos (starEach rest env)).any (·.1)) || false) = false; rw [hplain]; rfl) (fun _ X => bm_keeper X) (evalArgs_plain h)
theorem callWith_bm0 {q : Addr} {id : String} {a : Addr} {env : Env} {pos : Pos} {Q : Value → Shared → Prop} (N : News h₀ L s.heap news) (hq : (q, bmObj id a) ∈ news)
    (h : wpAny (model prog w) A (call (.ref q) ([] ++ [])) Q E s) : wpAny (model prog w) A (callWith pos (.ref q) [] (backTo pos (starEach [] env)) []) Q E s :=
  callWith_of (P := fun h => h.get? q = some (bmObj id a)) rfl (fun _ X => bm_keeper X) (evalArgs_nil3 ⟨(N _ hq).1, h⟩)
theorem append_bm {q D : Addr} {its : Array Value} {n : Nat} {x : Value} {Q : Value → Shared → Prop} (F : Fr h₀ L s.heap m) (N : News h₀ L s.heap news) (hq : (q, bmObj "list.append" D) ∈ news)
    (U : Upd D (listOf its n) (listOf (its.push x) (n + 1)) news news') (h : ∀ h', Fr h₀ L h' m → News h₀ L h' news' → Q .none { s with heap := h' }) (hsz : its.size ≤ sizeLine := by size_fits) :
    wpAny (model prog w) A (call (.ref q) [x]) Q E s := by
  obtain ⟨pre, post, rfl, rfl, a, b⟩ := U.split
  have z := N (D, listOf its n) (List.mem_append.mpr (.inr (.head _)))
  refine call_bm (N _ hq).1 z.1 (.inl ⟨_, _, rfl⟩) bc_kind_append bc_var_append bc_nomod_list (bc_args_append _ _) (plainId_quiet (by decide +kernel) _) entry_list_append ?_
  rw [Around.under_plainId (by decide +kernel) _]
  show wpAny _ _ (updateSeq D (·.push x) >>= fun _ => ret .none) _ _ s
  refine wpAny_bind ?_
  refine wpAny_updateSeq z.1 rfl (wpAny_pure ?_)
  have hs : Heap.SameBut D s.heap (s.heap.update D (Obj.mapSeq (·.push x))) := Heap.SameBut.update ..
  exact h _ (F.change hs z.2.1 z.2.2) (news_set N a b hs (by rw [Heap.get?_update_self _ z.1 (by rw [mapSeq_push]; rfl), mapSeq_push]))
theorem clear_bm {q D : Addr} {its : Array Value} {n : Nat} {Q : Value → Shared → Prop} (F : Fr h₀ L s.heap m) (N : News h₀ L s.heap news) (hq : (q, bmObj "list.clear" D) ∈ news) (hne : its.size ≠ 0)
    (U : Upd D (listOf its n) (listOf #[] (n + 1)) news news') (h : ∀ h', Fr h₀ L h' m → News h₀ L h' news' → Q .none { s with heap := h' }) (hsz : its.size ≤ sizeLine := by size_fits) :
    wpAny (model prog w) A (call (.ref q) []) Q E s := by
  obtain ⟨pre, post, rfl, rfl, a, b⟩ := U.split
  have z := N (D, listOf its n) (List.mem_append.mpr (.inr (.head _)))
  refine call_bm (N _ hq).1 z.1 (.inl ⟨_, _, rfl⟩) bc_kind_clear bc_var_clear bc_nomod_list (bc_args_clear _) (plainId_quiet (by decide +kernel) _) PySem.F.entry_list_clear ?_
  rw [Around.under_plainId (by decide +kernel) _]
  refine PySem.AutoSeq1.list_clear_list_0 D its n hsz prog w A (wants Q E) s ⟨z.1, ?_⟩
  have hs : Heap.SameBut D s.heap (s.heap.update D (Obj.mapSeq (fun _ => #[]))) := Heap.SameBut.update ..
  have e : Obj.mapSeq (fun _ => #[]) (listOf its n) = listOf #[] (n + 1) := by
    show Obj.mk _ _ (.seq #[] (if (#[] : Array Value).size == its.size then n else n + 1)) _ = _
    rw [if_neg (by simpa using fun q => hne q.symm)]
  exact h _ (F.change hs z.2.1 z.2.2) (news_set N a b hs (by rw [Heap.get?_update_self _ z.1 (by rw [e]; rfl), e]))
theorem pack_bm {q D : Addr} {t u : Tok} {i : Int} {Q : Value → Shared → Prop} (N : News h₀ L s.heap news) (hq : (q, bmObj "_struct.Struct.pack" D) ∈ news) (hD : (D, structObj u) ∈ news) (h0 : 0 ≤ i) (h1 : i < 4294967296)
    (h : ∀ t', Q (.bytes (Builtin.Struct.intBytes true 4 i) t') { s with toks := s.toks + 1 }) :
    wpAny (model prog w) A (call (.ref q) [.int i t]) Q E s := by
  have z := (N _ hD).1
  refine call_bm (N _ hq).1 z (.inr ⟨_, rfl⟩) bc_kind_pack bc_var_pack bc_nomod_struct (bc_args_pack _ _) (Code.quiet_builtin _ (by decide +kernel)) st_entry_pack ?_
  unfold Builtin.«_struct.Struct.pack»
  refine wpAny_bind (wpAny_of_eq (a := ()) rfl ?_)
  dsimp only
  refine wpAny_bind ?_
  unfold Builtin.Struct.structFormat
  refine wpAny_bind (wpAny_field z rfl rfl ?_)
  refine bm_if_false rfl ?_
  refine wpAny_bind (wpAny_of_eq (a := #[33, 73]) rfl ?_)
  refine wpAny_bind (wpAny_of_eq st_parse ?_)
  refine wpAny_pure ?_
  unfold Builtin.Struct.packed
  refine bm_if_false rfl ?_
  refine bm_if_false (by decide) ?_
  refine wpAny_bind ?_
  unfold Builtin.Struct.packEach
  refine wpAny_bind ?_
  simp only [List.forIn_cons]
  refine wpAny_bind ?_
  refine bm_if_false (by decide) ?_
  refine bm_if_false (by decide) ?_
  refine wpAny_bind ?_
  simp only [Std.Legacy.Range.forIn_eq_forIn_range']
  show wpAny _ _ (forIn (List.range' 0 1) _ _) _ _ _
  simp only [List.range'_succ, List.range'_zero, List.forIn_cons, List.forIn_nil]
  refine wpAny_bind ?_
  refine wpAny_bind ?_
  refine wpAny_bind (wpAny_attempt (wpAny_of_eq (a := i) rfl ?_))
  refine wpAny_bind (wpAny_pure ?_)
  refine bm_if_false (by simp only [Bool.or_eq_false_iff, decide_eq_false_iff_not]; exact ⟨by show ¬ i < 0; omega, by show ¬ i > 4294967295; omega⟩) ?_
  refine wpAny_pure ?_
  refine wpAny_bind (wpAny_pure (wpAny_pure ?_))
  refine wpAny_pure (wpAny_pure (wpAny_pure (wpAny_pure ?_)))
  have e := intBytes_four i
  generalize ((i % 4294967296).toNat / 16777216 % 256).toUInt8 = a, ((i % 4294967296).toNat / 65536 % 256).toUInt8 = b, ((i % 4294967296).toNat / 256 % 256).toUInt8 = c, ((i % 4294967296).toNat % 256).toUInt8 = d at e
  show wpAny _ _ (mkBytes _ >>= _) _ _ _
  rw [show Builtin.Struct.intBytes fmtI.bigEndian ({ char := 'I', count := 1, offset := 0, size := 4 } : Builtin.Struct.Code).size i = #[a, b, c, d] from e]
  refine wpAny_bind (wpAny_mkBytes ?_ (by show 4 ≤ 16777216; decide))
  rw [e] at h
  exact wpAny_pure (h _)
end
end Mine
end
section -- Bound5
open PySem PySem.W PyProof.Rows PySem.Calls
set_option maxRecDepth 100000
namespace Mine
open Builtin
theorem td_append : Manifest.toldItsClass.contains "list.append" = false := by decide +kernel
theorem td_clear : Manifest.toldItsClass.contains "list.clear" = false := by decide +kernel
theorem td_pack : Manifest.toldItsClass.contains "_struct.Struct.pack" = false := by decide +kernel
theorem cut_append : ".".intercalate ("list.append".cutAt '.').dropLast = "list" := by decide +kernel
theorem cut_clear : ".".intercalate ("list.clear".cutAt '.').dropLast = "list" := by decide +kernel
theorem cut_pack : ".".intercalate ("_struct.Struct.pack".cutAt '.').dropLast = "_struct.Struct" := by decide +kernel
theorem nm_append : (["__module__", "__name__", "__qualname__", "__doc__", "__annotations__"] : List Str).contains "append" = false := by decide +kernel
theorem nm_clear : (["__module__", "__name__", "__qualname__", "__doc__", "__annotations__"] : List Str).contains "clear" = false := by decide +kernel
theorem nm_pack : (["__module__", "__name__", "__qualname__", "__doc__", "__annotations__"] : List Str).contains "pack" = false := by decide +kernel
section
variable {prog : Program} {w : World} {A : Around} {E : Value → Shared → Prop} {s : Shared} {h₀ : Heap} {L : Addr} {m : Str → Option Value} {news news' : List (Addr × Obj)}
theorem attr_append_K {D : Addr} {its : Array Value} {n : Nat} {expr : Bool} {Q : Value → Shared → Prop} (F : Fr h₀ L s.heap m) (N : News h₀ L s.heap news) (hD : (D, listOf its n) ∈ news)
    (h : ∀ q h', Fr h₀ L h' m → News h₀ L h' ((q, bmObj "list.append" D) :: news) → (∀ p ∈ news, p.1 < q) → Q (.ref q) { s with heap := h', toks := s.toks + 1 }) :
    wpAny (model prog w) A (getAttr (.ref D) (Str.ofString "append") expr) Q E s :=
  getAttr_bm (N _ hD).1 (.inl ⟨_, _, rfl⟩) PySem.F.slot_list_getattribute am_entry_list_getattribute PySem.F.args_list_getattribute_2 bm_look_append bm_type_append td_append cut_append bm_sub_list nm_append
    (h _ _ (F.push _) (N.push F _) fun p hp => Heap.lt_size (N p hp).1)
theorem attr_clear_K {D : Addr} {its : Array Value} {n : Nat} {expr : Bool} {Q : Value → Shared → Prop} (F : Fr h₀ L s.heap m) (N : News h₀ L s.heap news) (hD : (D, listOf its n) ∈ news)
    (h : ∀ q h', Fr h₀ L h' m → News h₀ L h' ((q, bmObj "list.clear" D) :: news) → (∀ p ∈ news, p.1 < q) → Q (.ref q) { s with heap := h', toks := s.toks + 1 }) :
    wpAny (model prog w) A (getAttr (.ref D) (Str.ofString "clear") expr) Q E s :=
  getAttr_bm (N _ hD).1 (.inl ⟨_, _, rfl⟩) PySem.F.slot_list_getattribute am_entry_list_getattribute PySem.F.args_list_getattribute_2 bm_look_clear bm_type_clear td_clear cut_clear bm_sub_list nm_clear
    (h _ _ (F.push _) (N.push F _) fun p hp => Heap.lt_size (N p hp).1)
theorem attr_pack_K {D : Addr} {u : Tok} {expr : Bool} {Q : Value → Shared → Prop} (F : Fr h₀ L s.heap m) (N : News h₀ L s.heap news) (hD : (D, structObj u) ∈ news)
    (h : ∀ q h', Fr h₀ L h' m → News h₀ L h' ((q, bmObj "_struct.Struct.pack" D) :: news) → (∀ p ∈ news, p.1 < q) → Q (.ref q) { s with heap := h', toks := s.toks + 1 }) :
    wpAny (model prog w) A (getAttr (.ref D) (Str.ofString "pack") expr) Q E s :=
  getAttr_bm (N _ hD).1 (.inr ⟨_, rfl⟩) bm_slot_sga bm_entry_sga bm_args_sga bm_look_pack bm_type_pack td_pack cut_pack st_sub nm_pack
    (h _ _ (F.push _) (N.push F _) fun p hp => Heap.lt_size (N p hp).1)
theorem bm_at {g : Heap} {q : Addr} {id : String} {a : Addr} {P : Prop} (N : News h₀ L g news) (hq : (q, bmObj id a) ∈ news) (h : P) : g.get? q = some (bmObj id a) ∧ P := ⟨(N _ hq).1, h⟩
end
end Mine
end
section -- Proj
open PySem PySem.W PyProof.Rows
set_option maxRecDepth 100000
set_option maxHeartbeats 4000000
namespace Mine
def stmtAt : List Stmt → Nat → Stmt
  | [], _ => .Pass default
  | s :: _, 0 => s
  | _ :: r, n + 1 => stmtAt r n
def defBody : Stmt → List Stmt
  | .FunctionDef _ _ b _ _ _ _ _ _ _ => b
  | _ => []
def defScope : Stmt → Scope
  | .FunctionDef _ _ _ _ _ _ sc _ _ _ => sc
  | _ => default
def forBody : Stmt → List Stmt
  | .For _ _ b _ _ => b
  | _ => []
def a85Def : Stmt := stmtAt PySem.Challenge.pw_kq0072_01.main.body 6
def a85Body : List Stmt := forBody (stmtAt (defBody a85Def) 8)
def a85Scope : Scope := defScope a85Def
end Mine
end
section -- Loop1
open PySem PySem.W PyProof.Rows
set_option maxRecDepth 100000
set_option maxHeartbeats 4000000
namespace Mine
/-- the state of a85decode's loop behind the octets -/
def acc5 (cs : List Int) : Int := cs.foldl (fun a x => 85 * a + (x - 33)) 0
def dstep (st : List (Array UInt8) × List Int) (x : Int) : List (Array UInt8) × List Int :=
  if 33 ≤ x ∧ x ≤ 117 then (if st.2.length = 4 then (st.1 ++ [Builtin.Struct.intBytes true 4 (acc5 (st.2 ++ [x]))], []) else (st.1, st.2 ++ [x]))
  else if x = 122 then (st.1 ++ [#[0, 0, 0, 0]], st.2) else st
def drun (ks : List Int) : List (Array UInt8) × List Int := ks.foldl dstep ([], [])
inductive BytesAre : List Value → List (Array UInt8) → Prop
  | nil : BytesAre [] []
  | cons (b : Array UInt8) (t : Tok) {vs bs} : BytesAre vs bs → BytesAre (.bytes b t :: vs) (b :: bs)
def DGood (ks : List Int) : Prop := ∀ pre x post, ks = pre ++ x :: post → (x = 122 → (drun pre).2 = []) ∧ (33 ≤ x → x ≤ 117 → (drun pre).2.length = 4 → acc5 ((drun pre).2 ++ [x]) < 4294967296)
def meansB (x : Int) : Bool := (decide (33 ≤ x) && decide (x ≤ 117)) || decide (x = 122)

abbrev a85A (cn : Str) (cs : Scope) (L a : Addr) (ccd : Value) (cl : List (Str × Addr)) (outer : List Env) : Around := ktrTop 351 303 (some []) cn cs L a ccd cl outer
abbrev a85Env (L : Addr) : Env := envOf (Str.ofString "a85decode") a85Scope L 58 (.ref 57)
end Mine
end
section -- InB
open PySem PySem.W PyProof.Rows PySem.Calls
set_option maxRecDepth 100000
namespace Mine
open Builtin
theorem inb_buffer (b : Array UInt8) (t : Tok) : Bytes.buffer? "bytes.__contains__" (.bytes b t) = pure (some b) := by first | rfl | kernel_rfl
theorem inb_ints {b : Array UInt8} {x : Int} (h0 : 0 ≤ x) (h1 : x < 256) : b.contains x.toNat.toUInt8 = (KBw.bInts b).contains x := by
  rw [Bool.eq_iff_iff, Array.contains_iff_mem, List.contains_iff_mem]
  unfold KBw.bInts
  rw [List.mem_map]
  constructor
  · intro h
    refine ⟨_, Array.mem_toList_iff.mpr h, ?_⟩
    rw [Nat.toUInt8, UInt8.toNat_ofNat']
    omega
  · rintro ⟨c, hc, rfl⟩
    have e : ((c.toNat : Int).toNat).toUInt8 = c := by
      rw [Int.toNat_natCast]
      exact UInt8.ofNat_toNat
    rw [e]
    exact Array.mem_toList_iff.mp hc
section
variable {prog : Program} {w : World} {A : Around} {E : Value → Shared → Prop} {s : Shared}
theorem gives_bytes_contains (b : Array UInt8) (t u : Tok) (x : Int) (h0 : 0 ≤ x) (h1 : x < 256) : Gives (Builtin.«bytes.__contains__» ⟨[.bytes b t, .int x u], []⟩) (.val (.bool (b.contains x.toNat.toUInt8))) := by
  intro M A E s P h
  unfold Builtin.«bytes.__contains__»
  refine wpAny_bind (wpAny_of_eq (a := (.bytes b t, [.int x u])) rfl ?_)
  dsimp only
  refine wpAny_bind ?_
  unfold Builtin.Bytes.containsIn
  refine wpAny_bind (wpAny_attempt (wpAny_of_eq (rfl : asIndex (.int x u) = pure x) ?_))
  refine wpAny_bind (wpAny_of_eq (inb_buffer _ _) ?_)
  dsimp only
  refine bm_if_false (by simp only [Bool.or_eq_false_iff, decide_eq_false_iff_not]; omega) ?_
  exact wpAny_pure (wpAny_pure h)
theorem in_bytes {b : Array UInt8} {t u : Tok} {x : Int} {ks : List Int} {Q : Value → Shared → Prop} (hb : KBw.bInts b = ks) (h0 : 0 ≤ x) (h1 : x < 256) (h : Q (.bool (ks.contains x)) s) :
    wpAny (model prog w) A (compareOp .In (.int x u) (.bytes b t)) Q E s := by
  subst hb
  rw [← inb_ints h0 h1] at h
  exact in_gives (PySem.W.typeIs_bytes _ _ _) FB.slot_bytes_contains FB.entry_bytes_contains (FB.args_bytes_contains_2 _ _) (gives_bytes_contains b t u x h0 h1) h
end
end Mine
end
section -- PctC
open PySem PySem.W PyProof.Rows PySem.Calls
set_option maxRecDepth 100000
namespace Mine
open Builtin
abbrev fmtC : Str := Str.mk #[78, 111, 110, 45, 65, 115, 99, 105, 105, 56, 53, 32, 100, 105, 103, 105, 116, 32, 102, 111, 117, 110, 100, 58, 32, 37, 99]
theorem fmtC_eq : Str.ofString "Non-Ascii85 digit found: %c" = fmtC := by decide +kernel
abbrev wordsS : Str := Str.ofString "Non-Ascii85 digit found: "
abbrev foundC (n : Int) : Str := wordsS ++ Str.mk #[n.toNat]
section
variable {M : Model} {A : Around} {E : Value → Shared → Prop} {s : Shared}
theorem percentChar_ok {n : Int} {u : Tok} {Q : Nat → Shared → Prop} (h0 : 0 ≤ n) (h1 : n < 256) (h : Q n.toNat s) : wpAny M A (Builtin.Str.percentChar (.int n u)) Q E s := by
  unfold Builtin.Str.percentChar
  refine wpAny_bind (wpAny_of_eq (a := none) rfl ?_)
  refine wpAny_bind (wpAny_of_eq (a := some (.builtin "int.__index__")) ?_ ?_)
  · show typeLookup (.type "int") "__index__" = _
    rw [typeLookup_type, builtinLookup_eq_fast]; kernel_rfl
  refine bm_if_false rfl ?_
  refine wpAny_bind (wpAny_attempt (wpAny_of_eq (rfl : asIndex (.int n u) = pure n) ?_))
  dsimp only
  refine bm_if_false (by simp only [Bool.or_eq_false_iff, decide_eq_false_iff_not]; omega) ?_
  exact wpAny_pure h
end
theorem meets_c (n : Int) (t u : Tok) (h0 : 0 ≤ n) (h1 : n < 256) : Meets (Builtin.«str.__mod__» ⟨[.str fmtC t, .int n u], []⟩) (fun _ R s => ∀ t' k, R (.ok (.ret (.str (foundC n) t'))) { s with toks := k }) := by
  apply KPc.meets_of
  intro prog w A s Q E hq
  rw [KPc.entry_is]
  unfold Builtin.Str.percentFormat
  refine wpAny_bind (wpAny_isInstance (typeIs_int _ _ _) PySem.F.sub_int_tuple ?_)
  refine wpAny_bind (wpAny_of_eq (a := none) rfl ?_)
  refine wpAny_bind (wpAny_of_eq (KPc.fills _ _) ?_)
  kpc_if
  refine wpAny_bind (wpAny_pure ?_)
  refine wpAny_bind ?_
  rw [KPc.range_list]
  refine KPc.start ?_
  intro _ _
  refine KPc.turn ?_
  kpc_check
  (repeat kpc_if)
  refine wpAny_pure ?_
  kpc_piece
  refine KPc.turn ?_
  kpc_check
  (repeat kpc_if)
  refine wpAny_bind ?_
  refine wpAny_holding ?_
  (repeat kpc_if)
  refine wpAny_bind (percentChar_ok h0 h1 ?_)
  refine wpAny_pure ?_
  refine wpAny_pure ?_
  refine KPc.after_add (by kpc_g) rfl (KPc.obj_none (ite_self _)) ?_
  intro w3 g3
  have hz : 0 + (Str.ofString "Non-Ascii85 digit found: ").length + ({ cps := #[n.toNat] } : Str).length ≤ 16777216 := by
    show 0 + (Str.ofString "Non-Ascii85 digit found: ").length + 1 ≤ 16777216
    decide +kernel
  refine KPc.turn ?_
  refine wpAny_ite (KPc.ite_no (KPc.short_good g3 hz) ?_)
  (repeat kpc_if)
  refine wpAny_pure ?_
  dsimp only
  refine bm_if_false rfl ?_
  refine KPc.finish_ok g3 hz rfl hq
section
variable {prog : Program} {w : World} {A : Around} {E : Value → Shared → Prop} {s : Shared}
theorem mod_c {n : Int} {t u : Tok} {Q : Value → Shared → Prop} (h0 : 0 ≤ n) (h1 : n < 256) (h : ∀ t' k, Q (.str (foundC n) t') { s with toks := k }) :
    wpAny (model prog w) A (binaryOp .Mod (.str (Str.ofString "Non-Ascii85 digit found: %c") t) (.int n u)) Q E s :=
  KPc.mod_lit fmtC_eq (PyProof.Rows.shown (N := 2 ^ 1920) (by omega) (by omega) (Int.le_refl _)) (fun _ _ => meets_c n t u h0 h1) h
end
end Mine
end
section -- LoopP
open PySem PySem.W PyProof.Rows
set_option maxRecDepth 100000
set_option maxHeartbeats 4000000
namespace Mine
local macro_rules | `(tactic| walk_at "callWith") => `(tactic| ((with_reducible show wpAny _ _ (callWith _ (Value.builtin _) (_ :: _) _ _) _ _ _); refine callWith_method1 ?_))
theorem ints_snoc {vs ns n t} (h : IntsAre vs ns) : IntsAre (vs ++ [.int n t]) (ns ++ [n]) := by
  induction h with
  | nil => exact .cons _ _ .nil
  | cons c u _ ih => exact .cons _ _ ih
theorem intsAre_len {vs ns} (h : IntsAre vs ns) : vs.length = ns.length := by
  induction h with
  | nil => rfl
  | cons _ _ _ ih => rw [List.length_cons, List.length_cons, ih]
theorem acc5_snoc {l : List Int} {i : Nat} {n : Int} (h : l[i]? = some n) : acc5 (l.take (i + 1)) = 85 * acc5 (l.take i) + (n - 33) := by
  unfold acc5
  rw [List.take_add_one, h, List.foldl_append]
  rfl
def ifBody : Stmt → List Stmt
  | .If _ b _ _ => b
  | _ => []
def grpBody : List Stmt := ifBody (stmtAt (ifBody (stmtAt a85Body 0)) 1)
def accBody : List Stmt := forBody (stmtAt grpBody 1)
abbrev mapAcc (mx ma : Option Value) (mr : Str → Option Value) : Str → Option Value := fun y => if y = Str.ofString "x" then mx else if y = Str.ofString "acc" then ma else mr y
theorem fr_congr {h₀ h : Heap} {L : Addr} {m m' : Str → Option Value} (F : Fr h₀ L h m) (e : ∀ y, m' y = m y) : Fr h₀ L h m' := by
  have : m' = m := funext e
  rw [this]; exact F
theorem mapAcc_in (mx ma ma' : Option Value) (mr : Str → Option Value) (y : Str) : mapAcc mx ma' mr y = if y = Str.ofString "acc" then ma' else mapAcc mx ma mr y := by
  dsimp only [mapAcc]
  by_cases e : y = Str.ofString "acc"
  · subst e; rw [if_neg (by decide +kernel)]; rfl
  · simp only [if_neg e]
theorem mapAcc_x (mx mx' ma : Option Value) (mr : Str → Option Value) : (fun y => if y = Str.ofString "x" then mx' else mapAcc mx ma mr y) = mapAcc mx' ma mr := by
  funext y
  dsimp only [mapAcc]
  by_cases e : y = Str.ofString "x"
  · rw [if_pos e, if_pos e]
  · simp only [if_neg e]
theorem acc_turn (w : World) (cn : Str) (cs : Scope) (Lc a : Addr) (ccd : Value) (cl : List (Str × Addr)) (outer : List Env) (g : Heap) (L : Addr) (s : Shared) (Q : Flow → Shared → Prop) (E : Value → Shared → Prop) (mr : Str → Option Value) (n z : Int) (t tz : Tok) (news : List (Addr × Obj))
    (X : (hd.heap_39 w.params).In g) (F : Fr g L s.heap (mapAcc (some (.int n t)) (some (.int z tz)) mr)) (N : News g L s.heap news)
    (hc : ∀ h' tk tz', Fr g L h' (mapAcc (some (.int n t)) (some (.int (85 * z + (n - 33)) tz')) mr) → News g L h' news → Q .next { s with heap := h', toks := tk }) :
    wpAny (model PySem.Challenge.rw_kq0072_01.row.prog w) ((a85A cn cs Lc a ccd cl outer).deeper (a85Env L)) (execs accBody (a85Env L)) Q E s := by
  dsimp only [a85Env, accBody, grpBody, ifBody, a85Body, a85Scope, a85Def, stmtAt, defBody, defScope, forBody, PySem.Challenge.pw_kq0072_01, a85A, mapAcc] at F ⊢
  revert X
  k_fill
  intro X
  k_steps
  rename Fr _ _ _ _ => hF
  rename News _ _ _ _ => hN
  exact hc _ _ _ (fr_congr hF fun y => mapAcc_in _ (some (.int z tz)) _ mr y) hN
theorem acc_loop (w : World) (cn : Str) (cs : Scope) (Lc a : Addr) (ccd : Value) (cl : List (Str × Addr)) (outer : List Env) (g : Heap) (L c : Addr) (s : Shared) (Q : Flow → Shared → Prop) (E : Value → Shared → Prop) (mr : Str → Option Value) (mx : Option Value) (tz : Tok) (cv : List Value) (ns : List Int) (nn : Nat) (news : List (Addr × Obj))
    (X : (hd.heap_39 w.params).In g) (hI : IntsAre cv ns) (hm : (c, listOf cv.toArray nn) ∈ news) (F : Fr g L s.heap (mapAcc mx (some (.int 0 tz)) mr)) (N : News g L s.heap news)
    (hc : ∀ h' tk mx' tz', Fr g L h' (mapAcc mx' (some (.int (acc5 ns) tz')) mr) → News g L h' news → Q .next { s with heap := h', toks := tk }) :
    wpAny (model PySem.Challenge.rw_kq0072_01.row.prog w) ((a85A cn cs Lc a ccd cl outer).deeper (a85Env L)) (pyIter (.ref c)) (fun it s₂ => LoopAtV PySem.Challenge.rw_kq0072_01.row.prog w ((a85A cn cs Lc a ccd cl outer).deeper (a85Env L)) g (a85Env L) (Str.ofString "x") accBody Q E it s₂) E s := by
  refine iter_invNL (m₀ := mapAcc mx (some (.int 0 tz)) mr) (news := news) (vs := cv) (ns := ns) (nn := nn)
    (fun j m nx => (∃ mx t, m = mapAcc mx (some (.int (acc5 (ns.take j)) t)) mr) ∧ nx = news) rfl hm hI F N ⟨⟨mx, tz, rfl⟩, rfl⟩ ?turn ?done
  case turn =>
    rintro j n t m₁ news₁ h tk own hi _ hoff _ ⟨⟨mx1, t1, rfl⟩, rfl⟩ F1 N1
    rw [mapAcc_x] at F1
    refine acc_turn w cn cs Lc a ccd cl outer g L _ _ E mr n _ t t1 _ X F1 N1 ?_
    intro h' tk' tz' F' N'
    refine InvEndN.intro F' N' ⟨hm, ⟨some (.int n t), tz', ?_⟩, rfl⟩ rfl (fun p hp => List.mem_append_left _ hp) (fun p hp => List.mem_append_right _ hp)
    rw [acc5_snoc hi]
  case done =>
    rintro m₁ news₁ h tk _ ⟨⟨mx1, t1, rfl⟩, rfl⟩ F1 N1
    rw [List.take_length] at F1
    exact hc h tk mx1 t1 F1 N1
end Mine
end
section -- LoopA
open PySem PySem.W PyProof.Rows
set_option maxRecDepth 100000
set_option maxHeartbeats 4000000
namespace Mine
local macro_rules | `(tactic| walk_at "callWith") => `(tactic| ((with_reducible show wpAny _ _ (callWith _ (Value.builtin _) (_ :: _) _ _) _ _ _); refine callWith_method1 ?_))
local macro_rules | `(tactic| walk_at "call type:_struct.Struct") => `(tactic| (k_here; k_dflt (refine' struct_K ?k1 ?k2 ?k3 ?_; (case k1 => exact rfl); (case k2 => k_asm); (case k3 => k_asm); k_whole); intro l' h' t' k' F' N' l1; (try k_lt l1); (try k_sweep)))
local macro_rules | `(tactic| walk_at "getAttr ref") => `(tactic| (k_here; (with_reducible show wpAny _ _ (getAttr (Value.ref _) (PySem.Str.ofString "append") _) _ _ _); k_dflt (refine' attr_append_K ?k1 ?k2 ?k3 ?_; (case k1 => k_asm); (case k2 => k_asm); (case k3 => k_mem); k_whole); intro q' h' F' N' l1; (try k_lt l1)))
local macro_rules | `(tactic| walk_at "getAttr ref") => `(tactic| (k_here; (with_reducible show wpAny _ _ (getAttr (Value.ref _) (PySem.Str.ofString "clear") _) _ _ _); k_dflt (refine' attr_clear_K ?k1 ?k2 ?k3 ?_; (case k1 => k_asm); (case k2 => k_asm); (case k3 => k_mem); k_whole); intro q' h' F' N' l1; (try k_lt l1)))
local macro_rules | `(tactic| walk_at "getAttr ref") => `(tactic| (k_here; (with_reducible show wpAny _ _ (getAttr (Value.ref _) (PySem.Str.ofString "pack") _) _ _ _); k_dflt (refine' attr_pack_K ?k1 ?k2 ?k3 ?_; (case k1 => k_asm); (case k2 => k_asm); (case k3 => k_mem); k_whole); intro q' h' F' N' l1; (try k_lt l1)))
local macro_rules | `(tactic| walk_at "callWith ref") => `(tactic| (k_here; (with_reducible show wpAny _ _ (callWith _ (Value.ref _) _ (backTo _ (starEach (_ :: _) _)) []) _ _ _); k_dflt (refine' callWith_bm ?k1 ?k2 ?_; (case k1 => k_asm); (case k2 => k_mem); k_whole)))
local macro_rules | `(tactic| walk_at "callWith ref") => `(tactic| (k_here; (with_reducible show wpAny _ _ (callWith _ (Value.ref _) _ (backTo _ (starEach [] _)) []) _ _ _); k_dflt (refine' callWith_bm0 ?k1 ?k2 ?_; (case k1 => k_asm); (case k2 => k_mem); k_whole; try dsimp only [List.nil_append, List.cons_append])))
local macro_rules | `(tactic| walk_at "And") => `(tactic| ((with_reducible show Heap.get? _ _ = some (bmObj _ _) ∧ _); k_dflt (refine' bm_at ?k1 ?k2 ?_; (case k1 => k_asm); (case k2 => k_mem)); (try dsimp only [List.nil_append, List.cons_append])))
local macro_rules | `(tactic| walk_at "call ref") => `(tactic| (k_here; (with_reducible show wpAny _ _ (call (Value.ref _) []) _ _ _); k_dflt (refine' clear_bm ?k1 ?k2 ?k3 ?kne ?k4 ?_ ?z; (case k1 => k_asm); (case k2 => k_asm); (case k3 => k_mem); (case k4 => k_upd); (case kne => simp); (case z => size_fits); k_whole); intro h' F' N'; (try k_sweep)))
local macro_rules | `(tactic| walk_at "call ref") => `(tactic| (k_here; (with_reducible show wpAny _ _ (call (Value.ref _) [_]) _ _ _); k_dflt (refine' append_bm ?k1 ?k2 ?k3 ?k4 ?_ ?z; (case k1 => k_asm); (case k2 => k_asm); (case k3 => k_mem); (case k4 => k_upd); (case z => size_fits); k_whole); intro h' F' N'; (try k_sweep)))
local macro_rules | `(tactic| walk_at "call ref") => `(tactic| (k_here; (with_reducible show wpAny _ _ (call (Value.ref _) [Value.int _ _]) _ _ _); k_dflt (refine' pack_bm ?k1 ?k2 ?k3 ?k4 ?k5 ?_; (case k1 => k_asm); (case k2 => k_mem); (case k3 => k_mem); (case k4 => omega); (case k5 => omega); k_whole); intro t'))
local macro_rules | `(tactic| walk_at "pyIter bytes") => `(tactic| (fail))
local macro_rules | `(tactic| walk_at "compareOp In int bytes") => `(tactic| (k_here; (with_reducible show wpAny _ _ (compareOp CmpOp.In (Value.int _ _) (Value.bytes _ _)) _ _ _); k_dflt (refine' in_bytes ?k1 ?k2 ?k3 ?_; (case k1 => assumption); (case k2 => omega); (case k3 => omega); k_whole)))
local macro_rules | `(tactic| walk_at "binaryOp Mod str int") => `(tactic| (k_here; (with_reducible show wpAny _ _ (binaryOp Operator.Mod (Value.str (PySem.Str.ofString "Non-Ascii85 digit found: %c") _) (Value.int _ _)) _ _ _); k_dflt (refine' mod_c ?k1 ?k2 ?_; (case k1 => omega); (case k2 => omega); k_whole); intro t' k'))

abbrev led (q6 q5 c q4 d q3 st : Addr) (tS : Tok) (da : Array Value) (dn : Nat) (ca : Array Value) (cn : Nat) : List (Addr × Obj) :=
  [(q6, bmObj "list.clear" c), (q5, bmObj "list.append" c), (c, listOf ca cn), (q4, bmObj "list.append" d), (d, listOf da dn), (q3, bmObj "_struct.Struct.pack" st), (st, structObj tS)]
abbrev mapA (q6 q5 c q4 d q3 : Addr) (gb : Array UInt8) (tg : Tok) (rest : Str → Option Value) : Str → Option Value := fun y =>
  if y = Str.ofString "curr_clear" then some (.ref q6) else if y = Str.ofString "curr_append" then some (.ref q5) else if y = Str.ofString "curr" then some (.ref c) else if y = Str.ofString "decoded_append" then some (.ref q4)
  else if y = Str.ofString "decoded" then some (.ref d) else if y = Str.ofString "packI" then some (.ref q3) else if y = Str.ofString "foldspaces" then some (.bool false) else if y = Str.ofString "ignorechars" then some (.bytes gb tg) else rest y
abbrev SameX (m m' : Str → Option Value) : Prop := ∀ y, y ≠ Str.ofString "x" → y ≠ Str.ofString "acc" → m' y = m y
abbrev TEnd (g : Heap) (L : Addr) (m₀ : Str → Option Value) (s : Shared) (P : Prop) (S : Shared → Prop) (news : Tok → List (Addr × Obj)) : Prop :=
  ∀ h' tk m' t', P → Fr g L h' m' → SameX m₀ m' → News g L h' (news t') → S { s with heap := h', toks := tk }

theorem a85_else (w : World) (mg mb : Str → Option Value) (mean : ExcName → Option Value) (cn : Str) (cs : Scope) (Lc a : Addr) (ccd : Value) (cl : List (Str × Addr)) (outer : List Env) (base g : Heap) (L : Addr) (s : Shared) (Q : Flow → Shared → Prop) (E₂ : Value → Shared → Prop)
    (rest : Str → Option Value) (ma : Option Value) (gb : Array UInt8) (gs : List Int) (tg : Tok) (q6 q5 c q4 d q3 st : Addr) (da : Array Value) (dn cn' : Nat) (tS : Tok) (x : Int) (tx : Tok) (own : List (Addr × Obj)) (m₀ : Str → Option Value)
    (hm₀ : m₀ = mapA q6 q5 c q4 d q3 gb tg rest)
    (B : Below (a85A cn cs Lc a ccd cl outer) base (envX cn cs Lc a ccd cl :: outer) g) (X : (hd.heap_39 w.params).In g)
    (T : Top hd.view_39 (looseW hd.view_39 [Str.ofString "bytes_types", Str.ofString "a85decode"]) mean mg mb g) (hk : cs.kind = .function)
    (hd1 : @LT.lt Nat _ st q3) (hd2 : @LT.lt Nat _ q3 d) (hd3 : @LT.lt Nat _ d q4) (hd4 : @LT.lt Nat _ q4 c) (hd5 : @LT.lt Nat _ c q5) (hd6 : @LT.lt Nat _ q5 q6)
    (hoff : OwnOff own [q6, q5, c, q4, d, q3, st]) (hx0 : 0 ≤ x) (hx1 : x < 256) (hgs : KBw.bInts gb = gs) (hgl : gs.length ≤ 1000) (hdl : da.size ≤ 1000) (ca : Array Value) (hxe : ¬ (33 ≤ x ∧ x ≤ 117)) (hxz : x ≠ 122)
    (F : Fr g L s.heap (fun y => if y = Str.ofString "x" then some (.int x tx) else if y = Str.ofString "acc" then ma else mapA q6 q5 c q4 d q3 gb tg rest y))
    (N : News g L s.heap (led q6 q5 c q4 d q3 st tS da dn ca cn' ++ own))
    (hI : TEnd g L m₀ s (meansB x = false ∧ gs.contains x = true) (Q .cont) (fun _ => led q6 q5 c q4 d q3 st tS da dn ca cn' ++ own))
    (hB : ∀ e h' tk t t' lg, meansB x = false → gs.contains x = false → RaisedK base (envX cn cs Lc a ccd cl :: outer) e (.type "ValueError") t [.str (foundC x) t'] lg h' → g.UpToSlots h' → E₂ (.ref e) { s with heap := h', toks := tk }) :
    wpAny (model PySem.Challenge.rw_kq0072_01.row.prog w) ((a85A cn cs Lc a ccd cl outer).deeper (a85Env L)) (execs a85Body (a85Env L)) Q
      (fun e s' => wpAny (model PySem.Challenge.rw_kq0072_01.row.prog w) ((a85A cn cs Lc a ccd cl outer).deeper (a85Env L)) (leaving (a85Env L) e) (fun _ s'' => E₂ e s'') (fun e' s'' => E₂ e' s'') s') s := by
  dsimp only [a85Env, a85Body, a85Scope, a85Def, stmtAt, defBody, defScope, forBody, PySem.Challenge.pw_kq0072_01, List.cons_append, List.nil_append, a85A, mapA, led] at F N B ⊢
  have e33 : (([33] : List UInt8).getD (Int.toNat 0) 0).toNat = 33 := rfl
  have e117 : (([117] : List UInt8).getD (Int.toNat 0) 0).toNat = 117 := rfl
  have e122 : (([122] : List UInt8).getD (Int.toNat 0) 0).toNat = 122 := rfl
  revert X
  k_fill
  intro X
  k_steps
  all_goals (first
    | (exfalso; omega)
    | (refine hB _ _ _ _ _ _ ?_ (by assumption) (by assumption) (by assumption); (simp only [meansB, Bool.or_eq_false_iff, Bool.and_eq_false_iff, decide_eq_false_iff_not]; omega))
    | (dsimp only; refine hI _ _ _ 0 ⟨?_, by assumption⟩ (by assumption) ?_ (by assumption); (case refine_1 => (simp only [meansB, Bool.or_eq_false_iff, Bool.and_eq_false_iff, decide_eq_false_iff_not]; omega)); (case refine_2 => (intro y h1 h2; subst hm₀; first | (simp only [if_neg h1, if_neg h2]; done) | rfl))))

theorem a85_zed (w : World) (mg mb : Str → Option Value) (mean : ExcName → Option Value) (cn : Str) (cs : Scope) (Lc a : Addr) (ccd : Value) (cl : List (Str × Addr)) (outer : List Env) (base g : Heap) (L : Addr) (s : Shared) (Q : Flow → Shared → Prop) (E₂ : Value → Shared → Prop)
    (rest : Str → Option Value) (ma : Option Value) (gb : Array UInt8) (gs : List Int) (tg : Tok) (q6 q5 c q4 d q3 st : Addr) (da : Array Value) (dn cn' : Nat) (tS : Tok) (x : Int) (tx : Tok) (own : List (Addr × Obj)) (m₀ : Str → Option Value)
    (hm₀ : m₀ = mapA q6 q5 c q4 d q3 gb tg rest)
    (B : Below (a85A cn cs Lc a ccd cl outer) base (envX cn cs Lc a ccd cl :: outer) g) (X : (hd.heap_39 w.params).In g)
    (T : Top hd.view_39 (looseW hd.view_39 [Str.ofString "bytes_types", Str.ofString "a85decode"]) mean mg mb g) (hk : cs.kind = .function)
    (hd1 : @LT.lt Nat _ st q3) (hd2 : @LT.lt Nat _ q3 d) (hd3 : @LT.lt Nat _ d q4) (hd4 : @LT.lt Nat _ q4 c) (hd5 : @LT.lt Nat _ c q5) (hd6 : @LT.lt Nat _ q5 q6)
    (hoff : OwnOff own [q6, q5, c, q4, d, q3, st]) (hx0 : 0 ≤ x) (hx1 : x < 256) (hgs : KBw.bInts gb = gs) (hgl : gs.length ≤ 1000) (hdl : da.size ≤ 1000) (hxz : x = 122)
    (F : Fr g L s.heap (fun y => if y = Str.ofString "x" then some (.int x tx) else if y = Str.ofString "acc" then ma else mapA q6 q5 c q4 d q3 gb tg rest y))
    (N : News g L s.heap (led q6 q5 c q4 d q3 st tS da dn #[] cn' ++ own))
    (hZ : TEnd g L m₀ s (x = 122) (Q .next) (fun t' => led q6 q5 c q4 d q3 st tS (da.push (.bytes #[0, 0, 0, 0] t')) (dn + 1) #[] cn' ++ own)) :
    wpAny (model PySem.Challenge.rw_kq0072_01.row.prog w) ((a85A cn cs Lc a ccd cl outer).deeper (a85Env L)) (execs a85Body (a85Env L)) Q
      (fun e s' => wpAny (model PySem.Challenge.rw_kq0072_01.row.prog w) ((a85A cn cs Lc a ccd cl outer).deeper (a85Env L)) (leaving (a85Env L) e) (fun _ s'' => E₂ e s'') (fun e' s'' => E₂ e' s'') s') s := by
  dsimp only [a85Env, a85Body, a85Scope, a85Def, stmtAt, defBody, defScope, forBody, PySem.Challenge.pw_kq0072_01, List.cons_append, List.nil_append, a85A, mapA, led] at F N B ⊢
  have e33 : (([33] : List UInt8).getD (Int.toNat 0) 0).toNat = 33 := rfl
  have e117 : (([117] : List UInt8).getD (Int.toNat 0) 0).toNat = 117 := rfl
  have e122 : (([122] : List UInt8).getD (Int.toNat 0) 0).toNat = 122 := rfl
  revert X
  k_fill
  intro X
  k_steps
  all_goals (first
    | (exfalso; omega)
    | (refine hZ _ _ _ _ (by omega) (by assumption) ?_ (by assumption); (intro y h1 h2; subst hm₀; first | (simp only [if_neg h1, if_neg h2]; done) | rfl)))

structure HoldOnL (p : Prop) : Prop where
  go : p
theorem append_bmL {prog : Program} {w : World} {A : Around} {E : Value → Shared → Prop} {s : Shared} {h₀ : Heap} {L : Addr} {m : Str → Option Value} {news news' : List (Addr × Obj)} {q D : Addr} {vs : List Value} {n : Nat} {x : Value} {Q : Value → Shared → Prop} (F : Fr h₀ L s.heap m) (N : News h₀ L s.heap news) (hq : (q, bmObj "list.append" D) ∈ news)
    (U : Upd D (listOf vs.toArray n) (listOf (vs ++ [x]).toArray (n + 1)) news news') (h : ∀ h', Fr h₀ L h' m → News h₀ L h' news' → Q .none { s with heap := h' }) (hsz : vs.length ≤ 4) :
    wpAny (model prog w) A (call (.ref q) [x]) Q E s := by
  rw [show (vs ++ [x]).toArray = vs.toArray.push x from (List.push_toArray vs x).symm] at U
  exact append_bm F N hq U h (by rw [List.size_toArray, sizeLine_eq]; omega)
local macro_rules | `(tactic| walk_at "call ref") => `(tactic| (k_here; (with_reducible show wpAny _ _ (call (Value.ref _) [Value.int _ _]) _ _ _); k_dflt (refine' append_bmL ?k1 ?k2 ?k3 ?k4 ?_ ?z; (case k1 => k_asm); (case k2 => k_asm); (case k3 => k_mem); (case k4 => k_upd); (case z => omega); k_whole); intro h' F' N'; (try k_sweep)))
local macro_rules | `(tactic| walk_at "exec For Name Name cons nil") => `(tactic| (k_here; (rename Fr _ _ _ _ => lF'); (with_unfolding_all refine' For_invVF lF' ?k1 ?k2 ?_; (case k1 => exact rfl); (case k2 => exact rfl); k_whole)))
local macro_rules | `(tactic| walk_at "pyIter ref") => `(tactic| (k_here; refine HoldOnL.go ?_))
theorem a85_in (w : World) (mg mb : Str → Option Value) (mean : ExcName → Option Value) (cn : Str) (cs : Scope) (Lc a : Addr) (ccd : Value) (cl : List (Str × Addr)) (outer : List Env) (base g : Heap) (L : Addr) (s : Shared) (Q : Flow → Shared → Prop) (E₂ : Value → Shared → Prop)
    (rest : Str → Option Value) (ma : Option Value) (gb : Array UInt8) (gs : List Int) (tg : Tok) (q6 q5 c q4 d q3 st : Addr) (da : Array Value) (dn cn' : Nat) (tS : Tok) (x : Int) (tx : Tok) (own : List (Addr × Obj)) (m₀ : Str → Option Value)
    (hm₀ : m₀ = mapA q6 q5 c q4 d q3 gb tg rest)
    (B : Below (a85A cn cs Lc a ccd cl outer) base (envX cn cs Lc a ccd cl :: outer) g) (X : (hd.heap_39 w.params).In g)
    (T : Top hd.view_39 (looseW hd.view_39 [Str.ofString "bytes_types", Str.ofString "a85decode"]) mean mg mb g) (hk : cs.kind = .function)
    (hd1 : @LT.lt Nat _ st q3) (hd2 : @LT.lt Nat _ q3 d) (hd3 : @LT.lt Nat _ d q4) (hd4 : @LT.lt Nat _ q4 c) (hd5 : @LT.lt Nat _ c q5) (hd6 : @LT.lt Nat _ q5 q6)
    (hoff : OwnOff own [q6, q5, c, q4, d, q3, st]) (hx0 : 0 ≤ x) (hx1 : x < 256) (hgs : KBw.bInts gb = gs) (hgl : gs.length ≤ 1000) (hdl : da.size ≤ 1000) (hxr : 33 ≤ x ∧ x ≤ 117) (cv : List Value) (ns : List Int) (hcv : IntsAre cv ns) (hnl : ns.length ≤ 4) (hac0 : 0 ≤ acc5 (ns ++ [x])) (hac1 : ns.length = 4 → acc5 (ns ++ [x]) < 4294967296)
    (F : Fr g L s.heap (fun y => if y = Str.ofString "x" then some (.int x tx) else if y = Str.ofString "acc" then ma else mapA q6 q5 c q4 d q3 gb tg rest y))
    (N : News g L s.heap (led q6 q5 c q4 d q3 st tS da dn cv.toArray cn' ++ own))
    (hA : ns.length ≠ 4 → TEnd g L m₀ s (33 ≤ x ∧ x ≤ 117) (Q .next) (fun _ => led q6 q5 c q4 d q3 st tS da dn (cv ++ [Value.int x tx]).toArray (cn' + 1) ++ own))
    (hG : ns.length = 4 → TEnd g L m₀ s (33 ≤ x ∧ x ≤ 117) (Q .next) (fun t' => led q6 q5 c q4 d q3 st tS (da.push (.bytes (Builtin.Struct.intBytes true 4 (acc5 (ns ++ [x]))) t')) (dn + 1) #[] (cn' + 1 + 1) ++ own)) :
    wpAny (model PySem.Challenge.rw_kq0072_01.row.prog w) ((a85A cn cs Lc a ccd cl outer).deeper (a85Env L)) (execs a85Body (a85Env L)) Q
      (fun e s' => wpAny (model PySem.Challenge.rw_kq0072_01.row.prog w) ((a85A cn cs Lc a ccd cl outer).deeper (a85Env L)) (leaving (a85Env L) e) (fun _ s'' => E₂ e s'') (fun e' s'' => E₂ e' s'') s') s := by
  dsimp only [a85Env, a85Body, a85Scope, a85Def, stmtAt, defBody, defScope, forBody, PySem.Challenge.pw_kq0072_01, List.cons_append, List.nil_append, a85A, mapA, led] at F N B ⊢
  have e33 : (([33] : List UInt8).getD (Int.toNat 0) 0).toNat = 33 := rfl
  have e117 : (([117] : List UInt8).getD (Int.toNat 0) 0).toNat = 117 := rfl
  have e122 : (([122] : List UInt8).getD (Int.toNat 0) 0).toNat = 122 := rfl
  have hcl : cv.length ≤ 4 := by rw [intsAre_len hcv]; omega
  have hcx : IntsAre (cv ++ [Value.int x tx]) (ns ++ [x]) := ints_snoc hcv
  have hnx : (ns ++ [x]).length = ns.length + 1 := by rw [List.length_append]; rfl
  revert X
  k_fill
  intro X
  k_steps
  · refine HoldOnL.mk ?_
    rename Fr _ _ _ _ => hF
    rename News _ _ _ _ => hN
    rename _ = (5 : Int) => h5
    have h4 : ns.length = 4 := by omega
    have hac1 := hac1 h4
    refine acc_loop w cn cs Lc a ccd cl outer g L c _ _ _ (mapA q6 q5 c q4 d q3 gb tg rest) (some (.int x tx)) _ (cv ++ [Value.int x tx]) (ns ++ [x]) (cn' + 1) _ X hcx ?hm (fr_congr hF fun y => mapAcc_in _ ma _ _ y) hN ?_
    case hm => k_mem
    intro h2 tk2 mx tz2 F2 N2
    clear hF hN
    k_steps
    refine hG h4 _ _ _ _ ⟨by omega, by omega⟩ (by assumption) ?_ (by assumption)
    intro y h1 h2; subst hm₀; dsimp only [mapAcc]; rw [if_neg h1, if_neg h2]
  · have h4 : ns.length ≠ 4 := by omega
    refine hA h4 _ _ _ 0 ⟨by omega, by omega⟩ (by assumption) ?_ (by assumption)
    intro y h1 h2; subst hm₀; first | (simp only [if_neg h1, if_neg h2]; done) | rfl
end Mine
end
section -- LoopB
open PySem PySem.W PyProof.Rows
set_option maxRecDepth 100000
set_option maxHeartbeats 4000000
namespace Mine
theorem BytesAre.push {vs bs b t} (h : BytesAre vs bs) : BytesAre (vs ++ [.bytes b t]) (bs ++ [b]) := by
  induction h with
  | nil => exact .cons _ _ .nil
  | cons c u _ ih => exact .cons _ _ ih
theorem drun_snoc (pre : List Int) (x : Int) : drun (pre ++ [x]) = dstep (drun pre) x := by
  unfold drun
  rw [List.foldl_append]
  rfl
structure DInv (gs pre : List Int) (da ca : Array Value) : Prop where
  outB : BytesAre da.toList (drun pre).1
  curI : IntsAre ca.toList (drun pre).2
  len : (drun pre).2.length ≤ 4
  within : ∀ c ∈ (drun pre).2, 33 ≤ c ∧ c ≤ 117
  size : da.size ≤ pre.length
  told : ∀ x ∈ pre, meansB x = true ∨ gs.contains x = true
theorem means_iff {x : Int} : meansB x = true ↔ (33 ≤ x ∧ x ≤ 117) ∨ x = 122 := by
  simp [meansB]
theorem DInv.start (gs : List Int) : DInv gs [] #[] #[] := ⟨.nil, .nil, by decide, (fun _ h => nomatch h), Nat.le_refl _, fun _ h => nomatch h⟩
theorem DInv.skip {gs pre : List Int} {da ca : Array Value} {x : Int} (D : DInv gs pre da ca) (h1 : meansB x = false) (h2 : gs.contains x = true) : DInv gs (pre ++ [x]) da ca := by
  have e : drun (pre ++ [x]) = drun pre := by
    rw [drun_snoc]
    have h : ¬ ((33 ≤ x ∧ x ≤ 117) ∨ x = 122) := fun h => by rw [means_iff.mpr h] at h1; cases h1
    unfold dstep
    rw [if_neg fun q => h (.inl q), if_neg fun q => h (.inr q)]
  refine ⟨by rw [e]; exact D.outB, by rw [e]; exact D.curI, by rw [e]; exact D.len, by rw [e]; exact D.within, by rw [List.length_append]; exact Nat.le_trans D.size (Nat.le_add_right _ _), fun y hy => ?_⟩
  rcases List.mem_append.mp hy with hy | hy
  · exact D.told y hy
  · rw [List.mem_singleton.mp hy]; exact .inr h2
theorem told_snoc {gs pre : List Int} {da ca : Array Value} {x : Int} (D : DInv gs pre da ca) (h : meansB x = true) : ∀ y ∈ pre ++ [x], meansB y = true ∨ gs.contains y = true := fun y hy => by
  rcases List.mem_append.mp hy with hy | hy
  · exact D.told y hy
  · rw [List.mem_singleton.mp hy]; exact .inl h
theorem DInv.digit {gs pre : List Int} {da ca : Array Value} {x : Int} {t : Tok} (D : DInv gs pre da ca) (h : 33 ≤ x ∧ x ≤ 117) (hl : (drun pre).2.length ≠ 4) : DInv gs (pre ++ [x]) da (ca.push (.int x t)) := by
  have e : drun (pre ++ [x]) = ((drun pre).1, (drun pre).2 ++ [x]) := by
    rw [drun_snoc]
    unfold dstep
    rw [if_pos h, if_neg hl]
  refine ⟨by rw [e]; exact D.outB, ?_, ?_, fun c hc => ?_, by rw [List.length_append]; exact Nat.le_trans D.size (Nat.le_add_right _ _), told_snoc D (means_iff.mpr (.inl h))⟩
  · rw [e, Array.toList_push]; exact ints_snoc D.curI
  · rw [e, List.length_append]; have := D.len; simp only [List.length_cons, List.length_nil]; omega
  · rw [e] at hc
    rcases List.mem_append.mp hc with hc | hc
    · exact D.within c hc
    · rw [List.mem_singleton.mp hc]; exact h
theorem DInv.group {gs pre : List Int} {da ca : Array Value} {x : Int} {t : Tok} (D : DInv gs pre da ca) (h : 33 ≤ x ∧ x ≤ 117) (hl : (drun pre).2.length = 4) :
    DInv gs (pre ++ [x]) (da.push (.bytes (Builtin.Struct.intBytes true 4 (acc5 ((drun pre).2 ++ [x]))) t)) #[] := by
  have e : drun (pre ++ [x]) = ((drun pre).1 ++ [Builtin.Struct.intBytes true 4 (acc5 ((drun pre).2 ++ [x]))], []) := by
    rw [drun_snoc]
    unfold dstep
    rw [if_pos h, if_pos hl]
  refine ⟨?_, ?_, ?_, fun c hc => ?_, ?_, told_snoc D (means_iff.mpr (.inl h))⟩
  · rw [e, Array.toList_push]; exact D.outB.push
  · rw [e]; exact .nil
  · rw [e]; exact Nat.zero_le _
  · rw [e] at hc; cases hc
  · rw [List.length_append, Array.size_push]; have := D.size; simp only [List.length_cons, List.length_nil]; omega
theorem DInv.zed {gs pre : List Int} {da ca : Array Value} {t : Tok} (D : DInv gs pre da ca) (hl : (drun pre).2 = []) :
    DInv gs (pre ++ [122]) (da.push (.bytes #[0, 0, 0, 0] t)) #[] := by
  have e : drun (pre ++ [122]) = ((drun pre).1 ++ [#[0, 0, 0, 0]], []) := by
    rw [drun_snoc]
    unfold dstep
    rw [if_neg (by decide), if_pos rfl, hl]
  refine ⟨?_, ?_, ?_, fun c hc => ?_, ?_, told_snoc D (means_iff.mpr (.inr rfl))⟩
  · rw [e, Array.toList_push]; exact D.outB.push
  · rw [e]; exact .nil
  · rw [e]; exact Nat.zero_le _
  · rw [e] at hc; cases hc
  · rw [List.length_append, Array.size_push]; have := D.size; simp only [List.length_cons, List.length_nil]; omega
end Mine
end
section -- LoopC
open PySem PySem.W PyProof.Rows
set_option maxRecDepth 100000
set_option maxHeartbeats 4000000
namespace Mine
theorem ints_nil {ca : Array Value} (h : IntsAre ca.toList []) : ca = #[] := by
  cases ca with | mk l => cases h; rfl
theorem acc5_pos : ∀ l : List Int, (∀ y ∈ l, 33 ≤ y) → 0 ≤ acc5 l := by
  have : ∀ (l : List Int) (a : Int), 0 ≤ a → (∀ y ∈ l, 33 ≤ y) → 0 ≤ l.foldl (fun a x => 85 * a + (x - 33)) a := by
    intro l
    induction l with
    | nil => intro a h _; exact h
    | cons x l ih =>
      intro a h hl
      have := hl x (List.mem_cons_self ..)
      exact ih (85 * a + (x - 33)) (by omega) fun y hy => hl y (List.mem_cons_of_mem _ hy)
  exact fun l h => this l 0 (Int.le_refl _) h
theorem a85_loop (w : World) (mg mb : Str → Option Value) (mean : ExcName → Option Value) (cn : Str) (cs : Scope) (Lc a : Addr) (ccd : Value) (cl : List (Str × Addr)) (outer : List Env) (base g : Heap) (L : Addr) (s : Shared) (Q : Flow → Shared → Prop) (E₂ : Value → Shared → Prop)
    (rest : Str → Option Value) (gb bb : Array UInt8) (gs ks : List Int) (tg tb : Tok) (q6 q5 c q4 d q3 st : Addr) (tS : Tok)
    (B : Below (a85A cn cs Lc a ccd cl outer) base (envX cn cs Lc a ccd cl :: outer) g) (X : (hd.heap_39 w.params).In g)
    (T : Top hd.view_39 (looseW hd.view_39 [Str.ofString "bytes_types", Str.ofString "a85decode"]) mean mg mb g) (hk : cs.kind = .function)
    (hd1 : @LT.lt Nat _ st q3) (hd2 : @LT.lt Nat _ q3 d) (hd3 : @LT.lt Nat _ d q4) (hd4 : @LT.lt Nat _ q4 c) (hd5 : @LT.lt Nat _ c q5) (hd6 : @LT.lt Nat _ q5 q6)
    (hgs : KBw.bInts gb = gs) (hgl : gs.length ≤ 1000) (hks : KBw.bInts bb = ks) (hkl : ks.length ≤ 1000) (hgood : DGood ks)
    (F : Fr g L s.heap (mapA q6 q5 c q4 d q3 gb tg rest)) (N : News g L s.heap (led q6 q5 c q4 d q3 st tS #[] 0 #[] 0))
    (hdone : ∀ h tk m' da dn ca cn', DInv gs ks da ca → Fr g L h m' → SameX (mapA q6 q5 c q4 d q3 gb tg rest) m' → News g L h (led q6 q5 c q4 d q3 st tS da dn ca cn') → Q .next { s with heap := h, toks := tk })
    (hbad : ∀ e h' tk t t' lg x pre post, ks = pre ++ x :: post → (∀ y ∈ pre, meansB y = true ∨ gs.contains y = true) → meansB x = false → gs.contains x = false →
      RaisedK base (envX cn cs Lc a ccd cl :: outer) e (.type "ValueError") t [.str (foundC x) t'] lg h' → g.UpToSlots h' → E₂ (.ref e) { s with heap := h', toks := tk }) :
    wpAny (model PySem.Challenge.rw_kq0072_01.row.prog w) ((a85A cn cs Lc a ccd cl outer).deeper (a85Env L)) (pyIter (.bytes bb tb))
      (fun it s₂ => LoopAtV PySem.Challenge.rw_kq0072_01.row.prog w ((a85A cn cs Lc a ccd cl outer).deeper (a85Env L)) g (a85Env L) (Str.ofString "x") a85Body Q
        (fun e s' => wpAny (model PySem.Challenge.rw_kq0072_01.row.prog w) ((a85A cn cs Lc a ccd cl outer).deeper (a85Env L)) (leaving (a85Env L) e) (fun _ s'' => E₂ e s'') (fun e' s'' => E₂ e' s'') s') it s₂)
      (fun e s' => wpAny (model PySem.Challenge.rw_kq0072_01.row.prog w) ((a85A cn cs Lc a ccd cl outer).deeper (a85Env L)) (leaving (a85Env L) e) (fun _ s'' => E₂ e s'') (fun e' s'' => E₂ e' s'') s') s := by
  refine KBmo.iter_bytesN (news := led q6 q5 c q4 d q3 st tS #[] 0 #[] 0) (m₀ := mapA q6 q5 c q4 d q3 gb tg rest)
    (fun i m nx => SameX (mapA q6 q5 c q4 d q3 gb tg rest) m ∧ ∃ da dn ca cn', nx = led q6 q5 c q4 d q3 st tS da dn ca cn' ∧ DInv gs (ks.take i) da ca) hks rfl F N ⟨fun _ _ _ => rfl, _, _, _, _, rfl, DInv.start gs⟩ ?_ ?_
  · rintro i k t m₁ news₁ h tk own hi hk0 hk1 hoff ⟨hsame, da, dn, ca, cn', rfl, D⟩ F₁ N₁
    have es : ks.take (i + 1) = ks.take i ++ [k] := by simp [List.take_add_one, hi]
    have ek : ks = ks.take i ++ k :: ks.drop (i + 1) := by
      have ht := List.take_append_drop (i + 1) ks
      rw [es, List.append_assoc] at ht
      exact ht.symm
    obtain ⟨g1, g2⟩ := hgood _ _ _ ek
    rw [es]
    have F₂ := fr_congr (m' := fun y => if y = Str.ofString "x" then some (.int k t) else if y = Str.ofString "acc" then m₁ (Str.ofString "acc") else mapA q6 q5 c q4 d q3 gb tg rest y) F₁ (fun y => by
      by_cases h1 : y = Str.ofString "x"
      · rw [if_pos h1, if_pos h1]
      · rw [if_neg h1, if_neg h1]
        by_cases h2 : y = Str.ofString "acc"
        · rw [if_pos h2, h2]
        · rw [if_neg h2]; exact (hsame y h1 h2).symm)
    have hsz : da.size ≤ 1000 := Nat.le_trans D.size (Nat.le_trans (by rw [List.length_take]; exact Nat.min_le_right _ _) hkl)
    have Dlen := D.len
    have Dw := D.within
    have Di := D.curI
    have fin : ∀ (f : Flow) (da' : Array Value) (dn' : Nat) (ca' : Array Value) (cn'' : Nat) (h' : Heap) (tk' : Nat) (m' : Str → Option Value), (f = .next ∨ f = .cont) → DInv gs (ks.take i ++ [k]) da' ca' → Fr g L h' m' → SameX (mapA q6 q5 c q4 d q3 gb tg rest) m' → News g L h' (led q6 q5 c q4 d q3 st tS da' dn' ca' cn'' ++ own) →
        InvPostN g (a85Env L).locals (fun m nx => SameX (mapA q6 q5 c q4 d q3 gb tg rest) m ∧ ∃ da dn ca cn', nx = led q6 q5 c q4 d q3 st tS da dn ca cn' ∧ DInv gs (ks.take i ++ [k]) da ca) own ((led q6 q5 c q4 d q3 st tS #[] 0 #[] 0).map (·.1)) { s with heap := h, toks := tk } Q f { s with heap := h', toks := tk' } := by
      intro f da' dn' ca' cn'' h' tk' m' hf D' F' hs' N'
      have e := InvEndN.intro (adr := (led q6 q5 c q4 d q3 st tS #[] 0 #[] 0).map (·.1)) (s₁ := { s with heap := h, toks := tk }) (tk := tk') F' N' (J := fun m nx => SameX (mapA q6 q5 c q4 d q3 gb tg rest) m ∧ ∃ da dn ca cn', nx = led q6 q5 c q4 d q3 st tS da dn ca cn' ∧ DInv gs (ks.take i ++ [k]) da ca)
        ⟨hs', da', dn', ca', cn'', rfl, D'⟩ rfl (fun p hp => List.mem_append_left _ hp) (fun p hp => List.mem_append_right _ hp)
      rcases hf with rfl | rfl <;> exact e
    have bad : ∀ e h' tk t t' lg, meansB k = false → gs.contains k = false → RaisedK base (envX cn cs Lc a ccd cl :: outer) e (.type "ValueError") t [.str (foundC k) t'] lg h' → g.UpToSlots h' → E₂ (.ref e) { s with heap := h', toks := tk } :=
      fun e h' tk t t' lg h1 h2 h3 h4 => hbad e h' tk t t' lg k _ _ ek D.told h1 h2 h3 h4
    by_cases hxr : 33 ≤ k ∧ k ≤ 117
    · obtain ⟨l⟩ := ca
      refine a85_in w mg mb mean cn cs Lc a ccd cl outer base g L { s with heap := h, toks := tk } _ E₂ rest (m₁ (Str.ofString "acc")) gb gs tg q6 q5 c q4 d q3 st da dn cn' tS k t own _ rfl B X T hk hd1 hd2 hd3 hd4 hd5 hd6 hoff hk0 hk1 hgs hgl hsz hxr l _ Di Dlen (acc5_pos _ fun y hy => ?_) (g2 hxr.1 hxr.2) F₂ N₁ (fun h4 h' tk' m' t' hP F' hs' N' => ?_) (fun h4 h' tk' m' t' hP F' hs' N' => fin _ _ _ _ _ _ _ _ (.inl rfl) (DInv.group (t := t') D hP h4) F' hs' N')
      · rcases List.mem_append.mp hy with hy | hy
        · exact (Dw y hy).1
        · rw [List.mem_singleton.mp hy]; exact hxr.1
      · have e := DInv.digit (t := t) D hP h4
        rw [show (Array.push ⟨l⟩ (Value.int k t)) = (l ++ [Value.int k t]).toArray from List.push_toArray l _] at e
        exact fin _ _ _ _ _ _ _ _ (.inl rfl) e F' hs' N'
    by_cases hxz : k = 122
    · have hcs := g1 hxz
      rw [hcs] at Di
      obtain rfl := ints_nil Di
      exact a85_zed w mg mb mean cn cs Lc a ccd cl outer base g L { s with heap := h, toks := tk } _ E₂ rest (m₁ (Str.ofString "acc")) gb gs tg q6 q5 c q4 d q3 st da dn cn' tS k t own _ rfl B X T hk hd1 hd2 hd3 hd4 hd5 hd6 hoff hk0 hk1 hgs hgl hsz hxz F₂ N₁ (fun h' tk' m' t' hP F' hs' N' => fin _ _ _ _ _ _ _ _ (.inl rfl) (by subst hP; exact DInv.zed (t := t') D hcs) F' hs' N')
    exact a85_else w mg mb mean cn cs Lc a ccd cl outer base g L { s with heap := h, toks := tk } _ E₂ rest (m₁ (Str.ofString "acc")) gb gs tg q6 q5 c q4 d q3 st da dn cn' tS k t own _ rfl B X T hk hd1 hd2 hd3 hd4 hd5 hd6 hoff hk0 hk1 hgs hgl hsz _ hxr hxz F₂ N₁ (fun h' tk' m' t' hP F' hs' N' => fin _ _ _ _ _ _ _ _ (.inr rfl) (DInv.skip D hP.1 hP.2) F' hs' N') bad
  · rintro m₁ news₁ h tk ⟨hsame, da, dn, ca, cn', rfl, D⟩ F₁ N₁
    rw [List.take_length] at D
    exact hdone h tk m₁ da dn ca cn' D F₁ hsame N₁
end Mine
end
section -- BJoin
open PySem PySem.W PyProof.Rows PySem.Calls
set_option maxRecDepth 100000
namespace Mine
open Builtin
theorem slot_bytes_join : Slot "bytes" "join" "bytes.join" :=
  .of (owner := "bytes") (n := "join") (by rw [typeLookup_type, builtinLookup_eq_fast]; kernel_rfl) (by decide +kernel) (by decide +kernel) (by decide +kernel)
    (by first | exact .inl (by decide +kernel) | exact .inr (by decide +kernel)) (by rw [isSubtype_type]; kernel_rfl)
theorem type_bytes_join : typeOf (.builtin "bytes.join") = pure (.type "method_descriptor") := by show builtinType _ = _; rw [builtinType_eq_fast]; kernel_rfl
theorem entry_bytes_join : entryFor table "bytes.join" = some Builtin.«bytes.join» := entryFor_of_tree (by kernel_rfl)
theorem args_bytes_join_2 (a b : Value) : argsOk "bytes.join" ⟨[a, b], []⟩ := by
  unfold argsOk; rw [signature?_of (id := "bytes.join") (n := ['n', 'i', 'o', 'j']) (o := ['s', 'e', 't', 'y', 'b']) (by kernel_rfl) FB.owner_bytes]; kernel_rfl
def joinB (bs : List (Array UInt8)) : Array UInt8 := bs.foldl (· ++ ·) #[]
theorem joined_eq (bs : List (Array UInt8)) : Bytes.joined #[] bs = joinB bs := by
  unfold Bytes.joined joinB
  have : ∀ (k : Nat) (o : Array UInt8), List.foldl (fun out (x : Array UInt8 × Nat) => (if x.2 > 0 then out ++ (#[] : Array UInt8) else out) ++ x.1) o (bs.zipIdx k) = bs.foldl (· ++ ·) o := by
    induction bs with
    | nil => intro k o; rfl
    | cons b bs ih =>
      intro k o
      rw [List.zipIdx_cons, List.foldl_cons, List.foldl_cons, ih]
      congr 1
      by_cases h : k > 0 <;> simp [h]
  exact this 0 #[]
section
variable {prog : Program} {w : World} {A : Around} {E : Value → Shared → Prop} {s : Shared}
theorem takeq (b : Array UInt8) (t : Tok) : Bytes.takeBufferQuiet? "bytes.join" (.bytes b t) 0 = pure (some (b, none)) := by first | rfl | kernel_rfl
theorem seqItems_list {M : Model} {D : Addr} {da : Array Value} {Q : Option (Array Value) → Shared → Prop} (hD : s.heap.IsList D da) (h : Q (some da) s) : wpAny M A (seqItems? (.ref D)) Q E s := by
  obtain ⟨o, h1, h2, n, h3⟩ := hD
  unfold seqItems?
  refine wpAny_bind (wpAny_load h1 ?_)
  rw [h3]
  exact wpAny_pure h
theorem bj_nil : ∀ (l : List (Value × Option Value)) (keep : List Value), (∀ p ∈ l, p.2 = none) → ∀ {M : Model} {A : Around} {E : Value → Shared → Prop} {s : Shared} {Q : Unit → Shared → Prop}, Q () s → wpAny M A (Bytes.joinLetGo l keep) Q E s
  | [], keep, _, _, _, _, _, _, h => wpAny_pure h
  | (x, w) :: rest, keep, hp, _, _, _, _, _, h => by
    have e : w = none := hp _ (List.mem_cons_self ..)
    subst e
    unfold Bytes.joinLetGo
    dsimp only
    exact wpAny_bind (wpAny_letGo (bj_nil rest keep (fun p h => hp p (List.mem_cons_of_mem _ h)) h))
theorem bytesAre_len {vs bs} (h : BytesAre vs bs) : vs.length = bs.length := by
  induction h with
  | nil => rfl
  | cons _ _ _ ih => rw [List.length_cons, List.length_cons, ih]
theorem bytesAre_get {vs bs} (h : BytesAre vs bs) (i : Nat) (hi : i < vs.length) : ∃ b t, vs[i]? = some (.bytes b t) ∧ bs[i]? = some b := by
  induction h generalizing i with
  | nil => exact absurd hi (Nat.not_lt_zero _)
  | cons b t _ ih =>
    cases i with
    | zero => exact ⟨b, t, rfl, rfl⟩
    | succ i => exact ih i (Nat.lt_of_succ_lt_succ hi)
def arrCase {α : Type _} (f : Value → α) (g : α) (da : Array Value) : α := match da with | #[x] => f x | _ => g
theorem match_arr {α : Type _} {P : α → Prop} (da : Array Value) (f : Value → α) (g : α) (h1 : ∀ x, da = #[x] → P (f x)) (h2 : P g) : P (arrCase f g da) := by
  obtain ⟨l⟩ := da
  match l, h1 with
  | [], _ => exact h2
  | [x], h1 => exact h1 x rfl
  | a :: b :: l, _ => exact h2
theorem meets_join {t : Tok} {D : Addr} {da : Array Value} {bs : List (Array UInt8)} (hb : BytesAre da.toList bs) (hsz : ((bs.map (·.size)).sum ≤ 16777216)) :
    Meets (Builtin.«bytes.join» ⟨[.bytes #[] t, .ref D], []⟩) (fun _ R s => s.heap.IsList D da ∧ ∀ u k, R (.ok (.ret (.bytes (joinB bs) u))) { s with toks := k }) := by
  refine Meets.of_wp fun prog w A R s hS => ?_
  obtain ⟨hD, hq⟩ := hS
  unfold Builtin.«bytes.join» Bytes.joinM
  refine wpAny_bind (wpAny_of_eq (a := (.bytes #[] t, .ref D)) rfl ?_)
  dsimp only
  refine wpAny_bind ?_
  unfold Bytes.joinItems
  obtain ⟨o, ho, hcl, n, hdat⟩ := id hD
  have hD' : s.heap.IsList D da := hD
  refine wpAny_bind (wpAny_bind (wpAny_load ho ?_))
  refine wpAny_pure ?_
  rw [show (⟨o.cls, o.dict, o.data, o.slots⟩ : Obj).cls = .type "list" from hcl]
  refine bm_if_true (by decide) ?_
  refine wpAny_pure ?_
  refine wpAny_bind (seqItems_list hD ?_)
  dsimp only
  refine bm_if_true (by decide) ?_
  have one : ∀ x, da = #[x] → ∃ b u, x = .bytes b u ∧ joinB bs = b := by
    rintro x rfl
    cases hb with | cons b u h => cases h; exact ⟨b, u, rfl, by simp [joinB]⟩
  refine match_arr (P := fun m => wpAny (model prog w) A.in1 m _ _ s) da _ _ ?_ ?_
  · intro x hx
    obtain ⟨b, u, rfl, e⟩ := one _ hx
    refine wpAny_bind (wpAny_of_eq (a := .type "bytes") rfl ?_)
    refine bm_if_true (by decide) ?_
    refine wpAny_bind (wpAny_rule ?_)
    refine wpAny_pure ⟨_, rfl, ?_⟩
    rw [← e]
    exact hq _ s.toks
  · refine wpAny_bind ?_
    rw [KPc.range_list]
    refine wpAny_forIn_list _ (fun rest q s' => s' = s ∧ ∃ i, rest = List.range' i (da.size - i) ∧ i ≤ da.size ∧ q.1.toList = bs.take i ∧ ∀ p ∈ q.2, p.2 = none ∧ p.1.onHeap = false) _ ?_ ?_ _ _ ⟨rfl, 0, rfl, Nat.zero_le _, by simp, by simp⟩
    · rintro x rest q s' ⟨rfl, i, hr, hi, hp, ht⟩
      have hlt : i < da.size := by
        rcases Nat.lt_or_ge i da.size with h | h
        · exact h
        · rw [Nat.sub_eq_zero_of_le h] at hr; simp at hr
      obtain ⟨rfl, hrest⟩ : x = i ∧ rest = List.range' (i + 1) (da.size - (i + 1)) := by
        have e : da.size - i = (da.size - (i + 1)) + 1 := by omega
        rw [e, List.range'_succ] at hr
        exact ⟨(List.cons.inj hr).1, (List.cons.inj hr).2⟩
      obtain ⟨b, u, e1, e2⟩ := bytesAre_get hb x hlt
      have eg : da.getD x .none = .bytes b u := by
        have : da[x]? = some (.bytes b u) := by rw [← Array.getElem?_toList]; exact e1
        rw [Array.getD_eq_getD_getElem?, this]; rfl
      refine wpAny_bind (seqItems_list hD ?_)
      dsimp only
      refine bm_if_false ?_ ?_
      · rw [show (Bytes.Kind.bytes == Bytes.Kind.bytearray) = false from by decide, Bool.false_or]
        exact List.any_eq_false.mpr fun p hp => by rw [(ht p hp).2]; decide
      rw [eg]
      refine wpAny_bind (wpAny_holding (wpAny_of_eq (takeq b u) ?_))
      dsimp only
      refine wpAny_bind (seqItems_list hD ?_)
      dsimp only
      refine bm_if_false (by simp) ?_
      refine wpAny_pure ?_
      refine ⟨rfl, x + 1, hrest, hlt, ?_, ?_⟩
      · rw [Array.toList_push, hp, List.take_add_one, e2]; rfl
      · intro p h
        rcases List.mem_append.mp h with h | h
        · exact ht p h
        · rw [List.mem_singleton.mp h]; exact ⟨rfl, rfl⟩
    · rintro q s' ⟨rfl, i, hr, hi, hp, ht⟩
      have hsz' : da.size = bs.length := bytesAre_len hb
      have hp' : q.1.toList = bs := by
        rw [hp]
        refine List.take_of_length_le ?_
        have : (List.range' i (da.size - i)).length = 0 := by rw [← hr]; rfl
        rw [List.length_range'] at this
        omega
      refine wpAny_bind (wpAny_of_eq (a := (#[] : Array UInt8)) rfl ?_)
      refine bm_if_false ?_ ?_
      · rw [← Array.foldl_toList, hp']
        have : ∀ (l : List (Array UInt8)) (k : Nat), l.foldl (fun x1 x2 => x1 + x2.size) k = k + (l.map (·.size)).sum := by
          intro l
          induction l with
          | nil => intro k; rfl
          | cons x l ih => intro k; rw [List.foldl_cons, ih, List.map_cons, List.sum_cons]; omega
        rw [this]
        unfold Bytes.tooLong
        rw [decide_eq_false_iff_not, show sizeLine = 16777216 from sizeLine_eq]
        show ¬ (0 * _ + _ > _)
        omega
      rw [hp', joined_eq]
      have hj : (joinB bs).size ≤ sizeLine := by
        have : ∀ (l : List (Array UInt8)) (o : Array UInt8), (l.foldl (· ++ ·) o).size = o.size + (l.map (·.size)).sum := by
          intro l
          induction l with
          | nil => intro o; rfl
          | cons x l ih => intro o; rw [List.foldl_cons, ih, Array.size_append, List.map_cons, List.sum_cons]; omega
        unfold joinB
        rw [this, sizeLine_eq]
        show 0 + _ ≤ _
        omega
      refine wpAny_bind ?_
      refine wpAny_mkBytes ?_ hj
      refine wpAny_bind (wpAny_holding (wpAny_point ?_))
      refine wpAny_bind (bj_nil _ _ (fun p h => (ht p h).1) ?_)
      exact wpAny_pure ⟨_, rfl, hq _ _⟩
theorem bytes_join {t : Tok} {D : Addr} {da : Array Value} {bs : List (Array UInt8)} {Q : Value → Shared → Prop} (hD : s.heap.IsList D da) (hb : BytesAre da.toList bs) (hsz : ((bs.map (·.size)).sum ≤ 16777216))
    (hq : ∀ u k, Q (.bytes (joinB bs) u) { s with toks := k }) : wpAny (model prog w) A (call (.builtin "bytes.join") [.bytes #[] t, .ref D]) Q E s :=
  call_meets slot_bytes_join (typeIs_bytes _ _ _) entry_bytes_join (args_bytes_join_2 _ _) (meets_join hb hsz) ⟨hD, hq⟩
theorem bytes_join_method {M : Model} {b : Array UInt8} {t : Tok} {pl : Sem Bool} {Q : Value × List Value → Shared → Prop} (h : Q (.builtin "bytes.join", [.bytes b t]) s) : wpAny M A (getMethod (.bytes b t) (Str.ofString "join") pl) Q E s := by
  with_reducible exact KBd.method_of (.bytes b t) (typeIs_bytes _ _ _) slot_bytes_join type_bytes_join KBd.noRef h
theorem bytes_join_K {h₀ : Heap} {L : Addr} {news : List (Addr × Obj)} {t : Tok} {D : Addr} {da : Array Value} {n : Nat} {bs : List (Array UInt8)} {Q : Value → Shared → Prop} (N : News h₀ L s.heap news) (hD : (D, listOf da n) ∈ news) (hb : BytesAre da.toList bs) (hsz : ((bs.map (·.size)).sum ≤ 16777216))
    (hq : ∀ u k, Q (.bytes (joinB bs) u) { s with toks := k }) : wpAny (model prog w) A (call (.builtin "bytes.join") [.bytes #[] t, .ref D]) Q E s :=
  bytes_join ⟨_, (N _ hD).1, rfl, _, rfl⟩ hb hsz hq
end
end Mine
end
section -- LoopD
open PySem PySem.W PyProof.Rows
set_option maxRecDepth 100000
namespace Mine
theorem intBytes_size (n : Nat) (x : Int) : (Builtin.Struct.intBytes true n x).size = n := by
  unfold Builtin.Struct.intBytes Builtin.Memoryview.toLittleEndian
  simp
theorem drun_sizes (ks : List Int) : ∀ st : List (Array UInt8) × List Int, (∀ b ∈ st.1, b.size = 4) → (∀ b ∈ (ks.foldl dstep st).1, b.size = 4) ∧ (ks.foldl dstep st).1.length ≤ st.1.length + ks.length := by
  induction ks with
  | nil => exact fun st h => ⟨h, Nat.le_refl _⟩
  | cons x ks ih =>
    intro st h
    rw [List.foldl_cons]
    have h1 : (∀ b ∈ (dstep st x).1, b.size = 4) ∧ (dstep st x).1.length ≤ st.1.length + 1 := by
      unfold dstep
      split
      · split
        · refine ⟨fun b hb => ?_, by simp⟩
          rcases List.mem_append.mp hb with hb | hb
          · exact h b hb
          · rw [List.mem_singleton.mp hb]; exact intBytes_size 4 _
        · exact ⟨h, Nat.le_succ _⟩
      · split
        · refine ⟨fun b hb => ?_, by simp⟩
          rcases List.mem_append.mp hb with hb | hb
          · exact h b hb
          · rw [List.mem_singleton.mp hb]; rfl
        · exact ⟨h, Nat.le_succ _⟩
    obtain ⟨a, b⟩ := ih _ h1.1
    refine ⟨a, Nat.le_trans b ?_⟩
    rw [List.length_cons]
    omega
theorem sum_four : ∀ l : List (Array UInt8), (∀ b ∈ l, b.size = 4) → (l.map (·.size)).sum = 4 * l.length
  | [], _ => rfl
  | x :: l, h => by
    rw [List.map_cons, List.sum_cons, sum_four l fun b hb => h b (List.mem_cons_of_mem _ hb), h x (List.mem_cons_self ..), List.length_cons]
    omega
theorem drun_sum (ks : List Int) (h : ks.length ≤ 1000) : ((drun ks).1.map (·.size)).sum ≤ 16777216 := by
  obtain ⟨a, b⟩ := drun_sizes ks ([], []) (fun _ h => nomatch h)
  rw [show drun ks = ks.foldl dstep ([], []) from rfl, sum_four _ a]
  simp only [List.length_nil] at b
  omega
theorem joinB_size (bs : List (Array UInt8)) : (joinB bs).size = (bs.map (·.size)).sum := by
  have : ∀ (l : List (Array UInt8)) (o : Array UInt8), (l.foldl (· ++ ·) o).size = o.size + (l.map (·.size)).sum := by
    intro l
    induction l with
    | nil => intro o; rfl
    | cons x l ih => intro o; rw [List.foldl_cons, ih, Array.size_append, List.map_cons, List.sum_cons]; omega
  have := this bs #[]
  unfold joinB
  rw [this]
  exact Nat.zero_add _
end Mine
end
section -- A85
open PySem PySem.W PyProof.Rows
set_option maxRecDepth 100000
set_option maxHeartbeats 4000000
namespace Mine
local macro_rules | `(tactic| walk_at "no such node 0") => `(tactic| fail)
local macro_rules | `(tactic| walk_at "callWith") => `(tactic| ((with_reducible show wpAny _ _ (callWith _ (Value.builtin _) (_ :: _) _ _) _ _ _); refine callWith_method1 ?_))
def doutI (ks : List Int) : List Int := (KBw.bInts (joinB (drun ks).1)).take ((KBw.bInts (joinB (drun ks).1)).length - (4 - (drun ks).2.length))
local macro_rules | `(tactic| walk_at "call type:_struct.Struct") => `(tactic| (k_here; k_dflt (refine' struct_K ?k1 ?k2 ?k3 ?_; (case k1 => exact rfl); (case k2 => k_asm); (case k3 => k_asm); k_whole); intro l' h' t' k' F' N' l1; (try k_lt l1); (try k_sweep)))
local macro_rules | `(tactic| walk_at "getAttr ref") => `(tactic| (k_here; (with_reducible show wpAny _ _ (getAttr (Value.ref _) (PySem.Str.ofString "append") _) _ _ _); k_dflt (refine' attr_append_K ?k1 ?k2 ?k3 ?_; (case k1 => k_asm); (case k2 => k_asm); (case k3 => k_mem); k_whole); intro q' h' F' N' l1; (try k_lt l1)))
local macro_rules | `(tactic| walk_at "getAttr ref") => `(tactic| (k_here; (with_reducible show wpAny _ _ (getAttr (Value.ref _) (PySem.Str.ofString "clear") _) _ _ _); k_dflt (refine' attr_clear_K ?k1 ?k2 ?k3 ?_; (case k1 => k_asm); (case k2 => k_asm); (case k3 => k_mem); k_whole); intro q' h' F' N' l1; (try k_lt l1)))
local macro_rules | `(tactic| walk_at "getAttr ref") => `(tactic| (k_here; (with_reducible show wpAny _ _ (getAttr (Value.ref _) (PySem.Str.ofString "pack") _) _ _ _); k_dflt (refine' attr_pack_K ?k1 ?k2 ?k3 ?_; (case k1 => k_asm); (case k2 => k_asm); (case k3 => k_mem); k_whole); intro q' h' F' N' l1; (try k_lt l1)))
local macro_rules | `(tactic| walk_at "callWith ref") => `(tactic| (k_here; (with_reducible show wpAny _ _ (callWith _ (Value.ref _) _ (backTo _ (starEach (_ :: _) _)) []) _ _ _); k_dflt (refine' callWith_bm ?k1 ?k2 ?_; (case k1 => k_asm); (case k2 => k_mem); k_whole)))
local macro_rules | `(tactic| walk_at "callWith ref") => `(tactic| (k_here; (with_reducible show wpAny _ _ (callWith _ (Value.ref _) _ (backTo _ (starEach [] _)) []) _ _ _); k_dflt (refine' callWith_bm0 ?k1 ?k2 ?_; (case k1 => k_asm); (case k2 => k_mem); k_whole; try dsimp only [List.nil_append, List.cons_append])))
local macro_rules | `(tactic| walk_at "And") => `(tactic| ((with_reducible show Heap.get? _ _ = some (bmObj _ _) ∧ _); k_dflt (refine' bm_at ?k1 ?k2 ?_; (case k1 => k_asm); (case k2 => k_mem)); (try dsimp only [List.nil_append, List.cons_append])))
local macro_rules | `(tactic| walk_at "call ref") => `(tactic| (k_here; (with_reducible show wpAny _ _ (call (Value.ref _) []) _ _ _); k_dflt (refine' clear_bm ?k1 ?k2 ?k3 ?kne ?k4 ?_ ?z; (case k1 => k_asm); (case k2 => k_asm); (case k3 => k_mem); (case k4 => k_upd); (case kne => simp); (case z => size_fits); k_whole); intro h' F' N'; (try k_sweep)))
local macro_rules | `(tactic| walk_at "call ref") => `(tactic| (k_here; (with_reducible show wpAny _ _ (call (Value.ref _) [_]) _ _ _); k_dflt (refine' append_bm ?k1 ?k2 ?k3 ?k4 ?_ ?z; (case k1 => k_asm); (case k2 => k_asm); (case k3 => k_mem); (case k4 => k_upd); (case z => size_fits); k_whole); intro h' F' N'; (try k_sweep)))
local macro_rules | `(tactic| walk_at "call ref") => `(tactic| (k_here; (with_reducible show wpAny _ _ (call (Value.ref _) [Value.int _ _]) _ _ _); k_dflt (refine' pack_bm ?k1 ?k2 ?k3 ?k4 ?k5 ?_; (case k1 => k_asm); (case k2 => k_mem); (case k3 => k_mem); (case k4 => omega); (case k5 => omega); k_whole); intro t'))
local macro_rules | `(tactic| walk_at "exec For Name BinOp") => `(tactic| (k_here; (rename Fr _ _ _ _ => lF'); (with_unfolding_all refine' For_invVF lF' ?k1 ?k2 ?_; (case k1 => exact rfl); (case k2 => exact rfl); k_whole)))
local macro_rules | `(tactic| walk_at "pyIter bytes") => `(tactic| (fail))
local macro_rules | `(tactic| walk_at "compareOp In int bytes") => `(tactic| (k_here; (with_reducible show wpAny _ _ (compareOp CmpOp.In (Value.int _ _) (Value.bytes _ _)) _ _ _); k_dflt (refine' in_bytes ?k1 ?k2 ?k3 ?_; (case k1 => assumption); (case k2 => omega); (case k3 => omega); k_whole)))
local macro_rules | `(tactic| walk_at "binaryOp Mod str int") => `(tactic| (k_here; (with_reducible show wpAny _ _ (binaryOp Operator.Mod (Value.str (PySem.Str.ofString "Non-Ascii85 digit found: %c") _) (Value.int _ _)) _ _ _); k_dflt (refine' mod_c ?k1 ?k2 ?_; (case k1 => omega); (case k2 => omega); k_whole); intro t' k'))
local macro_rules | `(tactic| walk_at "getMethod bytes") => `(tactic| (k_here; (with_reducible show wpAny _ _ (getMethod (Value.bytes _ _) (PySem.Str.ofString "join") _) _ _ _); (refine bytes_join_method ?_)))
local macro_rules | `(tactic| walk_at "call builtin:bytes.join") => `(tactic| (k_here; k_dflt (refine' bytes_join_K ?k1 ?k2 ?k3 ?k4 ?_; (case k1 => k_asm); (case k2 => k_mem); (case k3 => assumption); (case k4 => assumption); k_whole); intro u' k'))
theorem pre_of {pre post ks : List Int} {x : Int} (h : pre ++ x :: post = ks ++ [117, 117, 117, 117]) (hx : x ≠ 117) : ∃ post', ks = pre ++ x :: post' := by
  rcases List.append_eq_append_iff.mp h with ⟨l, h1, h2⟩ | ⟨l, h1, h2⟩
  · cases l with
    | nil =>
      rw [List.nil_append] at h2
      exact absurd (List.cons.inj h2).1 hx
    | cons y l =>
      rw [List.cons_append] at h2
      obtain ⟨rfl, _⟩ := List.cons.inj h2
      exact ⟨l, h1⟩
  · exfalso
    have : x ∈ ([117, 117, 117, 117] : List Int) := by rw [h2]; simp
    simp at this
    exact hx this
abbrev mapT (b : Array UInt8) (t : Tok) (gb : Array UInt8) (tg : Tok) (rest : Str → Option Value) : Str → Option Value := fun y =>
  if y = Str.ofString "b" then some (.bytes b t) else if y = Str.ofString "foldspaces" then some (.bool false) else if y = Str.ofString "adobe" then some (.bool false) else if y = Str.ofString "ignorechars" then some (.bytes gb tg) else rest y
theorem mapT_of {b gb : Array UInt8} {t tg : Tok} {m : Str → Option Value} (h1 : m (Str.ofString "b") = some (.bytes b t)) (h2 : m (Str.ofString "foldspaces") = some (.bool false)) (h3 : m (Str.ofString "adobe") = some (.bool false)) (h4 : m (Str.ofString "ignorechars") = some (.bytes gb tg)) (y : Str) : mapT b t gb tg m y = m y := by
  unfold mapT
  by_cases hy : y = Str.ofString "b"
  · rw [if_pos hy, hy, h1]
  rw [if_neg hy]
  by_cases hy2 : y = Str.ofString "foldspaces"
  · rw [if_pos hy2, hy2, h2]
  rw [if_neg hy2]
  by_cases hy3 : y = Str.ofString "adobe"
  · rw [if_pos hy3, hy3, h3]
  rw [if_neg hy3]
  by_cases hy4 : y = Str.ofString "ignorechars"
  · rw [if_pos hy4, hy4, h4]
  rw [if_neg hy4]
def a85Rest : List Stmt := (defBody a85Def).drop 1
structure HoldOnA (p : Prop) : Prop where
  go : p
theorem a85_tail (w : World) (mg mb : Str → Option Value) (mean : ExcName → Option Value) (cn : Str) (cs : Scope) (L a : Addr) (ccd : Value) (cl : List (Str × Addr)) (outer : List Env) (base g' : Heap) (L' : Addr) (rest : Str → Option Value) (s : Shared) (Q : Flow → Shared → Prop) (E₂ : Value → Shared → Prop)
    (b gb : Array UInt8) (gs ks : List Int) (t tg : Tok)
    (B' : Below (a85A cn cs L a ccd cl outer) base (envX cn cs L a ccd cl :: outer) g') (F' : Fr g' L' s.heap (mapT b t gb tg rest)) (N' : News g' L' s.heap []) (X' : (hd.heap_39 w.params).In g')
    (T' : Top hd.view_39 (looseW hd.view_39 [Str.ofString "bytes_types", Str.ofString "a85decode"]) mean mg mb g') (hk : cs.kind = .function)
    (hgs : KBw.bInts gb = gs) (hgl : gs.length ≤ 900) (hks : KBw.bInts b = ks) (hkl : ks.length ≤ 900) (hgood : DGood (ks ++ [117, 117, 117, 117]))
    (hret : ∀ h' tk u r m', Fr g' L' h' m' → (∀ y ∈ ks, meansB y = true ∨ gs.contains y = true) → KBw.bInts r = doutI (ks ++ [117, 117, 117, 117]) → Q (.ret (.bytes r u)) { s with heap := h', toks := tk })
    (hbad : ∀ e h' tk u u' lg x pre post, ks = pre ++ x :: post → (∀ y ∈ pre, meansB y = true ∨ gs.contains y = true) → meansB x = false → gs.contains x = false →
      RaisedK base (envX cn cs L a ccd cl :: outer) e (.type "ValueError") u [.str (foundC x) u'] lg h' → g'.UpToSlots h' → E₂ (.ref e) { s with heap := h', toks := tk }) :
    wpAny (model PySem.Challenge.rw_kq0072_01.row.prog w) ((a85A cn cs L a ccd cl outer).deeper (a85Env L')) (execs a85Rest (a85Env L')) Q
      (fun e s' => wpAny (model PySem.Challenge.rw_kq0072_01.row.prog w) ((a85A cn cs L a ccd cl outer).deeper (a85Env L')) (leaving (a85Env L') e) (fun _ s'' => E₂ e s'') (fun e' s'' => E₂ e' s'') s') s := by
  dsimp only [a85Env, a85Rest, a85Scope, a85Def, stmtAt, defBody, defScope, PySem.Challenge.pw_kq0072_01, List.drop, a85A, mapT] at F' B' ⊢
  revert X'
  k_fill
  intro X'
  k_steps
  have lp := @a85_loop
  dsimp only [a85Env, a85Body, a85Scope, a85Def, stmtAt, defBody, defScope, forBody, PySem.Challenge.pw_kq0072_01] at lp
  rename News _ _ _ _ => kN
  rename Fr _ _ _ _ => kF
  rename KBw.bInts _ = ks ++ _ => kB
  refine lp w mg mb mean cn cs L a ccd cl outer base g' L' _ _ _ ?rest gb _ gs _ tg _ _ _ _ _ _ _ _ _ B' X' T' hk ?d1 ?d2 ?d3 ?d4 ?d5 ?d6 hgs ?l1 kB ?l2 hgood (fr_congr kF ?mm) kN ?done ?bad
  case l1 => omega
  case l2 => rw [List.length_append]; simp only [List.map_cons, List.map_nil, List.length_cons, List.length_nil]; omega
  case mm =>
    intro y
    dsimp only [mapA]
    by_cases hy : y = Str.ofString "curr_clear"
    · rw [if_pos hy, if_pos hy]
    rw [if_neg hy, if_neg hy]; clear hy
    by_cases hy : y = Str.ofString "curr_append"
    · rw [if_pos hy, if_pos hy]
    rw [if_neg hy, if_neg hy]; clear hy
    by_cases hy : y = Str.ofString "curr"
    · rw [if_pos hy, if_pos hy]
    rw [if_neg hy, if_neg hy]; clear hy
    by_cases hy : y = Str.ofString "decoded_append"
    · rw [if_pos hy, if_pos hy]
    rw [if_neg hy, if_neg hy]; clear hy
    by_cases hy : y = Str.ofString "decoded"
    · rw [if_pos hy, if_pos hy]
    rw [if_neg hy, if_neg hy]; clear hy
    by_cases hy : y = Str.ofString "packI"
    · rw [if_pos hy, if_pos hy]
    rw [if_neg hy, if_neg hy]; clear hy
    by_cases hy : y = Str.ofString "foldspaces"
    · rw [if_pos hy]; subst hy; exact rfl
    rw [if_neg hy]; clear hy
    by_cases hy : y = Str.ofString "ignorechars"
    · rw [if_pos hy]; subst hy; exact rfl
    rw [if_neg hy]
  case bad =>
    intro e h1 tk1 u u1 lg x pre post h2 h3 h4 h5 R U
    have e5 : pre ++ x :: post = ks ++ [117, 117, 117, 117] := h2.symm
    obtain ⟨post', e6⟩ : ∃ post', ks = pre ++ x :: post' := pre_of e5 (fun e => by rw [e] at h4; revert h4; decide)
    exact hbad _ _ _ _ _ _ x pre post' e6 h3 h4 h5 R U
  case done =>
    intro h1 tk1 m1 da dn ca cn1 D F1 hs N1
    have F2 := fr_congr (m' := fun y => if y = Str.ofString "x" then m1 (Str.ofString "x") else if y = Str.ofString "acc" then m1 (Str.ofString "acc") else mapA _ _ _ _ _ _ gb tg _ y) F1 (fun y => by
      by_cases e1 : y = Str.ofString "x"
      · rw [if_pos e1, e1]
      · rw [if_neg e1]
        by_cases e2 : y = Str.ofString "acc"
        · rw [if_pos e2, e2]
        · rw [if_neg e2]; exact (hs y e1 e2).symm)
    revert X'
    k_fill
    intro X'
    dsimp only [mapA, led] at F2 N1
    have D' : DInv gs (ks ++ [117, 117, 117, 117]) da ca := D
    have hbj := D'.outB
    have hbs := drun_sum (ks ++ [117, 117, 117, 117]) (by rw [List.length_append]; simp only [List.length_cons, List.length_nil]; omega)
    have hcn : ca.size = (drun (ks ++ [117, 117, 117, 117])).2.length := intsAre_len D'.curI
    have hc4 : ca.size ≤ 4 := hcn ▸ D'.len
    have hrl : (KBw.bInts (joinB (drun (ks ++ [117, 117, 117, 117])).1)).length ≤ 4000 := by
      rw [KBw.ints_length, joinB_size]
      show (((ks ++ [117, 117, 117, 117]).foldl dstep ([], [])).1.map (fun (x : Array UInt8) => x.size)).sum ≤ 4000
      rw [sum_four _ (drun_sizes _ ([], []) (fun _ h => nomatch h)).1]
      have := (drun_sizes (ks ++ [117, 117, 117, 117]) ([], []) (fun _ h => nomatch h)).2
      rw [List.length_append] at this
      simp only [List.length_cons, List.length_nil] at this
      omega
    obtain ⟨rs, hrs⟩ : ∃ rs, KBw.bInts (joinB (drun (ks ++ [117, 117, 117, 117])).1) = rs := ⟨_, rfl⟩
    have hdo : doutI (ks ++ [117, 117, 117, 117]) = rs.take (rs.length - (4 - ca.size)) := by rw [hcn, ← hrs]; rfl
    have htold : ∀ y ∈ ks, meansB y = true ∨ gs.contains y = true := fun y hy => D'.told y (List.mem_append_left _ hy)
    rw [hrs] at hrl
    k_steps
    all_goals (rename Fr g' L' _ _ => kF2; refine hret _ _ _ _ _ kF2 htold ?_; rw [hdo, hcn]; rw [hcn] at hc4)
    · rename KBw.bInts (KBy.picked _ _ _) = _ => kk
      rename _ ≠ (_ : Int) => kne
      rw [kk]
      congr 1
      unfold clipAt
      generalize (drun (ks ++ [117, 117, 117, 117])).2.length = n at kne hc4
      rw [if_pos (by omega)]
      omega
    · rename _ = (0 : Int) => kz
      rw [hrs]
      generalize (drun (ks ++ [117, 117, 117, 117])).2.length = n at kz hc4
      rw [show 4 - n = 0 from by omega, Nat.sub_zero, List.take_length]
  all_goals (first | assumption | (apply And.left; assumption))
local macro_rules | `(tactic| walk_at "execs cons") => `(tactic| (k_here; (with_reducible show wpAny _ _ (execs (Stmt.If (Expr.Name (PySem.Str.ofString "adobe") _) _ _ _ :: _) _) _ _ _); refine HoldOnA.go ?_))
theorem a85_bytes (w : World) (mg mb : Str → Option Value) (mean : ExcName → Option Value) (cn : Str) (cs : Scope) (L a : Addr) (ccd : Value) (cl : List (Str × Addr)) (outer : List Env) (A₀ : Around) (base h₀ : Heap) (m : Str → Option Value) (s : Shared) (Q E : Value → Shared → Prop)
    (b gb : Array UInt8) (gs ks : List Int) (t tg : Tok)
    (B : Below A₀ base outer h₀) (F : Fr h₀ L s.heap m) (X : (hd.heap_39 w.params).In h₀)
    (T : Top hd.view_39 (looseW hd.view_39 [Str.ofString "bytes_types", Str.ofString "a85decode"]) mean mg mb h₀) (hk : cs.kind = .function)
    (hgs : KBw.bInts gb = gs) (hgl : gs.length ≤ 900) (hks : KBw.bInts b = ks) (hkl : ks.length ≤ 900) (hgood : DGood (ks ++ [117, 117, 117, 117]))
    (hret : ∀ h' tk u r, (∀ x o, s.heap.get? x = some o → h'.get? x = some o) → (∀ y ∈ ks, meansB y = true ∨ gs.contains y = true) → KBw.bInts r = doutI (ks ++ [117, 117, 117, 117]) → Q (.bytes r u) { s with heap := h', toks := tk })
    (hbad : ∀ e h' tk u u' lg x pre post, ks = pre ++ x :: post → (∀ y ∈ pre, meansB y = true ∨ gs.contains y = true) → meansB x = false → gs.contains x = false →
      RaisedK base (envX cn cs L a ccd cl :: outer) e (.type "ValueError") u [.str (foundC x) u'] lg h' → s.heap.UpToSlots h' → E (.ref e) { s with heap := h', toks := tk }) :
    wpAny (model PySem.Challenge.rw_kq0072_01.row.prog w) (a85A cn cs L a ccd cl outer) (call (.ref 58) [.bytes b t] [(Str.ofString "ignorechars", .bytes gb tg)]) Q E s := by
  have N : News h₀ L s.heap [] := News.nil
  revert X
  k_fill
  intro X
  refine wpAny_call ?_
  k_dflt (refine' code_defG ?k1 ?k2 ?k3 ?k4 ?k5 ?kA ?kF ?kK ?k6 ?k7 ?k8 ?k9 ?kB ?_ ?c2 ?c3 ?c4 ?c5; (case kA => exact rfl); (case kF => exact rfl); (case kK => assumption); (case k1 => k_asm); (case k2 => k_asm); (case k3 => k_asm); (case k4 => k_asm); (case k5 => k_asm); (case k6 => k_is); (case k7 => k_is); (case k8 => ktr_room); (case k9 => (refine' kp_binds ?kx ?ke; (case kx => k_in); (case ke => exact fun _ => rfl))); (case c5 => decide); (case kB => exact locs rfl); (case c2 => exact rfl); (case c3 => exact rfl); (case c4 => exact rfl); k_whole; intro g' L' h' FG' F' N' B' X' T' GS'; (try dsimp only); (try k_lift B'); (try k_fold))
  k_steps
  refine HoldOnA.mk ?_
  have tl := @a85_tail
  dsimp only [a85Env, a85Rest, a85Scope, a85Def, stmtAt, defBody, defScope, PySem.Challenge.pw_kq0072_01, List.drop] at tl
  rename News _ _ _ _ => kN
  rename Fr g' L' _ _ => kF
  refine tl w mg mb mean cn cs L a ccd cl outer base g' L' _ _ _ _ b _ gs ks _ _ B' (fr_congr kF (mapT_of (b := b) rfl rfl rfl rfl)) (fun p hp => nomatch hp) X' T' hk hgs hgl hks hkl hgood ?zret ?zbad
  case zret =>
    intro h1 tk1 u r m1 F1 k2 k3
    exact leaveK_ F1 (news' := []) (fun p hp => nomatch hp) (fun _ _ => hret _ _ u r (fun x o e => F1.keep _ _ (GS' x o e (fun h => nomatch h))) k2 k3)
  case zbad =>
    intro e h1 tk1 u u1 lg x pre post e6 h3 h4 h5 R U
    refine hbad _ _ _ _ _ _ x pre post e6 h3 h4 h5 R ?_
    exact Heap.UpToSlots.trans (Heap.UpToSlots.of_keeps fun b o e => GS' b o e (fun h => nomatch h)) U
end Mine
end
section -- A85n
open PySem PySem.W PyProof.Rows
set_option maxRecDepth 100000
set_option maxHeartbeats 4000000
namespace Mine
local macro_rules | `(tactic| walk_at "callWith") => `(tactic| ((with_reducible show wpAny _ _ (callWith _ (Value.builtin _) (_ :: _) _ _) _ _ _); refine callWith_method1 ?_))
abbrev gsD : List Int := [32, 9, 10, 13, 11]
local macro_rules | `(tactic| walk_at "execs cons") => `(tactic| (k_here; (with_reducible show wpAny _ _ (execs (Stmt.If (Expr.Name (PySem.Str.ofString "adobe") _) _ _ _ :: _) _) _ _ _); refine HoldOnA.go ?_))
theorem a85_none (w : World) (mg mb : Str → Option Value) (mean : ExcName → Option Value) (cn : Str) (cs : Scope) (L a : Addr) (ccd : Value) (cl : List (Str × Addr)) (outer : List Env) (A₀ : Around) (base h₀ : Heap) (m : Str → Option Value) (s : Shared) (Q E : Value → Shared → Prop)
    (b : Array UInt8) (ks : List Int) (t : Tok)
    (B : Below A₀ base outer h₀) (F : Fr h₀ L s.heap m) (X : (hd.heap_39 w.params).In h₀)
    (T : Top hd.view_39 (looseW hd.view_39 [Str.ofString "bytes_types", Str.ofString "a85decode"]) mean mg mb h₀) (hk : cs.kind = .function)
    (hks : KBw.bInts b = ks) (hkl : ks.length ≤ 900) (hgood : DGood (ks ++ [117, 117, 117, 117]))
    (hret : ∀ h' tk u r, (∀ x o, s.heap.get? x = some o → h'.get? x = some o) → (∀ y ∈ ks, meansB y = true ∨ gsD.contains y = true) → KBw.bInts r = doutI (ks ++ [117, 117, 117, 117]) → Q (.bytes r u) { s with heap := h', toks := tk })
    (hbad : ∀ e h' tk u u' lg x pre post, ks = pre ++ x :: post → (∀ y ∈ pre, meansB y = true ∨ gsD.contains y = true) → meansB x = false → gsD.contains x = false →
      RaisedK base (envX cn cs L a ccd cl :: outer) e (.type "ValueError") u [.str (foundC x) u'] lg h' → s.heap.UpToSlots h' → E (.ref e) { s with heap := h', toks := tk }) :
    wpAny (model PySem.Challenge.rw_kq0072_01.row.prog w) (a85A cn cs L a ccd cl outer) (call (.ref 58) [.bytes b t] []) Q E s := by
  have N : News h₀ L s.heap [] := News.nil
  revert X
  k_fill
  intro X
  refine wpAny_call ?_
  k_dflt (refine' code_defG ?k1 ?k2 ?k3 ?k4 ?k5 ?kA ?kF ?kK ?k6 ?k7 ?k8 ?k9 ?kB ?_ ?c2 ?c3 ?c4 ?c5; (case kA => exact rfl); (case kF => exact rfl); (case kK => assumption); (case k1 => k_asm); (case k2 => k_asm); (case k3 => k_asm); (case k4 => k_asm); (case k5 => k_asm); (case k6 => k_is); (case k7 => k_is); (case k8 => ktr_room); (case k9 => (refine' kp_binds ?kx ?ke; (case kx => k_in); (case ke => exact fun _ => rfl))); (case c5 => decide); (case kB => exact locs rfl); (case c2 => exact rfl); (case c3 => exact rfl); (case c4 => exact rfl); k_whole; intro g' L' h' FG' F' N' B' X' T' GS'; (try dsimp only); (try k_lift B'); (try k_fold))
  k_steps
  refine HoldOnA.mk ?_
  have tl := @a85_tail
  dsimp only [a85Env, a85Rest, a85Scope, a85Def, stmtAt, defBody, defScope, PySem.Challenge.pw_kq0072_01, List.drop] at tl
  rename News _ _ _ _ => kN
  rename Fr g' L' _ _ => kF
  refine tl w mg mb mean cn cs L a ccd cl outer base g' L' _ _ _ _ b _ gsD ks _ _ B' (fr_congr kF (mapT_of (b := b) rfl rfl rfl rfl)) (fun p hp => nomatch hp) X' T' hk rfl (by decide) hks hkl hgood ?zret ?zbad
  case zret =>
    intro h1 tk1 u r m1 F1 k2 k3
    exact leaveK_ F1 (news' := []) (fun p hp => nomatch hp) (fun _ _ => hret _ _ u r (fun x o e => F1.keep _ _ (GS' x o e (fun h => nomatch h))) k2 k3)
  case zbad =>
    intro e h1 tk1 u u1 lg x pre post e6 h3 h4 h5 R U
    refine hbad _ _ _ _ _ _ x pre post e6 h3 h4 h5 R ?_
    exact Heap.UpToSlots.trans (Heap.UpToSlots.of_keeps fun b o e => GS' b o e (fun h => nomatch h)) U
end Mine
end
section -- Catch
open PySem PySem.W PyProof.Rows PySem.Calls PyProof.V
set_option maxRecDepth 100000
namespace Mine
/-- what is in the heap but for the frame L -/
def KeepBut (L : Addr) (h h' : Heap) : Prop := ∀ x o, x ≠ L → h.get? x = some o → h'.get? x = some o
theorem keepBut_hide {L : Addr} {h h' : Heap} (k : ∀ b o, (hideAll h [L]).get? b = some o → h'.get? b = some o) : KeepBut L h h' := fun x o n e => k x o (hideAll_get _ e fun q => n (List.mem_singleton.mp q))
section
variable {prog : Program} {w : World} {A : Around} {s : Shared} {h₀ : Heap} {L : Addr} {m : Str → Option Value} {env : Env} {E : Value → Shared → Prop}
theorem code_defM {K : Frag} {p : Program} {loose : List Str} {mean : ExcName → Option Value} {mg mb : Str → Option Value} {R : Result → Shared → Prop} {name qual : Str} {params : Arguments} {body : List Stmt} {scope : Scope} {dV kV doc pm cdv ct oc : Value} {an od : Option Addr} {osl : Array (Option Value)} {f : Addr} {args : Args} {binds : List (Str × Value)}
    (F : Fr h₀ L s.heap m) (X₀ : K.In h₀) (T : Top p loose mean mg mb h₀) (hA : A.frames = some [env]) (hf : env.frame = some L) (hke : env.scope.kind = .function)
    (ho : K.lookup f = some ⟨oc, od, .func (fnOf name qual params body scope dV kV doc pm an cdv ct), osl⟩) (hcd : codeIn K cdv qual = true) (hroom : A.depth < recursionLimit)
    (hbind : BindsTo s (fnOf name qual params body scope dV kV doc pm an cdv ct) args binds) (hloc : ∀ y ∈ binds, scope.names.lookup y.1 = some .local)
    (h : ∀ b L' h₁ oL, b = hideAll s.heap [L] → (∃ es n, oL.data = .dict es n) ∨ True → s.heap.get? L = some oL → (∀ vs, oL.data ≠ .fields vs) → Fr b L' h₁ (fun y => binds.reverse.lookup y) → News b L' h₁ [(L, oL)] → Below A b [env] s.heap → Fr s.heap L' h₁ (fun y => binds.reverse.lookup y) → K.In b → Top p loose mean mg mb b → K.In s.heap → Top p loose mean mg mb s.heap →
      wpAny (model prog w) (A.deeper (envOf qual scope L' f cdv)) (execs body (envOf qual scope L' f cdv))
        (fun fl s' => R (.ok (.ret (match fl with | .ret v => v | _ => .none))) s')
        (fun e s' => wpAny (model prog w) (A.deeper (envOf qual scope L' f cdv)) (leaving (envOf qual scope L' f cdv) e) (fun _ s'' => R (.error e) s'') (fun e' s'' => R (.error e') s'') s')
        { s with heap := h₁, toks := s.toks + binds.length })
    (hco : scope.isCoroutine = false) (hgen : scope.isGenerator = false) (hk : scope.kind = .function)
    (hcell : ∀ x ∈ scope.names, x.2 ≠ .cell) : codeAny (model prog w) A (.call (.ref f) args) R s := by
  have nm : ∀ b o, h₀.get? b = some o → b ∉ [L] := fun b o e q => by
    have := Nat.lt_of_lt_of_le (Heap.lt_size e) F.above
    rw [List.mem_singleton.mp q] at this
    exact Nat.lt_irrefl _ this
  have st : h₀.StaysIn (hideAll s.heap [L]) := fun b o e => hideAll_get _ (F.keep b o e) (nm b o e)
  obtain ⟨oL, es, ep, hL, hLd, hLk, hLf⟩ := F.ns
  have hnf : ∀ vs, oL.data ≠ .fields vs := fun vs e => by rw [hLd] at e; cases e
  refine codeAny_call_def (fd := fnX name qual params body scope [] dV kV doc pm an cdv ct) (body := body) (binds := binds) hroom ((X₀.keeps F.keep) _ _ ho) rfl (T.nolimit.keeps F.keep) (codeRec_of (X₀.keeps F.keep) hcd) rfl hbind hcell hloc (fun h₁ hns hk₁ => ?_) hco hgen hk
  refine h _ s.heap.objs.size h₁ oL rfl (.inr trivial) hL hnf ⟨hns, fun b o e => hk₁ b o (of_hideAll _ e), Nat.le_of_eq (hideAll_size _ _)⟩ (fun q hq => ?_) ⟨hA, fun b o e => of_hideAll _ e, ⟨by rw [hke]; exact (fun x => nomatch x), ⟨L, oL, hf, hideAll_none _ (List.mem_singleton.mpr rfl), hL, hnf⟩, trivial⟩⟩ ⟨hns, hk₁, Nat.le_refl _⟩ (X₀.keeps st) (T.keeps st) (X₀.keeps F.keep) (T.keeps F.keep)
  rw [List.mem_singleton.mp hq]
  exact ⟨hk₁ _ _ hL, Nat.ne_of_lt (Heap.lt_size hL), hideAll_none _ (List.mem_singleton.mpr rfl)⟩
end
end Mine
end
section -- Catch2
open PySem PySem.W PyProof.Rows PySem.Calls PyProof.V
set_option maxRecDepth 100000
namespace Mine
section
variable {prog : Program} {w : World} {A₀ : Around} {E : Value → Shared → Prop} {s' : Shared} {b h : Heap} {outer : List Env} {L a e t : Addr} {m : Str → Option Value} {name : Str} {scope : Scope} {cd : Value}
  {vs : List Value} {n : Str} {b₀ : Stmt} {suite : List Stmt} {pos np : Pos} {rest : List ExceptHandler} {Q : Flow → Shared → Prop} {news : List (Addr × Obj)}
  {p : Program} {loose : List Str} {mean : ExcName → Option Value} {mg mb : Str → Option Value}
/-- `except ValueError as n` in a def that is called by one frame more: what the caller's frame has is kept up to its slots -/
theorem caught_mine (hst : A₀.frames = some outer) (F : Fr b L h m) (hsm : h.UpToSlots s'.heap) (R : RaisedK b (envOf name scope L a cd :: outer) e (.type "ValueError") t vs news s'.heap) (T : TopRead p loose mg mb b)
    (k : ∀ h' news₂ tk, Fr b L h' (fun y => if y = n then some (.ref e) else m y) → News b L h' news₂ → Got news₂ e t (.type "ValueError") vs → (∀ c o, c ≠ L → h.get? c = some o → (∀ vs, o.data ≠ .fields vs) → ∃ sl, h'.get? c = some { o with slots := sl }) →
      wpAny (model prog w) ((A₀.deeper (envOf name scope L a cd)).mark (some (.ref e))) (execs (b₀ :: suite) (envOf name scope L a cd))
        (fun f s₄ => wpAny (model prog w) (A₀.deeper (envOf name scope L a cd)) (do bindName (envOf name scope L a cd) n .none; unbindBehindTheSuite (envOf name scope L a cd) n pos) (fun _ s₅ => Q f s₅) E s₄)
        (AsSuiteRaised (model prog w) ((A₀.deeper (envOf name scope L a cd)).mark (some (.ref e))) (envOf name scope L a cd) n pos (notedBy (model prog w) ((A₀.deeper (envOf name scope L a cd)).mark (some (.ref e))) (envOf name scope L a cd) (cameBackBy (model prog w) (A₀.deeper (envOf name scope L a cd)) (envOf name scope L a cd) E)))
        { s' with heap := h', toks := tk })
    (h1 : Str.ofString "ValueError" ∉ startupNames := by decide +kernel) (h2 : Str.ofString "ValueError" ∉ loose := by decide +kernel) (h3 : Str.ofString "ValueError" ∉ (recsOf p).map (·.name) := by decide +kernel) (h4 : Str.ofString "ValueError" ∉ (litsOf p).map (·.1) := by decide +kernel) (h4c : Str.ofString "ValueError" ∉ (clssOf p loose).map (·.name) := by decide +kernel)
    (hk : scope.kind = .function := by rfl) (hlo : (envOf name scope L a cd).kindOf n = some .local := by rfl) (hx : (envOf name scope L a cd).kindOf (Str.ofString "ValueError") = some .globalImplicit := by rfl) :
    wpAny (model prog w) (A₀.deeper (envOf name scope L a cd)) (noteFrame (.ref e) (envOf name scope L a cd))
      (fun _ s₂ => wpAny (model prog w) (A₀.deeper (envOf name scope L a cd)) (setFlight (.ref e) none) (fun _ s₃ =>
        wpAny (model prog w) (A₀.deeper (envOf name scope L a cd)) (handleBy (.ref e) (envOf name scope L a cd) (.ExceptHandler (some (.Name (Str.ofString "ValueError") np)) (some n) (b₀ :: suite) pos :: rest)) Q E s₃) E s₂) E s' := by
  obtain ⟨⟨B, hB, _, hfl, hnew⟩, htup⟩ := R
  refine wpAny_looks_onW (Around.frames_deeper hst) rfl hfl fun g1 held1 sm1 => ?_
  refine wpAny_landsW held1 fun g2 held2 sm2 => ?_
  have sm12 := sm1.trans sm2
  have fl2 := flyingW_base hB held2
  have F2 := F.of_stays fl2.1 (hsm.trans sm12)
  obtain ⟨ob, hob, hobc⟩ := fl2.there
  have hvb : mb (Str.ofString "ValueError") = some (.type "ValueError") := (T.builtins _ (by decide +kernel)).trans PyProof.Rows.Boot.«ValueError»
  refine wpAny_handleBy_builtin_as (X := "ValueError") (T := "ValueError") (b := true) PySem.F.isExc_ValueError PySem.F.notTuple_ValueError (by rw [isSubtype_type]; kernel_rfl) (ld_builtin_at F2 T.g (T.free _ h1 h2 h3 h4 h4c) T.b hvb ⟨rfl, ⟨ob, hob, hobc⟩, ?_⟩ hk hx (by decide))
  refine lands_againW held2 fun g3 held3 sm3 => ?_
  have fl3 := flyingW_base hB held3
  have smA := (hsm.trans sm12).trans sm3
  have F3 := F.of_stays fl3.1 smA
  obtain ⟨oe, ws, hoe, hoec, hoed, hoe0⟩ := fl3.first
  obtain ⟨ot, nt, hot, hotc, hotd⟩ := (htup.of_slots sm12).of_slots sm3
  have N3 := News.more F3 (News.more F3 News.nil hot (fun es n q => by rw [hotd] at q; cases q) (fresh_of_stays hB hnew)) hoe (fun es n q => by rw [hoed] at q; cases q) fl3.2.1
  refine wpAny_storeName_local hlo F3.ns (fun g4 hns hsb => ?_) (by show (scope.kind == .class || (scope.kind == .module && L != mainGlobals)) = false; rw [hk]; rfl)
  refine k g4 _ _ (F3.set hns hsb) (N3.set hsb) ⟨oe, ot, ws, nt, .head _, .tail _ (.head _), hoec, hoed, hoe0, hotc, hotd⟩ fun c o hc hg hd => ?_
  obtain ⟨sl, h5⟩ := smA c o hg hd
  exact ⟨sl, (hsb.2 c hc).trans h5⟩
end
end Mine
end
section -- Told
open PySem PySem.W PyProof.Rows
set_option maxRecDepth 100000
set_option maxHeartbeats 4000000
namespace Mine
local macro_rules | `(tactic| walk_at "callWith") => `(tactic| ((with_reducible show wpAny _ _ (callWith _ (Value.builtin _) (_ :: _) _ _) _ _ _); refine callWith_method1 ?_))
abbrev toldA (cn : Str) (cs : Scope) (L a : Addr) (ccd : Value) (cl : List (Str × Addr)) : Around := ktrTop 350 300 (some []) cn cs L a ccd cl []
def ToldOut (ks gs : List Int) (v : Value) : Prop :=
  (∃ r u, v = .bytes r u ∧ KBw.bInts r = doutI (ks ++ [117, 117, 117, 117]) ∧ ∀ y ∈ ks, meansB y = true ∨ gs.contains y = true) ∨
  (∃ x pre post u, ks = pre ++ x :: post ∧ (∀ y ∈ pre, meansB y = true ∨ gs.contains y = true) ∧ meansB x = false ∧ gs.contains x = false ∧ v = .str (foundC x) u)
theorem fr_slots {h₀ h h' : Heap} {L : Addr} {m : Str → Option Value} {oL : Obj} {sl : Array (Option Value)} (F : Fr h₀ L h m) (e : h.get? L = some oL) (e' : h'.get? L = some { oL with slots := sl }) (k : KeepBut L h h') : Fr h₀ L h' m := by
  obtain ⟨o, es, ep, hL, hLd, hLk, hLf⟩ := F.ns
  rw [e] at hL
  obtain rfl := Option.some.inj hL
  refine ⟨⟨_, es, ep, e', hLd, hLk, hLf⟩, fun b o q => k b o (fun z => ?_) (F.keep b o q), F.above⟩
  have := Nat.lt_of_lt_of_le (Heap.lt_size q) F.above
  rw [z] at this
  exact Nat.lt_irrefl _ this
theorem told_bytes (w : World) (mg mb : Str → Option Value) (mean : ExcName → Option Value) (cn : Str) (cs : Scope) (L a : Addr) (ccd : Value) (cl : List (Str × Addr)) (h₀ : Heap) (m : Str → Option Value) (s : Shared) (Q E : Value → Shared → Prop)
    (b gb : Array UInt8) (gs ks : List Int) (t tg : Tok)
    (F : Fr h₀ L s.heap m) (X : (hd.heap_39 w.params).In h₀)
    (T : Top hd.view_39 (looseW hd.view_39 [Str.ofString "bytes_types", Str.ofString "a85decode"]) mean mg mb h₀) (hk : cs.kind = .function)
    (hgs : KBw.bInts gb = gs) (hgl : gs.length ≤ 900) (hks : KBw.bInts b = ks) (hkl : ks.length ≤ 900) (hgood : DGood (ks ++ [117, 117, 117, 117]))
    (hret : ∀ h' tk v, Fr h₀ L h' m → KeepBut L s.heap h' → ToldOut ks gs v → Q v { s with heap := h', toks := tk }) :
    wpAny (model PySem.Challenge.rw_kq0072_01.row.prog w) (toldA cn cs L a ccd cl) (call (.ref 196) [.bytes b t, .bytes gb tg] []) Q E s := by
  revert X
  k_fill
  intro X
  refine wpAny_call ?_
  k_dflt (refine' code_defM (env := envX cn cs L a ccd cl) ?k1 ?k2 ?k3 ?kA ?kF ?kK ?k6 ?k7 ?k8 ?k9 ?kB ?_ ?c2 ?c3 ?c4 ?c5; (case kA => exact rfl); (case kF => exact rfl); (case kK => assumption); (case k1 => k_asm); (case k2 => k_asm); (case k3 => k_asm); (case k6 => k_is); (case k7 => k_is); (case k8 => ktr_room); (case k9 => first | exact BindsTo.of_eq rfl | exact binds_K (by k_in) rfl (by k_is) rfl rfl rfl); (case c5 => decide); (case kB => exact locs rfl); (case c2 => exact rfl); (case c3 => exact rfl); (case c4 => exact rfl); k_whole)
  intro b' L' h' oL hb' _ hoL hnf F' N' Bb Fs X' T' Xs Ts
  have old := And.intro Bb (And.intro Fs (And.intro Xs (And.intro Ts F)))
  clear Bb Fs Xs Ts F X T
  (try dsimp only); (try k_fold)
  k_steps
  refine a85_bytes w mg mb mean _ _ _ _ _ _ _ _ _ _ _ _ _ _ b gb gs ks t tg old.1 old.2.1 old.2.2.1 old.2.2.2.1 rfl hgs hgl hks hkl hgood ?ret ?bad
  case ret =>
    intro h1 tk1 u r hkeep htold hr
    have k1 : KeepBut L s.heap h1 := fun x o _ e => hkeep x o (old.2.1.keep x o e)
    exact hret h1 tk1 _ (fr_slots old.2.2.2.2 hoL (sl := oL.slots) (hkeep L oL (old.2.1.keep L oL hoL)) k1) k1 (.inl ⟨r, u, rfl, hr, htold⟩)
  case bad =>
    intro e h1 tk1 u u' lg x pre post p1 p2 p3 p4 R U
    have hNL := N' _ (List.mem_cons_self ..)
    clear N'
    refine caught_mine rfl F' U R (topRead_of T') ?_
    intro h2 news2 tk2 F2 N2 G2 K2
    clear F'
    obtain ⟨sl, hL2⟩ := K2 L oL hNL.2.1 hNL.1 hnf
    have N3 : News b' L' h2 ((L, { oL with slots := sl }) :: news2) := fun q hq => by
      rcases List.mem_cons.mp hq with rfl | hq
      · exact ⟨hL2, hNL.2⟩
      · exact N2 q hq
    have G3 := G2.more (L, { oL with slots := sl })
    clear N2 G2 K2
    k_steps
    rename Fr _ _ _ _ => F9
    rename News _ _ _ _ => N9
    have k9 : KeepBut L s.heap _ := keepBut_hide (hb' ▸ F9.keep)
    have hL9 := (N9 (L, { oL with slots := sl }) (by k_mem)).1
    exact hret _ _ _ (fr_slots old.2.2.2.2 hoL hL9 k9) k9 (.inr ⟨x, pre, post, u', p1, p2, p3, p4, rfl⟩)
theorem told_none (w : World) (mg mb : Str → Option Value) (mean : ExcName → Option Value) (cn : Str) (cs : Scope) (L a : Addr) (ccd : Value) (cl : List (Str × Addr)) (h₀ : Heap) (m : Str → Option Value) (s : Shared) (Q E : Value → Shared → Prop)
    (b : Array UInt8) (ks : List Int) (t : Tok)
    (F : Fr h₀ L s.heap m) (X : (hd.heap_39 w.params).In h₀)
    (T : Top hd.view_39 (looseW hd.view_39 [Str.ofString "bytes_types", Str.ofString "a85decode"]) mean mg mb h₀) (hk : cs.kind = .function)
    (hks : KBw.bInts b = ks) (hkl : ks.length ≤ 900) (hgood : DGood (ks ++ [117, 117, 117, 117]))
    (hret : ∀ h' tk v, Fr h₀ L h' m → KeepBut L s.heap h' → ToldOut ks gsD v → Q v { s with heap := h', toks := tk }) :
    wpAny (model PySem.Challenge.rw_kq0072_01.row.prog w) (toldA cn cs L a ccd cl) (call (.ref 196) [.bytes b t, .none] []) Q E s := by
  revert X
  k_fill
  intro X
  refine wpAny_call ?_
  k_dflt (refine' code_defM (env := envX cn cs L a ccd cl) ?k1 ?k2 ?k3 ?kA ?kF ?kK ?k6 ?k7 ?k8 ?k9 ?kB ?_ ?c2 ?c3 ?c4 ?c5; (case kA => exact rfl); (case kF => exact rfl); (case kK => assumption); (case k1 => k_asm); (case k2 => k_asm); (case k3 => k_asm); (case k6 => k_is); (case k7 => k_is); (case k8 => ktr_room); (case k9 => first | exact BindsTo.of_eq rfl | exact binds_K (by k_in) rfl (by k_is) rfl rfl rfl); (case c5 => decide); (case kB => exact locs rfl); (case c2 => exact rfl); (case c3 => exact rfl); (case c4 => exact rfl); k_whole)
  intro b' L' h' oL hb' _ hoL hnf F' N' Bb Fs X' T' Xs Ts
  have old := And.intro Bb (And.intro Fs (And.intro Xs (And.intro Ts F)))
  clear Bb Fs Xs Ts F X T
  (try dsimp only); (try k_fold)
  k_steps
  refine a85_none w mg mb mean _ _ _ _ _ _ _ _ _ _ _ _ _ _ b ks t old.1 old.2.1 old.2.2.1 old.2.2.2.1 rfl hks hkl hgood ?ret ?bad
  case ret =>
    intro h1 tk1 u r hkeep htold hr
    have k1 : KeepBut L s.heap h1 := fun x o _ e => hkeep x o (old.2.1.keep x o e)
    exact hret h1 tk1 _ (fr_slots old.2.2.2.2 hoL (sl := oL.slots) (hkeep L oL (old.2.1.keep L oL hoL)) k1) k1 (.inl ⟨r, u, rfl, hr, htold⟩)
  case bad =>
    intro e h1 tk1 u u' lg x pre post p1 p2 p3 p4 R U
    have hNL := N' _ (List.mem_cons_self ..)
    clear N'
    refine caught_mine rfl F' U R (topRead_of T') ?_
    intro h2 news2 tk2 F2 N2 G2 K2
    clear F'
    obtain ⟨sl, hL2⟩ := K2 L oL hNL.2.1 hNL.1 hnf
    have N3 : News b' L' h2 ((L, { oL with slots := sl }) :: news2) := fun q hq => by
      rcases List.mem_cons.mp hq with rfl | hq
      · exact ⟨hL2, hNL.2⟩
      · exact N2 q hq
    have G3 := G2.more (L, { oL with slots := sl })
    clear N2 G2 K2
    k_steps
    rename Fr _ _ _ _ => F9
    rename News _ _ _ _ => N9
    have k9 : KeepBut L s.heap _ := keepBut_hide (hb' ▸ F9.keep)
    have hL9 := (N9 (L, { oL with slots := sl }) (by k_mem)).1
    exact hret _ _ _ (fr_slots old.2.2.2.2 hoL hL9 k9) k9 (.inr ⟨x, pre, post, u', p1, p2, p3, p4, rfl⟩)
end Mine
end
section -- LawP
open PySem PySem.W PyProof.Rows
set_option maxRecDepth 100000
namespace Mine
def lawDef : Stmt := stmtAt PySem.Challenge.pw_kq0072_01.main.body 30
def lawBody : List Stmt := defBody lawDef
def lawScope : Scope := defScope lawDef
def asgVal : Stmt → PySem.Expr
  | .Assign _ v _ => v
  | _ => default
def compElt : PySem.Expr → PySem.Expr
  | .ListComp e _ _ _ => e
  | _ => default
def compIfs : PySem.Expr → List PySem.Expr
  | .ListComp _ [⟨_, _, l, _⟩] _ _ => l
  | _ => []
def compTest (e : PySem.Expr) : PySem.Expr := match compIfs e with
  | [t] => t
  | _ => default
def compScope : PySem.Expr → Scope
  | .ListComp _ _ s _ => s
  | _ => default
abbrev lawEnv (L a : Addr) (cd : Value) : Env := envOfC (Str.ofString "law") lawScope L a cd
abbrev lawA (L a : Addr) (cd : Value) : Around := callerA.deeper (lawEnv L a cd)
abbrev TopM (mean : ExcName → Option Value) (mg mb : Str → Option Value) (h : Heap) : Prop := Top hd.view_39 (looseW hd.view_39 [Str.ofString "bytes_types", Str.ofString "a85decode"]) mean mg mb h
abbrev PRG : Program := PySem.Challenge.rw_kq0072_01.row.prog
def rowOf (ns : List Int) : List Int := (ns.filter fun x => x % 2 == 0).map fun x => x / 2 % 256
theorem ints_snoc' {vs ns n t} (h : IntsAre vs ns) : IntsAre (vs ++ [.int n t]) (ns ++ [n]) := ints_snoc h
theorem ints_at : ∀ {vs : List Value} {ns : List Int}, IntsAre vs ns → ∀ {i : Nat} {v : Value}, vs[i]? = some v → ∃ n t, v = .int n t ∧ ns[i]? = some n := by
  intro vs ns h
  induction h with
  | nil => intro i v e; cases e
  | cons n t _ ih =>
    intro i v e
    cases i with
    | zero => exact ⟨n, t, (Option.some.inj e).symm, rfl⟩
    | succ i => exact ih e
theorem take_snoc {α} {l : List α} {i : Nat} {x : α} (h : l[i]? = some x) : l.take (i + 1) = l.take i ++ [x] := by
  rw [List.take_add_one, h]; rfl
theorem rowOf_snoc (l : List Int) (x : Int) : rowOf (l ++ [x]) = if x % 2 = 0 then rowOf l ++ [x / 2 % 256] else rowOf l := by
  unfold rowOf
  rw [List.filter_append, List.map_append]
  by_cases h : x % 2 = 0
  · rw [if_pos h]; simp [List.filter_cons, h]
  · rw [if_neg h]; simp [List.filter_cons, h]
end Mine
end
section -- Tell
open PySem PySem.W PyProof.Rows
set_option maxRecDepth 100000
namespace Mine
abbrev passCl (L : Addr) : List (Str × Addr) := [(Str.ofString "kind", L + 1 + 1)]
abbrev lawCells (L : Addr) : List (Str × Addr) := cellsFrom (L + 1) lawScope.names []
theorem law_in {Γ : Ctx} {L a : Addr} {cd : Value} (h : Γ.In (lawA L a cd)) : Γ.In (toldA (Str.ofString "law") lawScope L a cd (lawCells L)) := by
  obtain ⟨h1, h2, h3, h4, h5⟩ := h
  refine ⟨h1, Nat.le_trans h2 (Nat.le_of_ble_eq_true rfl), fun l hl => h3 l ?_, fun g hg => h4 g ?_, Nat.le_trans h5 (Nat.le_of_ble_eq_true rfl)⟩
  · rw [← hl]; rfl
  · rw [← hg]; rfl
theorem at_law {M : Model} {α : Type} {t : Sem α} {Q : α → Shared → Prop} {E : Value → Shared → Prop} {s : Shared} {L a : Addr} {cd : Value} (h : wpAny M (toldA (Str.ofString "law") lawScope L a cd (lawCells L)) t Q E s) : wpAny M (lawA L a cd) t Q E s :=
  fun Γ p hΓ => h Γ p (law_in hΓ)
theorem lawKind : lawScope.kind = .function := by decide +kernel
section
variable (w : World) (mg mb : Str → Option Value) (mean : ExcName → Option Value) (h₀ : Heap) (L a : Addr) (cd : Value) (m : Str → Option Value) (s : Shared) (Q E : Value → Shared → Prop)
theorem tell_bytes (b gb : Array UInt8) (gs ks : List Int) (t tg : Tok) (F : Fr h₀ L s.heap m) (X : (hd.heap_39 w.params).In h₀) (T : TopM mean mg mb h₀)
    (hgs : KBw.bInts gb = gs) (hgl : gs.length ≤ 900) (hks : KBw.bInts b = ks) (hkl : ks.length ≤ 900) (hgood : DGood (ks ++ [117, 117, 117, 117]))
    (hret : ∀ h' tk v, Fr h₀ L h' m → KeepBut L s.heap h' → ToldOut ks gs v → Q v { s with heap := h', toks := tk }) :
    wpAny (model PySem.Challenge.rw_kq0072_01.row.prog w) (lawA L a cd) (call (.ref 196) [.bytes b t, .bytes gb tg] []) Q E s :=
  at_law (told_bytes w mg mb mean (Str.ofString "law") lawScope L a cd (lawCells L) h₀ m s Q E b gb gs ks t tg F X T lawKind hgs hgl hks hkl hgood hret)
theorem tell_none (b : Array UInt8) (ks : List Int) (t : Tok) (F : Fr h₀ L s.heap m) (X : (hd.heap_39 w.params).In h₀) (T : TopM mean mg mb h₀)
    (hks : KBw.bInts b = ks) (hkl : ks.length ≤ 900) (hgood : DGood (ks ++ [117, 117, 117, 117]))
    (hret : ∀ h' tk v, Fr h₀ L h' m → KeepBut L s.heap h' → ToldOut ks gsD v → Q v { s with heap := h', toks := tk }) :
    wpAny (model PySem.Challenge.rw_kq0072_01.row.prog w) (lawA L a cd) (call (.ref 196) [.bytes b t, .none] []) Q E s :=
  at_law (told_none w mg mb mean (Str.ofString "law") lawScope L a cd (lawCells L) h₀ m s Q E b ks t F X T lawKind hks hkl hgood hret)
end
end Mine
end
section -- KindG
open PySem PySem.W PyProof.Rows
set_option maxRecDepth 100000
set_option maxHeartbeats 4000000
namespace Mine
local macro_rules | `(tactic| walk_at "no such node 0") => `(tactic| fail)
local macro_rules | `(tactic| walk_at "callWith") => `(tactic| ((with_reducible show wpAny _ _ (callWith _ (Value.builtin _) (_ :: _) _ _) _ _ _); refine callWith_method1 ?_))
theorem fin_kind {Q : Value → Shared → Prop} {x y : Bool} {s : Shared} (h : Q (.bool x) s) (e : x = y) : Q (.bool y) s := e ▸ h
theorem at_deeper {M : Model} {α : Type} {tr : Sem α} {Q : α → Shared → Prop} {E : Value → Shared → Prop} {s : Shared} {D U D' U' : Nat} {cn cn' : Str} {cs cs' : Scope} {L a L' a' : Addr} {ccd ccd' : Value} {cl : List (Str × Addr)} {outer : List Env}
    (hd : D + 1 ≤ D') (hu : U + 3 ≤ U') (h : wpAny M (ktrTop D' U' (some []) cn' cs' L' a' ccd' [] (envX cn cs L a ccd cl :: outer)) tr Q E s) : wpAny M ((ktrTop D U (some []) cn cs L a ccd cl outer).deeper (envOf cn' cs' L' a' ccd')) tr Q E s :=
  fun Γ p hΓ => h Γ p (by
    obtain ⟨h1, h2, h3, h4, h5⟩ := hΓ
    refine ⟨h1, Nat.le_trans h2 hd, fun l hl => h3 l ?_, fun g hg => h4 g ?_, Nat.le_trans h5 hu⟩
    · rw [← hl]; rfl
    · rw [← hg]; rfl)
theorem law_in2 {Γ : Ctx} {L a : Addr} {cd : Value} {D U : Nat} (hD : 350 ≤ D) (hU : 300 ≤ U) (h : Γ.In (lawA L a cd)) : Γ.In (ktrTop D U (some []) (Str.ofString "law") lawScope L a cd (lawCells L) []) := by
  obtain ⟨h1, h2, h3, h4, h5⟩ := law_in h
  exact ⟨h1, Nat.le_trans h2 hD, h3, h4, Nat.le_trans h5 hU⟩
theorem at_law2 {M : Model} {α : Type} {t : Sem α} {Q : α → Shared → Prop} {E : Value → Shared → Prop} {s : Shared} {L a : Addr} {cd : Value} {D U : Nat} (hD : 350 ≤ D) (hU : 300 ≤ U) (h : wpAny M (ktrTop D U (some []) (Str.ofString "law") lawScope L a cd (lawCells L) []) t Q E s) : wpAny M (lawA L a cd) t Q E s :=
  fun Γ p hΓ => h Γ p (law_in2 hD hU hΓ)
theorem call_ctoiG (w : World) (mg mb : Str → Option Value) (mean : ExcName → Option Value) (cn : Str) (cs : Scope) (L a : Addr) (ccd : Value) (cl : List (Str × Addr)) (outer : List Env) (A₀ : Around) (base h₀ : Heap) (m : Str → Option Value) (s : Shared) (Q E : Value → Shared → Prop) (c : Int) (t : Tok)
    (B : Below A₀ base outer h₀) (F : Fr h₀ L s.heap m) (X : (hd.heap_39 w.params).In h₀) (T : TopM mean mg mb h₀) (hk : cs.kind = .function) (h0 : 0 ≤ c) (h1 : c < 256)
    (hret : ∀ h' tk, Fr h₀ L h' m → (∀ x o, s.heap.get? x = some o → h'.get? x = some o) → Q (.int c t) { s with heap := h', toks := tk }) :
    wpAny (model PySem.Challenge.rw_kq0072_01.row.prog w) (ktrTop 406 460 (some []) cn cs L a ccd cl outer) (call (.ref 65) [.int c t] []) Q E s := by
  have N : News h₀ L s.heap [] := News.nil
  revert X
  k_fill
  intro X
  refine wpAny_call ?_
  k_dflt (refine' code_defG ?k1 ?k2 ?k3 ?k4 ?k5 ?kA ?kF ?kK ?k6 ?k7 ?k8 ?k9 ?kB ?_ ?c2 ?c3 ?c4 ?c5; (case kA => exact rfl); (case kF => exact rfl); (case kK => assumption); (case k1 => k_asm); (case k2 => k_asm); (case k3 => k_asm); (case k4 => k_asm); (case k5 => k_asm); (case k6 => k_is); (case k7 => k_is); (case k8 => first | k_room | ktr_room); (case k9 => first | exact BindsTo.of_eq rfl | exact binds_K (by k_in) rfl (by k_is) rfl rfl rfl); (case c5 => decide); (case kB => exact locs rfl); (case c2 => exact rfl); (case c3 => exact rfl); (case c4 => exact rfl); k_whole; intro g' L' h' FG' F' N' B' X' T' GS'; (try dsimp only); (try k_lift B'); (try k_fold))
  k_steps
  all_goals (rename Fr g' L' _ _ => kF2)
  all_goals exact hret _ _ (Fr.keeps F fun x o e => kF2.keep _ _ (GS' x o e (fun h => nomatch h))) (fun x o e => kF2.keep _ _ (GS' x o e (fun h => nomatch h)))
local macro_rules | `(tactic| walk_at "call ref") => `(tactic| (k_here; (with_reducible show wpAny _ _ (call (Value.ref 65) [Value.int _ _] _) _ _ _); k_dflt (refine' at_deeper (D' := 406) (U' := 460) ?zd ?zu (call_ctoiG _ _ _ _ _ _ _ _ _ _ _ _ _ _ _ _ _ _ _ _ ?k0 ?k1 ?k2 ?k3 ?k4 ?k5 ?k6 ?_); (case zd => decide); (case zu => decide); (case k0 => k_asm); (case k1 => k_asm); (case k2 => k_asm); (case k3 => k_asm); (case k4 => rfl); (case k5 => assumption); (case k6 => assumption); k_whole); intro h' tk' F' keep'; (rename News _ _ _ _ => N0'); have N1' := News.grown N0' keep'))
def isupperB (c : Int) : Bool := decide (65 ≤ c) && decide (c ≤ 90)
theorem call_isupperG (w : World) (mg mb : Str → Option Value) (mean : ExcName → Option Value) (cn : Str) (cs : Scope) (L a : Addr) (ccd : Value) (cl : List (Str × Addr)) (outer : List Env) (A₀ : Around) (base h₀ : Heap) (m : Str → Option Value) (s : Shared) (Q E : Value → Shared → Prop) (c : Int) (t : Tok)
    (B : Below A₀ base outer h₀) (F : Fr h₀ L s.heap m) (X : (hd.heap_39 w.params).In h₀) (T : TopM mean mg mb h₀) (hk : cs.kind = .function) (h0 : 0 ≤ c) (h1 : c < 256)
    (hret : ∀ h' tk, Fr h₀ L h' m → (∀ x o, s.heap.get? x = some o → h'.get? x = some o) → Q (.bool (isupperB c)) { s with heap := h', toks := tk }) :
    wpAny (model PySem.Challenge.rw_kq0072_01.row.prog w) (ktrTop 404 440 (some []) cn cs L a ccd cl outer) (call (.ref 149) [.int c t] []) Q E s := by
  have N : News h₀ L s.heap [] := News.nil
  revert X
  k_fill
  intro X
  refine wpAny_call ?_
  k_dflt (refine' code_defG ?k1 ?k2 ?k3 ?k4 ?k5 ?kA ?kF ?kK ?k6 ?k7 ?k8 ?k9 ?kB ?_ ?c2 ?c3 ?c4 ?c5; (case kA => exact rfl); (case kF => exact rfl); (case kK => assumption); (case k1 => k_asm); (case k2 => k_asm); (case k3 => k_asm); (case k4 => k_asm); (case k5 => k_asm); (case k6 => k_is); (case k7 => k_is); (case k8 => first | k_room | ktr_room); (case k9 => first | exact BindsTo.of_eq rfl | exact binds_K (by k_in) rfl (by k_is) rfl rfl rfl); (case c5 => decide); (case kB => exact locs rfl); (case c2 => exact rfl); (case c3 => exact rfl); (case c4 => exact rfl); k_whole; intro g' L' h' FG' F' N' B' X' T' GS'; (try dsimp only); (try k_lift B'); (try k_fold))
  k_steps
  all_goals (rename Fr g' L' _ _ => kF2)
  all_goals (refine fin_kind (hret _ _ (Fr.keeps F fun x o e => kF2.keep _ _ (GS' x o e (fun h => nomatch h))) (fun x o e => kF2.keep _ _ (GS' x o e (fun h => nomatch h)))) ?_)
  all_goals (unfold isupperB; refine Bool.eq_iff_iff.mpr ?_; simp only [Bool.or_eq_true, Bool.and_eq_true, decide_eq_true_eq, Bool.not_eq_true', Bool.or_eq_false_iff, Bool.and_eq_false_iff, decide_eq_false_iff_not, reduceCtorEq, iff_true, iff_false, Bool.false_eq_true, List.any_cons, List.any_nil, beq_iff_eq, Bool.or_false] <;> omega)
def islowerB (c : Int) : Bool := decide (97 ≤ c) && decide (c ≤ 122)
theorem call_islowerG (w : World) (mg mb : Str → Option Value) (mean : ExcName → Option Value) (cn : Str) (cs : Scope) (L a : Addr) (ccd : Value) (cl : List (Str × Addr)) (outer : List Env) (A₀ : Around) (base h₀ : Heap) (m : Str → Option Value) (s : Shared) (Q E : Value → Shared → Prop) (c : Int) (t : Tok)
    (B : Below A₀ base outer h₀) (F : Fr h₀ L s.heap m) (X : (hd.heap_39 w.params).In h₀) (T : TopM mean mg mb h₀) (hk : cs.kind = .function) (h0 : 0 ≤ c) (h1 : c < 256)
    (hret : ∀ h' tk, Fr h₀ L h' m → (∀ x o, s.heap.get? x = some o → h'.get? x = some o) → Q (.bool (islowerB c)) { s with heap := h', toks := tk }) :
    wpAny (model PySem.Challenge.rw_kq0072_01.row.prog w) (ktrTop 404 440 (some []) cn cs L a ccd cl outer) (call (.ref 121) [.int c t] []) Q E s := by
  have N : News h₀ L s.heap [] := News.nil
  revert X
  k_fill
  intro X
  refine wpAny_call ?_
  k_dflt (refine' code_defG ?k1 ?k2 ?k3 ?k4 ?k5 ?kA ?kF ?kK ?k6 ?k7 ?k8 ?k9 ?kB ?_ ?c2 ?c3 ?c4 ?c5; (case kA => exact rfl); (case kF => exact rfl); (case kK => assumption); (case k1 => k_asm); (case k2 => k_asm); (case k3 => k_asm); (case k4 => k_asm); (case k5 => k_asm); (case k6 => k_is); (case k7 => k_is); (case k8 => first | k_room | ktr_room); (case k9 => first | exact BindsTo.of_eq rfl | exact binds_K (by k_in) rfl (by k_is) rfl rfl rfl); (case c5 => decide); (case kB => exact locs rfl); (case c2 => exact rfl); (case c3 => exact rfl); (case c4 => exact rfl); k_whole; intro g' L' h' FG' F' N' B' X' T' GS'; (try dsimp only); (try k_lift B'); (try k_fold))
  k_steps
  all_goals (rename Fr g' L' _ _ => kF2)
  all_goals (refine fin_kind (hret _ _ (Fr.keeps F fun x o e => kF2.keep _ _ (GS' x o e (fun h => nomatch h))) (fun x o e => kF2.keep _ _ (GS' x o e (fun h => nomatch h)))) ?_)
  all_goals (unfold islowerB; refine Bool.eq_iff_iff.mpr ?_; simp only [Bool.or_eq_true, Bool.and_eq_true, decide_eq_true_eq, Bool.not_eq_true', Bool.or_eq_false_iff, Bool.and_eq_false_iff, decide_eq_false_iff_not, reduceCtorEq, iff_true, iff_false, Bool.false_eq_true, List.any_cons, List.any_nil, beq_iff_eq, Bool.or_false] <;> omega)
def isdigitB (c : Int) : Bool := decide (48 ≤ c) && decide (c ≤ 57)
theorem call_isdigitG (w : World) (mg mb : Str → Option Value) (mean : ExcName → Option Value) (cn : Str) (cs : Scope) (L a : Addr) (ccd : Value) (cl : List (Str × Addr)) (outer : List Env) (A₀ : Around) (base h₀ : Heap) (m : Str → Option Value) (s : Shared) (Q E : Value → Shared → Prop) (c : Int) (t : Tok)
    (B : Below A₀ base outer h₀) (F : Fr h₀ L s.heap m) (X : (hd.heap_39 w.params).In h₀) (T : TopM mean mg mb h₀) (hk : cs.kind = .function) (h0 : 0 ≤ c) (h1 : c < 256)
    (hret : ∀ h' tk, Fr h₀ L h' m → (∀ x o, s.heap.get? x = some o → h'.get? x = some o) → Q (.bool (isdigitB c)) { s with heap := h', toks := tk }) :
    wpAny (model PySem.Challenge.rw_kq0072_01.row.prog w) (ktrTop 404 440 (some []) cn cs L a ccd cl outer) (call (.ref 107) [.int c t] []) Q E s := by
  have N : News h₀ L s.heap [] := News.nil
  revert X
  k_fill
  intro X
  refine wpAny_call ?_
  k_dflt (refine' code_defG ?k1 ?k2 ?k3 ?k4 ?k5 ?kA ?kF ?kK ?k6 ?k7 ?k8 ?k9 ?kB ?_ ?c2 ?c3 ?c4 ?c5; (case kA => exact rfl); (case kF => exact rfl); (case kK => assumption); (case k1 => k_asm); (case k2 => k_asm); (case k3 => k_asm); (case k4 => k_asm); (case k5 => k_asm); (case k6 => k_is); (case k7 => k_is); (case k8 => first | k_room | ktr_room); (case k9 => first | exact BindsTo.of_eq rfl | exact binds_K (by k_in) rfl (by k_is) rfl rfl rfl); (case c5 => decide); (case kB => exact locs rfl); (case c2 => exact rfl); (case c3 => exact rfl); (case c4 => exact rfl); k_whole; intro g' L' h' FG' F' N' B' X' T' GS'; (try dsimp only); (try k_lift B'); (try k_fold))
  k_steps
  all_goals (rename Fr g' L' _ _ => kF2)
  all_goals (refine fin_kind (hret _ _ (Fr.keeps F fun x o e => kF2.keep _ _ (GS' x o e (fun h => nomatch h))) (fun x o e => kF2.keep _ _ (GS' x o e (fun h => nomatch h)))) ?_)
  all_goals (unfold isdigitB; refine Bool.eq_iff_iff.mpr ?_; simp only [Bool.or_eq_true, Bool.and_eq_true, decide_eq_true_eq, Bool.not_eq_true', Bool.or_eq_false_iff, Bool.and_eq_false_iff, decide_eq_false_iff_not, reduceCtorEq, iff_true, iff_false, Bool.false_eq_true, List.any_cons, List.any_nil, beq_iff_eq, Bool.or_false] <;> omega)
def isgraphB (c : Int) : Bool := decide (33 ≤ c) && decide (c ≤ 126)
theorem call_isgraphG (w : World) (mg mb : Str → Option Value) (mean : ExcName → Option Value) (cn : Str) (cs : Scope) (L a : Addr) (ccd : Value) (cl : List (Str × Addr)) (outer : List Env) (A₀ : Around) (base h₀ : Heap) (m : Str → Option Value) (s : Shared) (Q E : Value → Shared → Prop) (c : Int) (t : Tok)
    (B : Below A₀ base outer h₀) (F : Fr h₀ L s.heap m) (X : (hd.heap_39 w.params).In h₀) (T : TopM mean mg mb h₀) (hk : cs.kind = .function) (h0 : 0 ≤ c) (h1 : c < 256)
    (hret : ∀ h' tk, Fr h₀ L h' m → (∀ x o, s.heap.get? x = some o → h'.get? x = some o) → Q (.bool (isgraphB c)) { s with heap := h', toks := tk }) :
    wpAny (model PySem.Challenge.rw_kq0072_01.row.prog w) (ktrTop 404 440 (some []) cn cs L a ccd cl outer) (call (.ref 114) [.int c t] []) Q E s := by
  have N : News h₀ L s.heap [] := News.nil
  revert X
  k_fill
  intro X
  refine wpAny_call ?_
  k_dflt (refine' code_defG ?k1 ?k2 ?k3 ?k4 ?k5 ?kA ?kF ?kK ?k6 ?k7 ?k8 ?k9 ?kB ?_ ?c2 ?c3 ?c4 ?c5; (case kA => exact rfl); (case kF => exact rfl); (case kK => assumption); (case k1 => k_asm); (case k2 => k_asm); (case k3 => k_asm); (case k4 => k_asm); (case k5 => k_asm); (case k6 => k_is); (case k7 => k_is); (case k8 => first | k_room | ktr_room); (case k9 => first | exact BindsTo.of_eq rfl | exact binds_K (by k_in) rfl (by k_is) rfl rfl rfl); (case c5 => decide); (case kB => exact locs rfl); (case c2 => exact rfl); (case c3 => exact rfl); (case c4 => exact rfl); k_whole; intro g' L' h' FG' F' N' B' X' T' GS'; (try dsimp only); (try k_lift B'); (try k_fold))
  k_steps
  all_goals (rename Fr g' L' _ _ => kF2)
  all_goals (refine fin_kind (hret _ _ (Fr.keeps F fun x o e => kF2.keep _ _ (GS' x o e (fun h => nomatch h))) (fun x o e => kF2.keep _ _ (GS' x o e (fun h => nomatch h)))) ?_)
  all_goals (unfold isgraphB; refine Bool.eq_iff_iff.mpr ?_; simp only [Bool.or_eq_true, Bool.and_eq_true, decide_eq_true_eq, Bool.not_eq_true', Bool.or_eq_false_iff, Bool.and_eq_false_iff, decide_eq_false_iff_not, reduceCtorEq, iff_true, iff_false, Bool.false_eq_true, List.any_cons, List.any_nil, beq_iff_eq, Bool.or_false] <;> omega)
def isasciiB (c : Int) : Bool := decide (0 ≤ c) && decide (c ≤ 127)
theorem call_isasciiG (w : World) (mg mb : Str → Option Value) (mean : ExcName → Option Value) (cn : Str) (cs : Scope) (L a : Addr) (ccd : Value) (cl : List (Str × Addr)) (outer : List Env) (A₀ : Around) (base h₀ : Heap) (m : Str → Option Value) (s : Shared) (Q E : Value → Shared → Prop) (c : Int) (t : Tok)
    (B : Below A₀ base outer h₀) (F : Fr h₀ L s.heap m) (X : (hd.heap_39 w.params).In h₀) (T : TopM mean mg mb h₀) (hk : cs.kind = .function) (h0 : 0 ≤ c) (h1 : c < 256)
    (hret : ∀ h' tk, Fr h₀ L h' m → (∀ x o, s.heap.get? x = some o → h'.get? x = some o) → Q (.bool (isasciiB c)) { s with heap := h', toks := tk }) :
    wpAny (model PySem.Challenge.rw_kq0072_01.row.prog w) (ktrTop 404 440 (some []) cn cs L a ccd cl outer) (call (.ref 86) [.int c t] []) Q E s := by
  have N : News h₀ L s.heap [] := News.nil
  revert X
  k_fill
  intro X
  refine wpAny_call ?_
  k_dflt (refine' code_defG ?k1 ?k2 ?k3 ?k4 ?k5 ?kA ?kF ?kK ?k6 ?k7 ?k8 ?k9 ?kB ?_ ?c2 ?c3 ?c4 ?c5; (case kA => exact rfl); (case kF => exact rfl); (case kK => assumption); (case k1 => k_asm); (case k2 => k_asm); (case k3 => k_asm); (case k4 => k_asm); (case k5 => k_asm); (case k6 => k_is); (case k7 => k_is); (case k8 => first | k_room | ktr_room); (case k9 => first | exact BindsTo.of_eq rfl | exact binds_K (by k_in) rfl (by k_is) rfl rfl rfl); (case c5 => decide); (case kB => exact locs rfl); (case c2 => exact rfl); (case c3 => exact rfl); (case c4 => exact rfl); k_whole; intro g' L' h' FG' F' N' B' X' T' GS'; (try dsimp only); (try k_lift B'); (try k_fold))
  k_steps
  all_goals (rename Fr g' L' _ _ => kF2)
  all_goals (refine fin_kind (hret _ _ (Fr.keeps F fun x o e => kF2.keep _ _ (GS' x o e (fun h => nomatch h))) (fun x o e => kF2.keep _ _ (GS' x o e (fun h => nomatch h)))) ?_)
  all_goals (unfold isasciiB; refine Bool.eq_iff_iff.mpr ?_; simp only [Bool.or_eq_true, Bool.and_eq_true, decide_eq_true_eq, Bool.not_eq_true', Bool.or_eq_false_iff, Bool.and_eq_false_iff, decide_eq_false_iff_not, reduceCtorEq, iff_true, iff_false, Bool.false_eq_true, List.any_cons, List.any_nil, beq_iff_eq, Bool.or_false] <;> omega)
def isblankB (c : Int) : Bool := decide (c = 9) || decide (c = 32)
theorem call_isblankG (w : World) (mg mb : Str → Option Value) (mean : ExcName → Option Value) (cn : Str) (cs : Scope) (L a : Addr) (ccd : Value) (cl : List (Str × Addr)) (outer : List Env) (A₀ : Around) (base h₀ : Heap) (m : Str → Option Value) (s : Shared) (Q E : Value → Shared → Prop) (c : Int) (t : Tok)
    (B : Below A₀ base outer h₀) (F : Fr h₀ L s.heap m) (X : (hd.heap_39 w.params).In h₀) (T : TopM mean mg mb h₀) (hk : cs.kind = .function) (h0 : 0 ≤ c) (h1 : c < 256)
    (hret : ∀ h' tk, Fr h₀ L h' m → (∀ x o, s.heap.get? x = some o → h'.get? x = some o) → Q (.bool (isblankB c)) { s with heap := h', toks := tk }) :
    wpAny (model PySem.Challenge.rw_kq0072_01.row.prog w) (ktrTop 404 440 (some []) cn cs L a ccd cl outer) (call (.ref 93) [.int c t] []) Q E s := by
  have N : News h₀ L s.heap [] := News.nil
  revert X
  k_fill
  intro X
  refine wpAny_call ?_
  k_dflt (refine' code_defG ?k1 ?k2 ?k3 ?k4 ?k5 ?kA ?kF ?kK ?k6 ?k7 ?k8 ?k9 ?kB ?_ ?c2 ?c3 ?c4 ?c5; (case kA => exact rfl); (case kF => exact rfl); (case kK => assumption); (case k1 => k_asm); (case k2 => k_asm); (case k3 => k_asm); (case k4 => k_asm); (case k5 => k_asm); (case k6 => k_is); (case k7 => k_is); (case k8 => first | k_room | ktr_room); (case k9 => first | exact BindsTo.of_eq rfl | exact binds_K (by k_in) rfl (by k_is) rfl rfl rfl); (case c5 => decide); (case kB => exact locs rfl); (case c2 => exact rfl); (case c3 => exact rfl); (case c4 => exact rfl); k_whole; intro g' L' h' FG' F' N' B' X' T' GS'; (try dsimp only); (try k_lift B'); (try k_fold))
  k_steps
  all_goals (rename Fr g' L' _ _ => kF2)
  all_goals (refine fin_kind (hret _ _ (Fr.keeps F fun x o e => kF2.keep _ _ (GS' x o e (fun h => nomatch h))) (fun x o e => kF2.keep _ _ (GS' x o e (fun h => nomatch h)))) ?_)
  all_goals (unfold isblankB; refine Bool.eq_iff_iff.mpr ?_; simp only [Bool.or_eq_true, Bool.and_eq_true, decide_eq_true_eq, Bool.not_eq_true', Bool.or_eq_false_iff, Bool.and_eq_false_iff, decide_eq_false_iff_not, reduceCtorEq, iff_true, iff_false, Bool.false_eq_true, List.any_cons, List.any_nil, beq_iff_eq, Bool.or_false] <;> omega)
def iscntrlB (c : Int) : Bool := (decide (0 ≤ c) && decide (c ≤ 31)) || decide (c = 127)
theorem call_iscntrlG (w : World) (mg mb : Str → Option Value) (mean : ExcName → Option Value) (cn : Str) (cs : Scope) (L a : Addr) (ccd : Value) (cl : List (Str × Addr)) (outer : List Env) (A₀ : Around) (base h₀ : Heap) (m : Str → Option Value) (s : Shared) (Q E : Value → Shared → Prop) (c : Int) (t : Tok)
    (B : Below A₀ base outer h₀) (F : Fr h₀ L s.heap m) (X : (hd.heap_39 w.params).In h₀) (T : TopM mean mg mb h₀) (hk : cs.kind = .function) (h0 : 0 ≤ c) (h1 : c < 256)
    (hret : ∀ h' tk, Fr h₀ L h' m → (∀ x o, s.heap.get? x = some o → h'.get? x = some o) → Q (.bool (iscntrlB c)) { s with heap := h', toks := tk }) :
    wpAny (model PySem.Challenge.rw_kq0072_01.row.prog w) (ktrTop 404 440 (some []) cn cs L a ccd cl outer) (call (.ref 100) [.int c t] []) Q E s := by
  have N : News h₀ L s.heap [] := News.nil
  revert X
  k_fill
  intro X
  refine wpAny_call ?_
  k_dflt (refine' code_defG ?k1 ?k2 ?k3 ?k4 ?k5 ?kA ?kF ?kK ?k6 ?k7 ?k8 ?k9 ?kB ?_ ?c2 ?c3 ?c4 ?c5; (case kA => exact rfl); (case kF => exact rfl); (case kK => assumption); (case k1 => k_asm); (case k2 => k_asm); (case k3 => k_asm); (case k4 => k_asm); (case k5 => k_asm); (case k6 => k_is); (case k7 => k_is); (case k8 => first | k_room | ktr_room); (case k9 => first | exact BindsTo.of_eq rfl | exact binds_K (by k_in) rfl (by k_is) rfl rfl rfl); (case c5 => decide); (case kB => exact locs rfl); (case c2 => exact rfl); (case c3 => exact rfl); (case c4 => exact rfl); k_whole; intro g' L' h' FG' F' N' B' X' T' GS'; (try dsimp only); (try k_lift B'); (try k_fold))
  k_steps
  all_goals (rename Fr g' L' _ _ => kF2)
  all_goals (refine fin_kind (hret _ _ (Fr.keeps F fun x o e => kF2.keep _ _ (GS' x o e (fun h => nomatch h))) (fun x o e => kF2.keep _ _ (GS' x o e (fun h => nomatch h)))) ?_)
  all_goals (unfold iscntrlB; refine Bool.eq_iff_iff.mpr ?_; simp only [Bool.or_eq_true, Bool.and_eq_true, decide_eq_true_eq, Bool.not_eq_true', Bool.or_eq_false_iff, Bool.and_eq_false_iff, decide_eq_false_iff_not, reduceCtorEq, iff_true, iff_false, Bool.false_eq_true, List.any_cons, List.any_nil, beq_iff_eq, Bool.or_false] <;> omega)
def isctrlB (c : Int) : Bool := decide (0 ≤ c) && decide (c < 32)
theorem call_isctrlG (w : World) (mg mb : Str → Option Value) (mean : ExcName → Option Value) (cn : Str) (cs : Scope) (L a : Addr) (ccd : Value) (cl : List (Str × Addr)) (outer : List Env) (A₀ : Around) (base h₀ : Heap) (m : Str → Option Value) (s : Shared) (Q E : Value → Shared → Prop) (c : Int) (t : Tok)
    (B : Below A₀ base outer h₀) (F : Fr h₀ L s.heap m) (X : (hd.heap_39 w.params).In h₀) (T : TopM mean mg mb h₀) (hk : cs.kind = .function) (h0 : 0 ≤ c) (h1 : c < 256)
    (hret : ∀ h' tk, Fr h₀ L h' m → (∀ x o, s.heap.get? x = some o → h'.get? x = some o) → Q (.bool (isctrlB c)) { s with heap := h', toks := tk }) :
    wpAny (model PySem.Challenge.rw_kq0072_01.row.prog w) (ktrTop 404 440 (some []) cn cs L a ccd cl outer) (call (.ref 163) [.int c t] []) Q E s := by
  have N : News h₀ L s.heap [] := News.nil
  revert X
  k_fill
  intro X
  refine wpAny_call ?_
  k_dflt (refine' code_defG ?k1 ?k2 ?k3 ?k4 ?k5 ?kA ?kF ?kK ?k6 ?k7 ?k8 ?k9 ?kB ?_ ?c2 ?c3 ?c4 ?c5; (case kA => exact rfl); (case kF => exact rfl); (case kK => assumption); (case k1 => k_asm); (case k2 => k_asm); (case k3 => k_asm); (case k4 => k_asm); (case k5 => k_asm); (case k6 => k_is); (case k7 => k_is); (case k8 => first | k_room | ktr_room); (case k9 => first | exact BindsTo.of_eq rfl | exact binds_K (by k_in) rfl (by k_is) rfl rfl rfl); (case c5 => decide); (case kB => exact locs rfl); (case c2 => exact rfl); (case c3 => exact rfl); (case c4 => exact rfl); k_whole; intro g' L' h' FG' F' N' B' X' T' GS'; (try dsimp only); (try k_lift B'); (try k_fold))
  k_steps
  all_goals (rename Fr g' L' _ _ => kF2)
  all_goals (refine fin_kind (hret _ _ (Fr.keeps F fun x o e => kF2.keep _ _ (GS' x o e (fun h => nomatch h))) (fun x o e => kF2.keep _ _ (GS' x o e (fun h => nomatch h)))) ?_)
  all_goals (unfold isctrlB; refine Bool.eq_iff_iff.mpr ?_; simp only [Bool.or_eq_true, Bool.and_eq_true, decide_eq_true_eq, Bool.not_eq_true', Bool.or_eq_false_iff, Bool.and_eq_false_iff, decide_eq_false_iff_not, reduceCtorEq, iff_true, iff_false, Bool.false_eq_true, List.any_cons, List.any_nil, beq_iff_eq, Bool.or_false] <;> omega)
def ismetaB (c : Int) : Bool := decide (c > 127)
theorem call_ismetaG (w : World) (mg mb : Str → Option Value) (mean : ExcName → Option Value) (cn : Str) (cs : Scope) (L a : Addr) (ccd : Value) (cl : List (Str × Addr)) (outer : List Env) (A₀ : Around) (base h₀ : Heap) (m : Str → Option Value) (s : Shared) (Q E : Value → Shared → Prop) (c : Int) (t : Tok)
    (B : Below A₀ base outer h₀) (F : Fr h₀ L s.heap m) (X : (hd.heap_39 w.params).In h₀) (T : TopM mean mg mb h₀) (hk : cs.kind = .function) (h0 : 0 ≤ c) (h1 : c < 256)
    (hret : ∀ h' tk, Fr h₀ L h' m → (∀ x o, s.heap.get? x = some o → h'.get? x = some o) → Q (.bool (ismetaB c)) { s with heap := h', toks := tk }) :
    wpAny (model PySem.Challenge.rw_kq0072_01.row.prog w) (ktrTop 404 440 (some []) cn cs L a ccd cl outer) (call (.ref 170) [.int c t] []) Q E s := by
  have N : News h₀ L s.heap [] := News.nil
  revert X
  k_fill
  intro X
  refine wpAny_call ?_
  k_dflt (refine' code_defG ?k1 ?k2 ?k3 ?k4 ?k5 ?kA ?kF ?kK ?k6 ?k7 ?k8 ?k9 ?kB ?_ ?c2 ?c3 ?c4 ?c5; (case kA => exact rfl); (case kF => exact rfl); (case kK => assumption); (case k1 => k_asm); (case k2 => k_asm); (case k3 => k_asm); (case k4 => k_asm); (case k5 => k_asm); (case k6 => k_is); (case k7 => k_is); (case k8 => first | k_room | ktr_room); (case k9 => first | exact BindsTo.of_eq rfl | exact binds_K (by k_in) rfl (by k_is) rfl rfl rfl); (case c5 => decide); (case kB => exact locs rfl); (case c2 => exact rfl); (case c3 => exact rfl); (case c4 => exact rfl); k_whole; intro g' L' h' FG' F' N' B' X' T' GS'; (try dsimp only); (try k_lift B'); (try k_fold))
  k_steps
  all_goals (rename Fr g' L' _ _ => kF2)
  all_goals (refine fin_kind (hret _ _ (Fr.keeps F fun x o e => kF2.keep _ _ (GS' x o e (fun h => nomatch h))) (fun x o e => kF2.keep _ _ (GS' x o e (fun h => nomatch h)))) ?_)
  all_goals (unfold ismetaB; refine Bool.eq_iff_iff.mpr ?_; simp only [Bool.or_eq_true, Bool.and_eq_true, decide_eq_true_eq, Bool.not_eq_true', Bool.or_eq_false_iff, Bool.and_eq_false_iff, decide_eq_false_iff_not, reduceCtorEq, iff_true, iff_false, Bool.false_eq_true, List.any_cons, List.any_nil, beq_iff_eq, Bool.or_false] <;> omega)
def isprintB (c : Int) : Bool := decide (32 ≤ c) && decide (c ≤ 126)
theorem call_isprintG (w : World) (mg mb : Str → Option Value) (mean : ExcName → Option Value) (cn : Str) (cs : Scope) (L a : Addr) (ccd : Value) (cl : List (Str × Addr)) (outer : List Env) (A₀ : Around) (base h₀ : Heap) (m : Str → Option Value) (s : Shared) (Q E : Value → Shared → Prop) (c : Int) (t : Tok)
    (B : Below A₀ base outer h₀) (F : Fr h₀ L s.heap m) (X : (hd.heap_39 w.params).In h₀) (T : TopM mean mg mb h₀) (hk : cs.kind = .function) (h0 : 0 ≤ c) (h1 : c < 256)
    (hret : ∀ h' tk, Fr h₀ L h' m → (∀ x o, s.heap.get? x = some o → h'.get? x = some o) → Q (.bool (isprintB c)) { s with heap := h', toks := tk }) :
    wpAny (model PySem.Challenge.rw_kq0072_01.row.prog w) (ktrTop 404 440 (some []) cn cs L a ccd cl outer) (call (.ref 128) [.int c t] []) Q E s := by
  have N : News h₀ L s.heap [] := News.nil
  revert X
  k_fill
  intro X
  refine wpAny_call ?_
  k_dflt (refine' code_defG ?k1 ?k2 ?k3 ?k4 ?k5 ?kA ?kF ?kK ?k6 ?k7 ?k8 ?k9 ?kB ?_ ?c2 ?c3 ?c4 ?c5; (case kA => exact rfl); (case kF => exact rfl); (case kK => assumption); (case k1 => k_asm); (case k2 => k_asm); (case k3 => k_asm); (case k4 => k_asm); (case k5 => k_asm); (case k6 => k_is); (case k7 => k_is); (case k8 => first | k_room | ktr_room); (case k9 => first | exact BindsTo.of_eq rfl | exact binds_K (by k_in) rfl (by k_is) rfl rfl rfl); (case c5 => decide); (case kB => exact locs rfl); (case c2 => exact rfl); (case c3 => exact rfl); (case c4 => exact rfl); k_whole; intro g' L' h' FG' F' N' B' X' T' GS'; (try dsimp only); (try k_lift B'); (try k_fold))
  k_steps
  all_goals (rename Fr g' L' _ _ => kF2)
  all_goals (refine fin_kind (hret _ _ (Fr.keeps F fun x o e => kF2.keep _ _ (GS' x o e (fun h => nomatch h))) (fun x o e => kF2.keep _ _ (GS' x o e (fun h => nomatch h)))) ?_)
  all_goals (unfold isprintB; refine Bool.eq_iff_iff.mpr ?_; simp only [Bool.or_eq_true, Bool.and_eq_true, decide_eq_true_eq, Bool.not_eq_true', Bool.or_eq_false_iff, Bool.and_eq_false_iff, decide_eq_false_iff_not, reduceCtorEq, iff_true, iff_false, Bool.false_eq_true, List.any_cons, List.any_nil, beq_iff_eq, Bool.or_false] <;> omega)
def isspaceB (c : Int) : Bool := decide (c = 9) || decide (c = 10) || decide (c = 11) || decide (c = 12) || decide (c = 13) || decide (c = 32)
theorem call_isspaceG (w : World) (mg mb : Str → Option Value) (mean : ExcName → Option Value) (cn : Str) (cs : Scope) (L a : Addr) (ccd : Value) (cl : List (Str × Addr)) (outer : List Env) (A₀ : Around) (base h₀ : Heap) (m : Str → Option Value) (s : Shared) (Q E : Value → Shared → Prop) (c : Int) (t : Tok)
    (B : Below A₀ base outer h₀) (F : Fr h₀ L s.heap m) (X : (hd.heap_39 w.params).In h₀) (T : TopM mean mg mb h₀) (hk : cs.kind = .function) (h0 : 0 ≤ c) (h1 : c < 256)
    (hret : ∀ h' tk, Fr h₀ L h' m → (∀ x o, s.heap.get? x = some o → h'.get? x = some o) → Q (.bool (isspaceB c)) { s with heap := h', toks := tk }) :
    wpAny (model PySem.Challenge.rw_kq0072_01.row.prog w) (ktrTop 404 440 (some []) cn cs L a ccd cl outer) (call (.ref 142) [.int c t] []) Q E s := by
  have N : News h₀ L s.heap [] := News.nil
  revert X
  k_fill
  intro X
  refine wpAny_call ?_
  k_dflt (refine' code_defG ?k1 ?k2 ?k3 ?k4 ?k5 ?kA ?kF ?kK ?k6 ?k7 ?k8 ?k9 ?kB ?_ ?c2 ?c3 ?c4 ?c5; (case kA => exact rfl); (case kF => exact rfl); (case kK => assumption); (case k1 => k_asm); (case k2 => k_asm); (case k3 => k_asm); (case k4 => k_asm); (case k5 => k_asm); (case k6 => k_is); (case k7 => k_is); (case k8 => first | k_room | ktr_room); (case k9 => first | exact BindsTo.of_eq rfl | exact binds_K (by k_in) rfl (by k_is) rfl rfl rfl); (case c5 => decide); (case kB => exact locs rfl); (case c2 => exact rfl); (case c3 => exact rfl); (case c4 => exact rfl); k_whole; intro g' L' h' FG' F' N' B' X' T' GS'; (try dsimp only); (try k_lift B'); (try k_fold))
  k_steps
  all_goals (rename Fr g' L' _ _ => kF2)
  all_goals (refine fin_kind (hret _ _ (Fr.keeps F fun x o e => kF2.keep _ _ (GS' x o e (fun h => nomatch h))) (fun x o e => kF2.keep _ _ (GS' x o e (fun h => nomatch h)))) ?_)
  all_goals (unfold isspaceB; refine Bool.eq_iff_iff.mpr ?_; simp only [Bool.or_eq_true, Bool.and_eq_true, decide_eq_true_eq, Bool.not_eq_true', Bool.or_eq_false_iff, Bool.and_eq_false_iff, decide_eq_false_iff_not, reduceCtorEq, iff_true, iff_false, Bool.false_eq_true, List.any_cons, List.any_nil, beq_iff_eq, Bool.or_false] <;> omega)
local macro_rules | `(tactic| walk_at "call ref") => `(tactic| (k_here; (with_reducible show wpAny _ _ (call (Value.ref 149) [Value.int _ _] _) _ _ _); k_dflt (refine' at_deeper (D' := 404) (U' := 440) ?zd ?zu (call_isupperG _ _ _ _ _ _ _ _ _ _ _ _ _ _ _ _ _ _ _ _ ?k0 ?k1 ?k2 ?k3 ?k4 ?k5 ?k6 ?_); (case zd => decide); (case zu => decide); (case k0 => k_asm); (case k1 => k_asm); (case k2 => k_asm); (case k3 => k_asm); (case k4 => rfl); (case k5 => assumption); (case k6 => assumption); k_whole); intro h' tk' F' keep'; (rename News _ _ _ _ => N0'); have N1' := News.grown N0' keep'))
local macro_rules | `(tactic| walk_at "call ref") => `(tactic| (k_here; (with_reducible show wpAny _ _ (call (Value.ref 121) [Value.int _ _] _) _ _ _); k_dflt (refine' at_deeper (D' := 404) (U' := 440) ?zd ?zu (call_islowerG _ _ _ _ _ _ _ _ _ _ _ _ _ _ _ _ _ _ _ _ ?k0 ?k1 ?k2 ?k3 ?k4 ?k5 ?k6 ?_); (case zd => decide); (case zu => decide); (case k0 => k_asm); (case k1 => k_asm); (case k2 => k_asm); (case k3 => k_asm); (case k4 => rfl); (case k5 => assumption); (case k6 => assumption); k_whole); intro h' tk' F' keep'; (rename News _ _ _ _ => N0'); have N1' := News.grown N0' keep'))
def isalphaB (c : Int) : Bool := isupperB c || islowerB c
theorem call_isalphaG (w : World) (mg mb : Str → Option Value) (mean : ExcName → Option Value) (cn : Str) (cs : Scope) (L a : Addr) (ccd : Value) (cl : List (Str × Addr)) (outer : List Env) (A₀ : Around) (base h₀ : Heap) (m : Str → Option Value) (s : Shared) (Q E : Value → Shared → Prop) (c : Int) (t : Tok)
    (B : Below A₀ base outer h₀) (F : Fr h₀ L s.heap m) (X : (hd.heap_39 w.params).In h₀) (T : TopM mean mg mb h₀) (hk : cs.kind = .function) (h0 : 0 ≤ c) (h1 : c < 256)
    (hret : ∀ h' tk, Fr h₀ L h' m → (∀ x o, s.heap.get? x = some o → h'.get? x = some o) → Q (.bool (isalphaB c)) { s with heap := h', toks := tk }) :
    wpAny (model PySem.Challenge.rw_kq0072_01.row.prog w) (ktrTop 402 430 (some []) cn cs L a ccd cl outer) (call (.ref 79) [.int c t] []) Q E s := by
  have N : News h₀ L s.heap [] := News.nil
  revert X
  k_fill
  intro X
  refine wpAny_call ?_
  k_dflt (refine' code_defG ?k1 ?k2 ?k3 ?k4 ?k5 ?kA ?kF ?kK ?k6 ?k7 ?k8 ?k9 ?kB ?_ ?c2 ?c3 ?c4 ?c5; (case kA => exact rfl); (case kF => exact rfl); (case kK => assumption); (case k1 => k_asm); (case k2 => k_asm); (case k3 => k_asm); (case k4 => k_asm); (case k5 => k_asm); (case k6 => k_is); (case k7 => k_is); (case k8 => first | k_room | ktr_room); (case k9 => first | exact BindsTo.of_eq rfl | exact binds_K (by k_in) rfl (by k_is) rfl rfl rfl); (case c5 => decide); (case kB => exact locs rfl); (case c2 => exact rfl); (case c3 => exact rfl); (case c4 => exact rfl); k_whole; intro g' L' h' FG' F' N' B' X' T' GS'; (try dsimp only); (try k_lift B'); (try k_fold))
  k_steps
  all_goals (rename Fr g' L' _ _ => kF2)
  all_goals (refine fin_kind (hret _ _ (Fr.keeps F fun x o e => kF2.keep _ _ (GS' x o e (fun h => nomatch h))) (fun x o e => kF2.keep _ _ (GS' x o e (fun h => nomatch h)))) ?_)
  all_goals (unfold isalphaB; simp_all)
local macro_rules | `(tactic| walk_at "call ref") => `(tactic| (k_here; (with_reducible show wpAny _ _ (call (Value.ref 107) [Value.int _ _] _) _ _ _); k_dflt (refine' at_deeper (D' := 404) (U' := 440) ?zd ?zu (call_isdigitG _ _ _ _ _ _ _ _ _ _ _ _ _ _ _ _ _ _ _ _ ?k0 ?k1 ?k2 ?k3 ?k4 ?k5 ?k6 ?_); (case zd => decide); (case zu => decide); (case k0 => k_asm); (case k1 => k_asm); (case k2 => k_asm); (case k3 => k_asm); (case k4 => rfl); (case k5 => assumption); (case k6 => assumption); k_whole); intro h' tk' F' keep'; (rename News _ _ _ _ => N0'); have N1' := News.grown N0' keep'))
def isxdigitB (c : Int) : Bool := isdigitB c || (decide (65 ≤ c) && decide (c ≤ 70)) || (decide (97 ≤ c) && decide (c ≤ 102))
theorem call_isxdigitG (w : World) (mg mb : Str → Option Value) (mean : ExcName → Option Value) (cn : Str) (cs : Scope) (L a : Addr) (ccd : Value) (cl : List (Str × Addr)) (outer : List Env) (A₀ : Around) (base h₀ : Heap) (m : Str → Option Value) (s : Shared) (Q E : Value → Shared → Prop) (c : Int) (t : Tok)
    (B : Below A₀ base outer h₀) (F : Fr h₀ L s.heap m) (X : (hd.heap_39 w.params).In h₀) (T : TopM mean mg mb h₀) (hk : cs.kind = .function) (h0 : 0 ≤ c) (h1 : c < 256)
    (hret : ∀ h' tk, Fr h₀ L h' m → (∀ x o, s.heap.get? x = some o → h'.get? x = some o) → Q (.bool (isxdigitB c)) { s with heap := h', toks := tk }) :
    wpAny (model PySem.Challenge.rw_kq0072_01.row.prog w) (ktrTop 400 420 (some []) cn cs L a ccd cl outer) (call (.ref 156) [.int c t] []) Q E s := by
  have N : News h₀ L s.heap [] := News.nil
  revert X
  k_fill
  intro X
  refine wpAny_call ?_
  k_dflt (refine' code_defG ?k1 ?k2 ?k3 ?k4 ?k5 ?kA ?kF ?kK ?k6 ?k7 ?k8 ?k9 ?kB ?_ ?c2 ?c3 ?c4 ?c5; (case kA => exact rfl); (case kF => exact rfl); (case kK => assumption); (case k1 => k_asm); (case k2 => k_asm); (case k3 => k_asm); (case k4 => k_asm); (case k5 => k_asm); (case k6 => k_is); (case k7 => k_is); (case k8 => first | k_room | ktr_room); (case k9 => first | exact BindsTo.of_eq rfl | exact binds_K (by k_in) rfl (by k_is) rfl rfl rfl); (case c5 => decide); (case kB => exact locs rfl); (case c2 => exact rfl); (case c3 => exact rfl); (case c4 => exact rfl); k_whole; intro g' L' h' FG' F' N' B' X' T' GS'; (try dsimp only); (try k_lift B'); (try k_fold))
  k_steps
  all_goals (rename Fr g' L' _ _ => kF2)
  all_goals (refine fin_kind (hret _ _ (Fr.keeps F fun x o e => kF2.keep _ _ (GS' x o e (fun h => nomatch h))) (fun x o e => kF2.keep _ _ (GS' x o e (fun h => nomatch h)))) ?_)
  all_goals (unfold isxdigitB; first | (simp_all; done) | (simp_all; omega) | (refine Bool.eq_iff_iff.mpr ?_; simp_all; omega))
local macro_rules | `(tactic| walk_at "call ref") => `(tactic| (k_here; (with_reducible show wpAny _ _ (call (Value.ref 79) [Value.int _ _] _) _ _ _); k_dflt (refine' at_deeper (D' := 402) (U' := 430) ?zd ?zu (call_isalphaG _ _ _ _ _ _ _ _ _ _ _ _ _ _ _ _ _ _ _ _ ?k0 ?k1 ?k2 ?k3 ?k4 ?k5 ?k6 ?_); (case zd => decide); (case zu => decide); (case k0 => k_asm); (case k1 => k_asm); (case k2 => k_asm); (case k3 => k_asm); (case k4 => rfl); (case k5 => assumption); (case k6 => assumption); k_whole); intro h' tk' F' keep'; (rename News _ _ _ _ => N0'); have N1' := News.grown N0' keep'))
def isalnumB (c : Int) : Bool := isalphaB c || isdigitB c
theorem call_isalnumG (w : World) (mg mb : Str → Option Value) (mean : ExcName → Option Value) (cn : Str) (cs : Scope) (L a : Addr) (ccd : Value) (cl : List (Str × Addr)) (outer : List Env) (A₀ : Around) (base h₀ : Heap) (m : Str → Option Value) (s : Shared) (Q E : Value → Shared → Prop) (c : Int) (t : Tok)
    (B : Below A₀ base outer h₀) (F : Fr h₀ L s.heap m) (X : (hd.heap_39 w.params).In h₀) (T : TopM mean mg mb h₀) (hk : cs.kind = .function) (h0 : 0 ≤ c) (h1 : c < 256)
    (hret : ∀ h' tk, Fr h₀ L h' m → (∀ x o, s.heap.get? x = some o → h'.get? x = some o) → Q (.bool (isalnumB c)) { s with heap := h', toks := tk }) :
    wpAny (model PySem.Challenge.rw_kq0072_01.row.prog w) (ktrTop 400 420 (some []) cn cs L a ccd cl outer) (call (.ref 72) [.int c t] []) Q E s := by
  have N : News h₀ L s.heap [] := News.nil
  revert X
  k_fill
  intro X
  refine wpAny_call ?_
  k_dflt (refine' code_defG ?k1 ?k2 ?k3 ?k4 ?k5 ?kA ?kF ?kK ?k6 ?k7 ?k8 ?k9 ?kB ?_ ?c2 ?c3 ?c4 ?c5; (case kA => exact rfl); (case kF => exact rfl); (case kK => assumption); (case k1 => k_asm); (case k2 => k_asm); (case k3 => k_asm); (case k4 => k_asm); (case k5 => k_asm); (case k6 => k_is); (case k7 => k_is); (case k8 => first | k_room | ktr_room); (case k9 => first | exact BindsTo.of_eq rfl | exact binds_K (by k_in) rfl (by k_is) rfl rfl rfl); (case c5 => decide); (case kB => exact locs rfl); (case c2 => exact rfl); (case c3 => exact rfl); (case c4 => exact rfl); k_whole; intro g' L' h' FG' F' N' B' X' T' GS'; (try dsimp only); (try k_lift B'); (try k_fold))
  k_steps
  all_goals (rename Fr g' L' _ _ => kF2)
  all_goals (refine fin_kind (hret _ _ (Fr.keeps F fun x o e => kF2.keep _ _ (GS' x o e (fun h => nomatch h))) (fun x o e => kF2.keep _ _ (GS' x o e (fun h => nomatch h)))) ?_)
  all_goals (unfold isalnumB; simp_all)
local macro_rules | `(tactic| walk_at "call ref") => `(tactic| (k_here; (with_reducible show wpAny _ _ (call (Value.ref 114) [Value.int _ _] _) _ _ _); k_dflt (refine' at_deeper (D' := 404) (U' := 440) ?zd ?zu (call_isgraphG _ _ _ _ _ _ _ _ _ _ _ _ _ _ _ _ _ _ _ _ ?k0 ?k1 ?k2 ?k3 ?k4 ?k5 ?k6 ?_); (case zd => decide); (case zu => decide); (case k0 => k_asm); (case k1 => k_asm); (case k2 => k_asm); (case k3 => k_asm); (case k4 => rfl); (case k5 => assumption); (case k6 => assumption); k_whole); intro h' tk' F' keep'; (rename News _ _ _ _ => N0'); have N1' := News.grown N0' keep'))
local macro_rules | `(tactic| walk_at "call ref") => `(tactic| (k_here; (with_reducible show wpAny _ _ (call (Value.ref 72) [Value.int _ _] _) _ _ _); k_dflt (refine' at_deeper (D' := 400) (U' := 420) ?zd ?zu (call_isalnumG _ _ _ _ _ _ _ _ _ _ _ _ _ _ _ _ _ _ _ _ ?k0 ?k1 ?k2 ?k3 ?k4 ?k5 ?k6 ?_); (case zd => decide); (case zu => decide); (case k0 => k_asm); (case k1 => k_asm); (case k2 => k_asm); (case k3 => k_asm); (case k4 => rfl); (case k5 => assumption); (case k6 => assumption); k_whole); intro h' tk' F' keep'; (rename News _ _ _ _ => N0'); have N1' := News.grown N0' keep'))
def ispunctB (c : Int) : Bool := isgraphB c && !isalnumB c
theorem call_ispunctG (w : World) (mg mb : Str → Option Value) (mean : ExcName → Option Value) (cn : Str) (cs : Scope) (L a : Addr) (ccd : Value) (cl : List (Str × Addr)) (outer : List Env) (A₀ : Around) (base h₀ : Heap) (m : Str → Option Value) (s : Shared) (Q E : Value → Shared → Prop) (c : Int) (t : Tok)
    (B : Below A₀ base outer h₀) (F : Fr h₀ L s.heap m) (X : (hd.heap_39 w.params).In h₀) (T : TopM mean mg mb h₀) (hk : cs.kind = .function) (h0 : 0 ≤ c) (h1 : c < 256)
    (hret : ∀ h' tk, Fr h₀ L h' m → (∀ x o, s.heap.get? x = some o → h'.get? x = some o) → Q (.bool (ispunctB c)) { s with heap := h', toks := tk }) :
    wpAny (model PySem.Challenge.rw_kq0072_01.row.prog w) (ktrTop 398 410 (some []) cn cs L a ccd cl outer) (call (.ref 135) [.int c t] []) Q E s := by
  have N : News h₀ L s.heap [] := News.nil
  revert X
  k_fill
  intro X
  refine wpAny_call ?_
  k_dflt (refine' code_defG ?k1 ?k2 ?k3 ?k4 ?k5 ?kA ?kF ?kK ?k6 ?k7 ?k8 ?k9 ?kB ?_ ?c2 ?c3 ?c4 ?c5; (case kA => exact rfl); (case kF => exact rfl); (case kK => assumption); (case k1 => k_asm); (case k2 => k_asm); (case k3 => k_asm); (case k4 => k_asm); (case k5 => k_asm); (case k6 => k_is); (case k7 => k_is); (case k8 => first | k_room | ktr_room); (case k9 => first | exact BindsTo.of_eq rfl | exact binds_K (by k_in) rfl (by k_is) rfl rfl rfl); (case c5 => decide); (case kB => exact locs rfl); (case c2 => exact rfl); (case c3 => exact rfl); (case c4 => exact rfl); k_whole; intro g' L' h' FG' F' N' B' X' T' GS'; (try dsimp only); (try k_lift B'); (try k_fold))
  k_steps
  all_goals (rename Fr g' L' _ _ => kF2)
  all_goals (refine fin_kind (hret _ _ (Fr.keeps F fun x o e => kF2.keep _ _ (GS' x o e (fun h => nomatch h))) (fun x o e => kF2.keep _ _ (GS' x o e (fun h => nomatch h)))) ?_)
  all_goals (unfold ispunctB; simp_all)
theorem call_isalnum (w : World) (mg mb : Str → Option Value) (mean : ExcName → Option Value) (h₀ : Heap) (L a : Addr) (cd : Value) (m : Str → Option Value) (s : Shared) (Q E : Value → Shared → Prop) (c : Int) (t : Tok)
    (F : Fr h₀ L s.heap m) (X : (hd.heap_39 w.params).In h₀) (T : TopM mean mg mb h₀) (h0 : 0 ≤ c) (h1 : c < 256)
    (hret : ∀ h' tk, Fr h₀ L h' m → (∀ x o, s.heap.get? x = some o → h'.get? x = some o) → Q (.bool (isalnumB c)) { s with heap := h', toks := tk }) :
    wpAny (model PySem.Challenge.rw_kq0072_01.row.prog w) (lawA L a cd) (call (.ref 72) [.int c t] []) Q E s :=
  at_law2 (D := 400) (U := 420) (by decide) (by decide) (call_isalnumG w mg mb mean _ _ L a cd _ [] callerA h₀ h₀ m s Q E c t (below_caller h₀) F X T lawKind h0 h1 hret)
theorem call_isalpha (w : World) (mg mb : Str → Option Value) (mean : ExcName → Option Value) (h₀ : Heap) (L a : Addr) (cd : Value) (m : Str → Option Value) (s : Shared) (Q E : Value → Shared → Prop) (c : Int) (t : Tok)
    (F : Fr h₀ L s.heap m) (X : (hd.heap_39 w.params).In h₀) (T : TopM mean mg mb h₀) (h0 : 0 ≤ c) (h1 : c < 256)
    (hret : ∀ h' tk, Fr h₀ L h' m → (∀ x o, s.heap.get? x = some o → h'.get? x = some o) → Q (.bool (isalphaB c)) { s with heap := h', toks := tk }) :
    wpAny (model PySem.Challenge.rw_kq0072_01.row.prog w) (lawA L a cd) (call (.ref 79) [.int c t] []) Q E s :=
  at_law2 (D := 402) (U := 430) (by decide) (by decide) (call_isalphaG w mg mb mean _ _ L a cd _ [] callerA h₀ h₀ m s Q E c t (below_caller h₀) F X T lawKind h0 h1 hret)
theorem call_isascii (w : World) (mg mb : Str → Option Value) (mean : ExcName → Option Value) (h₀ : Heap) (L a : Addr) (cd : Value) (m : Str → Option Value) (s : Shared) (Q E : Value → Shared → Prop) (c : Int) (t : Tok)
    (F : Fr h₀ L s.heap m) (X : (hd.heap_39 w.params).In h₀) (T : TopM mean mg mb h₀) (h0 : 0 ≤ c) (h1 : c < 256)
    (hret : ∀ h' tk, Fr h₀ L h' m → (∀ x o, s.heap.get? x = some o → h'.get? x = some o) → Q (.bool (isasciiB c)) { s with heap := h', toks := tk }) :
    wpAny (model PySem.Challenge.rw_kq0072_01.row.prog w) (lawA L a cd) (call (.ref 86) [.int c t] []) Q E s :=
  at_law2 (D := 404) (U := 440) (by decide) (by decide) (call_isasciiG w mg mb mean _ _ L a cd _ [] callerA h₀ h₀ m s Q E c t (below_caller h₀) F X T lawKind h0 h1 hret)
theorem call_isblank (w : World) (mg mb : Str → Option Value) (mean : ExcName → Option Value) (h₀ : Heap) (L a : Addr) (cd : Value) (m : Str → Option Value) (s : Shared) (Q E : Value → Shared → Prop) (c : Int) (t : Tok)
    (F : Fr h₀ L s.heap m) (X : (hd.heap_39 w.params).In h₀) (T : TopM mean mg mb h₀) (h0 : 0 ≤ c) (h1 : c < 256)
    (hret : ∀ h' tk, Fr h₀ L h' m → (∀ x o, s.heap.get? x = some o → h'.get? x = some o) → Q (.bool (isblankB c)) { s with heap := h', toks := tk }) :
    wpAny (model PySem.Challenge.rw_kq0072_01.row.prog w) (lawA L a cd) (call (.ref 93) [.int c t] []) Q E s :=
  at_law2 (D := 404) (U := 440) (by decide) (by decide) (call_isblankG w mg mb mean _ _ L a cd _ [] callerA h₀ h₀ m s Q E c t (below_caller h₀) F X T lawKind h0 h1 hret)
theorem call_iscntrl (w : World) (mg mb : Str → Option Value) (mean : ExcName → Option Value) (h₀ : Heap) (L a : Addr) (cd : Value) (m : Str → Option Value) (s : Shared) (Q E : Value → Shared → Prop) (c : Int) (t : Tok)
    (F : Fr h₀ L s.heap m) (X : (hd.heap_39 w.params).In h₀) (T : TopM mean mg mb h₀) (h0 : 0 ≤ c) (h1 : c < 256)
    (hret : ∀ h' tk, Fr h₀ L h' m → (∀ x o, s.heap.get? x = some o → h'.get? x = some o) → Q (.bool (iscntrlB c)) { s with heap := h', toks := tk }) :
    wpAny (model PySem.Challenge.rw_kq0072_01.row.prog w) (lawA L a cd) (call (.ref 100) [.int c t] []) Q E s :=
  at_law2 (D := 404) (U := 440) (by decide) (by decide) (call_iscntrlG w mg mb mean _ _ L a cd _ [] callerA h₀ h₀ m s Q E c t (below_caller h₀) F X T lawKind h0 h1 hret)
theorem call_isctrl (w : World) (mg mb : Str → Option Value) (mean : ExcName → Option Value) (h₀ : Heap) (L a : Addr) (cd : Value) (m : Str → Option Value) (s : Shared) (Q E : Value → Shared → Prop) (c : Int) (t : Tok)
    (F : Fr h₀ L s.heap m) (X : (hd.heap_39 w.params).In h₀) (T : TopM mean mg mb h₀) (h0 : 0 ≤ c) (h1 : c < 256)
    (hret : ∀ h' tk, Fr h₀ L h' m → (∀ x o, s.heap.get? x = some o → h'.get? x = some o) → Q (.bool (isctrlB c)) { s with heap := h', toks := tk }) :
    wpAny (model PySem.Challenge.rw_kq0072_01.row.prog w) (lawA L a cd) (call (.ref 163) [.int c t] []) Q E s :=
  at_law2 (D := 404) (U := 440) (by decide) (by decide) (call_isctrlG w mg mb mean _ _ L a cd _ [] callerA h₀ h₀ m s Q E c t (below_caller h₀) F X T lawKind h0 h1 hret)
theorem call_isgraph (w : World) (mg mb : Str → Option Value) (mean : ExcName → Option Value) (h₀ : Heap) (L a : Addr) (cd : Value) (m : Str → Option Value) (s : Shared) (Q E : Value → Shared → Prop) (c : Int) (t : Tok)
    (F : Fr h₀ L s.heap m) (X : (hd.heap_39 w.params).In h₀) (T : TopM mean mg mb h₀) (h0 : 0 ≤ c) (h1 : c < 256)
    (hret : ∀ h' tk, Fr h₀ L h' m → (∀ x o, s.heap.get? x = some o → h'.get? x = some o) → Q (.bool (isgraphB c)) { s with heap := h', toks := tk }) :
    wpAny (model PySem.Challenge.rw_kq0072_01.row.prog w) (lawA L a cd) (call (.ref 114) [.int c t] []) Q E s :=
  at_law2 (D := 404) (U := 440) (by decide) (by decide) (call_isgraphG w mg mb mean _ _ L a cd _ [] callerA h₀ h₀ m s Q E c t (below_caller h₀) F X T lawKind h0 h1 hret)
theorem call_isdigit (w : World) (mg mb : Str → Option Value) (mean : ExcName → Option Value) (h₀ : Heap) (L a : Addr) (cd : Value) (m : Str → Option Value) (s : Shared) (Q E : Value → Shared → Prop) (c : Int) (t : Tok)
    (F : Fr h₀ L s.heap m) (X : (hd.heap_39 w.params).In h₀) (T : TopM mean mg mb h₀) (h0 : 0 ≤ c) (h1 : c < 256)
    (hret : ∀ h' tk, Fr h₀ L h' m → (∀ x o, s.heap.get? x = some o → h'.get? x = some o) → Q (.bool (isdigitB c)) { s with heap := h', toks := tk }) :
    wpAny (model PySem.Challenge.rw_kq0072_01.row.prog w) (lawA L a cd) (call (.ref 107) [.int c t] []) Q E s :=
  at_law2 (D := 404) (U := 440) (by decide) (by decide) (call_isdigitG w mg mb mean _ _ L a cd _ [] callerA h₀ h₀ m s Q E c t (below_caller h₀) F X T lawKind h0 h1 hret)
theorem call_islower (w : World) (mg mb : Str → Option Value) (mean : ExcName → Option Value) (h₀ : Heap) (L a : Addr) (cd : Value) (m : Str → Option Value) (s : Shared) (Q E : Value → Shared → Prop) (c : Int) (t : Tok)
    (F : Fr h₀ L s.heap m) (X : (hd.heap_39 w.params).In h₀) (T : TopM mean mg mb h₀) (h0 : 0 ≤ c) (h1 : c < 256)
    (hret : ∀ h' tk, Fr h₀ L h' m → (∀ x o, s.heap.get? x = some o → h'.get? x = some o) → Q (.bool (islowerB c)) { s with heap := h', toks := tk }) :
    wpAny (model PySem.Challenge.rw_kq0072_01.row.prog w) (lawA L a cd) (call (.ref 121) [.int c t] []) Q E s :=
  at_law2 (D := 404) (U := 440) (by decide) (by decide) (call_islowerG w mg mb mean _ _ L a cd _ [] callerA h₀ h₀ m s Q E c t (below_caller h₀) F X T lawKind h0 h1 hret)
theorem call_ismeta (w : World) (mg mb : Str → Option Value) (mean : ExcName → Option Value) (h₀ : Heap) (L a : Addr) (cd : Value) (m : Str → Option Value) (s : Shared) (Q E : Value → Shared → Prop) (c : Int) (t : Tok)
    (F : Fr h₀ L s.heap m) (X : (hd.heap_39 w.params).In h₀) (T : TopM mean mg mb h₀) (h0 : 0 ≤ c) (h1 : c < 256)
    (hret : ∀ h' tk, Fr h₀ L h' m → (∀ x o, s.heap.get? x = some o → h'.get? x = some o) → Q (.bool (ismetaB c)) { s with heap := h', toks := tk }) :
    wpAny (model PySem.Challenge.rw_kq0072_01.row.prog w) (lawA L a cd) (call (.ref 170) [.int c t] []) Q E s :=
  at_law2 (D := 404) (U := 440) (by decide) (by decide) (call_ismetaG w mg mb mean _ _ L a cd _ [] callerA h₀ h₀ m s Q E c t (below_caller h₀) F X T lawKind h0 h1 hret)
theorem call_isprint (w : World) (mg mb : Str → Option Value) (mean : ExcName → Option Value) (h₀ : Heap) (L a : Addr) (cd : Value) (m : Str → Option Value) (s : Shared) (Q E : Value → Shared → Prop) (c : Int) (t : Tok)
    (F : Fr h₀ L s.heap m) (X : (hd.heap_39 w.params).In h₀) (T : TopM mean mg mb h₀) (h0 : 0 ≤ c) (h1 : c < 256)
    (hret : ∀ h' tk, Fr h₀ L h' m → (∀ x o, s.heap.get? x = some o → h'.get? x = some o) → Q (.bool (isprintB c)) { s with heap := h', toks := tk }) :
    wpAny (model PySem.Challenge.rw_kq0072_01.row.prog w) (lawA L a cd) (call (.ref 128) [.int c t] []) Q E s :=
  at_law2 (D := 404) (U := 440) (by decide) (by decide) (call_isprintG w mg mb mean _ _ L a cd _ [] callerA h₀ h₀ m s Q E c t (below_caller h₀) F X T lawKind h0 h1 hret)
theorem call_ispunct (w : World) (mg mb : Str → Option Value) (mean : ExcName → Option Value) (h₀ : Heap) (L a : Addr) (cd : Value) (m : Str → Option Value) (s : Shared) (Q E : Value → Shared → Prop) (c : Int) (t : Tok)
    (F : Fr h₀ L s.heap m) (X : (hd.heap_39 w.params).In h₀) (T : TopM mean mg mb h₀) (h0 : 0 ≤ c) (h1 : c < 256)
    (hret : ∀ h' tk, Fr h₀ L h' m → (∀ x o, s.heap.get? x = some o → h'.get? x = some o) → Q (.bool (ispunctB c)) { s with heap := h', toks := tk }) :
    wpAny (model PySem.Challenge.rw_kq0072_01.row.prog w) (lawA L a cd) (call (.ref 135) [.int c t] []) Q E s :=
  at_law2 (D := 398) (U := 410) (by decide) (by decide) (call_ispunctG w mg mb mean _ _ L a cd _ [] callerA h₀ h₀ m s Q E c t (below_caller h₀) F X T lawKind h0 h1 hret)
theorem call_isspace (w : World) (mg mb : Str → Option Value) (mean : ExcName → Option Value) (h₀ : Heap) (L a : Addr) (cd : Value) (m : Str → Option Value) (s : Shared) (Q E : Value → Shared → Prop) (c : Int) (t : Tok)
    (F : Fr h₀ L s.heap m) (X : (hd.heap_39 w.params).In h₀) (T : TopM mean mg mb h₀) (h0 : 0 ≤ c) (h1 : c < 256)
    (hret : ∀ h' tk, Fr h₀ L h' m → (∀ x o, s.heap.get? x = some o → h'.get? x = some o) → Q (.bool (isspaceB c)) { s with heap := h', toks := tk }) :
    wpAny (model PySem.Challenge.rw_kq0072_01.row.prog w) (lawA L a cd) (call (.ref 142) [.int c t] []) Q E s :=
  at_law2 (D := 404) (U := 440) (by decide) (by decide) (call_isspaceG w mg mb mean _ _ L a cd _ [] callerA h₀ h₀ m s Q E c t (below_caller h₀) F X T lawKind h0 h1 hret)
theorem call_isupper (w : World) (mg mb : Str → Option Value) (mean : ExcName → Option Value) (h₀ : Heap) (L a : Addr) (cd : Value) (m : Str → Option Value) (s : Shared) (Q E : Value → Shared → Prop) (c : Int) (t : Tok)
    (F : Fr h₀ L s.heap m) (X : (hd.heap_39 w.params).In h₀) (T : TopM mean mg mb h₀) (h0 : 0 ≤ c) (h1 : c < 256)
    (hret : ∀ h' tk, Fr h₀ L h' m → (∀ x o, s.heap.get? x = some o → h'.get? x = some o) → Q (.bool (isupperB c)) { s with heap := h', toks := tk }) :
    wpAny (model PySem.Challenge.rw_kq0072_01.row.prog w) (lawA L a cd) (call (.ref 149) [.int c t] []) Q E s :=
  at_law2 (D := 404) (U := 440) (by decide) (by decide) (call_isupperG w mg mb mean _ _ L a cd _ [] callerA h₀ h₀ m s Q E c t (below_caller h₀) F X T lawKind h0 h1 hret)
theorem call_isxdigit (w : World) (mg mb : Str → Option Value) (mean : ExcName → Option Value) (h₀ : Heap) (L a : Addr) (cd : Value) (m : Str → Option Value) (s : Shared) (Q E : Value → Shared → Prop) (c : Int) (t : Tok)
    (F : Fr h₀ L s.heap m) (X : (hd.heap_39 w.params).In h₀) (T : TopM mean mg mb h₀) (h0 : 0 ≤ c) (h1 : c < 256)
    (hret : ∀ h' tk, Fr h₀ L h' m → (∀ x o, s.heap.get? x = some o → h'.get? x = some o) → Q (.bool (isxdigitB c)) { s with heap := h', toks := tk }) :
    wpAny (model PySem.Challenge.rw_kq0072_01.row.prog w) (lawA L a cd) (call (.ref 156) [.int c t] []) Q E s :=
  at_law2 (D := 400) (U := 420) (by decide) (by decide) (call_isxdigitG w mg mb mean _ _ L a cd _ [] callerA h₀ h₀ m s Q E c t (below_caller h₀) F X T lawKind h0 h1 hret)
end Mine
end
section -- Kinds
open PySem PySem.W PyProof.Rows PySem.Calls
set_option maxRecDepth 100000
set_option maxHeartbeats 4000000
namespace Mine
def kAddr : Nat → Addr
  | 0 => 72
  | 1 => 79
  | 2 => 86
  | 3 => 93
  | 4 => 100
  | 5 => 163
  | 6 => 114
  | 7 => 107
  | 8 => 121
  | 9 => 170
  | 10 => 128
  | 11 => 135
  | 12 => 142
  | 13 => 149
  | 14 => 156
  | _ => 0
def kMem : Nat → List Int
  | 0 => [118, 119, 120, 121]
  | 1 => [118, 119, 120, 121]
  | 2 => rangeInts 0 1 128
  | 3 => [9, 32]
  | 4 => rangeInts 0 1 32 ++ [127]
  | 5 => rangeInts 0 1 32
  | 6 => [118, 119, 120, 121] ++ [123, 124, 125, 126]
  | 7 => []
  | 8 => [118, 119, 120, 121]
  | 9 => rangeInts 128 1 128
  | 10 => [32] ++ [118, 119, 120, 121] ++ [123, 124, 125, 126]
  | 11 => [123, 124, 125, 126]
  | 12 => [9, 10, 11, 12, 13, 32]
  | 13 => []
  | 14 => []
  | _ => []

structure KindRow (h h' : Heap) (j : Nat) (T M : Addr) : Prop where
  tup : h'.get? T = some { cls := .type "tuple", data := .seq #[.ref (kAddr j), .ref M] }
  tnew : h.get? T = none
  mnew : h.get? M = none
  lis : ∃ ms k, h'.get? M = some (listOf ms k) ∧ IntsAre ms.toList (kMem j)
theorem KindRow.of {h h' : Heap} {L' : Addr} {j : Nat} {T M : Addr} {news : List (Addr × Obj)} {ms : Array Value} {k : Nat} {o : Obj} (N : News h L' h' news) (hT : (T, o) ∈ news) (ho : o = { cls := .type "tuple", data := .seq #[.ref (kAddr j), .ref M] }) (hM : (M, listOf ms k) ∈ news) (hI : IntsAre ms.toList (kMem j)) : KindRow h h' j T M :=
  ⟨ho ▸ (N _ hT).1, (N _ hT).2.2, (N _ hM).2.2, ms, k, (N _ hM).1, hI⟩

def isTup : PySem.Expr → Bool
  | .Tuple _ _ _ => true
  | _ => false
section
variable {M : Model} {A : Around} {E : Value → Shared → Prop} {env : Env}
theorem star_tup {e : PySem.Expr} {rest : List PySem.Expr} (h : isTup e = true) : starEach (e :: rest) env = (false, eval e env) :: starEach rest env := by
  cases e <;> first | rfl | cases h
def AllAt (P : Nat → PySem.Expr → Prop) : Nat → List PySem.Expr → Prop
  | _, [] => True
  | k, e :: es => P k e ∧ AllAt P (k + 1) es
theorem items_inv {pos : Pos} (I : Nat → List Value → Shared → Prop) : ∀ (es : List PySem.Expr) (k : Nat) (pre : List Value) (s : Shared) (Q : List Value → Shared → Prop), I k pre s → (es.all isTup = true) →
    AllAt (fun k e => ∀ pre s, I k pre s → wpAny M A (eval e env) (fun v s₁ => I (k + 1) (pre ++ [v]) s₁) E s) k es →
    (∀ vs s', I (k + es.length) (pre ++ vs) s' → Q vs s') → wpAny M A (spliced (backTo pos (starEach es env))) Q E s := by
  intro es
  induction es with
  | nil =>
    intro k pre s Q hI _ _ hQ
    refine spliced_none (hQ [] s ?_)
    rw [List.append_nil]
    exact hI
  | cons e es ih =>
    intro k pre s Q hI ht hs hQ
    rw [List.all_cons, Bool.and_eq_true] at ht
    refine spliced_more ?_ (star_tup ht.1)
    refine wpAny_mono (hs.1 pre s hI) (fun v s₁ h₁ => ?_) (fun _ _ h => h)
    refine ih (k + 1) (pre ++ [v]) s₁ _ h₁ ht.2 hs.2 (fun vs s' h' => hQ _ _ ?_)
    have e1 : k + 1 + es.length = k + (es.length + 1) := Nat.succ_add_eq_add_succ k es.length
    rw [e1, List.append_assoc] at h'
    exact h'
end
structure KIn (g h : Heap) (L' : Addr) (m : Str → Option Value) (r : List (Addr × Obj)) (k : Nat) (pre : List Value) : Prop where
  F : Fr g L' h m
  N : News g L' h r
  len : pre.length = k
  rows : ∀ i, i < k → ∃ T M o ms kk, pre[i]? = some (.ref T) ∧ (T, o) ∈ r ∧ o = { cls := .type "tuple", data := .seq #[.ref (kAddr i), .ref M] } ∧ (M, listOf ms kk) ∈ r ∧ IntsAre ms.toList (kMem i)
structure KInv (g : Heap) (L' : Addr) (m : Str → Option Value) (s₀ : Shared) (lo ma : Addr) (ol om : Obj) (k : Nat) (pre : List Value) (s : Shared) : Prop where
  go : ∃ h tk r, s = { s₀ with heap := h, toks := tk } ∧ KIn g h L' m ((ma, om) :: (lo, ol) :: r) k pre
theorem KIn.next {g h h' : Heap} {L' : Addr} {m : Str → Option Value} {r r' : List (Addr × Obj)} {k : Nat} {pre : List Value} {T M : Addr} {o : Obj} {ms : Array Value} {kk : Nat} (K : KIn g h L' m r k pre) (F : Fr g L' h' m) (N : News g L' h' r') (hr : ∀ p ∈ r, p ∈ r')
    (hT : (T, o) ∈ r') (ho : o = { cls := .type "tuple", data := .seq #[.ref (kAddr k), .ref M] }) (hM : (M, listOf ms kk) ∈ r') (hI : IntsAre ms.toList (kMem k)) : KIn g h' L' m r' (k + 1) (pre ++ [.ref T]) := by
  refine ⟨F, N, by rw [List.length_append, K.len]; rfl, fun i hi => ?_⟩
  by_cases h1 : i < k
  · obtain ⟨T, M, o, ms, kk, a1, a2, a3, a4, a5⟩ := K.rows i h1
    refine ⟨T, M, o, ms, kk, ?_, hr _ a2, a3, hr _ a4, a5⟩
    rw [List.getElem?_append_left (by rw [K.len]; exact h1)]
    exact a1
  · obtain rfl : i = k := by omega
    refine ⟨T, M, o, ms, kk, ?_, hT, ho, hM, hI⟩
    rw [List.getElem?_append_right (by rw [K.len]; exact Nat.le_refl _), K.len, Nat.sub_self]
    rfl
theorem KIn.inv {g h h' : Heap} {L' : Addr} {m : Str → Option Value} {r r' : List (Addr × Obj)} {k : Nat} {pre : List Value} {T M lo ma : Addr} {ol om o : Obj} {ms : Array Value} {kk : Nat} {s₀ : Shared} {tk : Nat} (K : KIn g h L' m ((ma, om) :: (lo, ol) :: r) k pre) (F : Fr g L' h' m) (N : News g L' h' r') (hr : ∀ p ∈ (ma, om) :: (lo, ol) :: r, p ∈ r')
    (hT : (T, o) ∈ r') (ho : o = { cls := .type "tuple", data := .seq #[.ref (kAddr k), .ref M] }) (hM : (M, listOf ms kk) ∈ r') (hI : IntsAre ms.toList (kMem k)) : KInv g L' m s₀ lo ma ol om (k + 1) (pre ++ [.ref T]) { s₀ with heap := h', toks := tk } := by
  have up : ∀ p ∈ r', p ∈ (ma, om) :: (lo, ol) :: r' := fun p hp => List.mem_cons_of_mem _ (List.mem_cons_of_mem _ hp)
  refine ⟨_, _, r', rfl, K.next F (fun p hp => ?_) (fun p hp => up p (hr p hp)) (up _ hT) ho (up _ hM) hI⟩
  rcases List.mem_cons.mp hp with rfl | hp
  · exact N _ (hr _ (List.mem_cons_self ..))
  rcases List.mem_cons.mp hp with rfl | hp
  · exact N _ (hr _ (List.mem_cons_of_mem _ (List.mem_cons_self ..)))
  · exact N _ hp
theorem nones {g s h : Heap} {L : Addr} {r : List (Addr × Obj)} {l : List Addr} (G : GSub s g l) (hl : l = []) (N : News g L h r) : ∀ p ∈ r, s.get? p.1 = none := fun p hp => by
  subst hl
  cases q : s.get? p.1 with
  | none => rfl
  | some o => have := (N p hp).2.2; rw [G _ _ q (fun h => nomatch h)] at this; cases this
structure HoldOnK (p : Prop) : Prop where
  go : p
local macro_rules | `(tactic| walk_at "callWith") => `(tactic| ((with_reducible show wpAny _ _ (callWith _ (Value.builtin _) (_ :: _) _ _) _ _ _); refine callWith_method1 ?_))
local macro_rules | `(tactic| walk_at "eval List") => `(tactic| (k_here; (with_reducible show wpAny _ _ (eval (Expr.List (Expr.Tuple _ _ _ :: _) _) _) _ _ _); refine HoldOnK.go ?_))
theorem law_kinds (w : World) (mg mb : Str → Option Value) (mean : ExcName → Option Value) (h₀ : Heap) (L a : Addr) (cd : Value) (m : Str → Option Value) (s : Shared) (Q E : Value → Shared → Prop)
    (F : Fr h₀ L s.heap m) (X : (hd.heap_39 w.params).In h₀) (T : TopM mean mg mb h₀)
    (hret : ∀ h' tk P k (vs : List Value), Fr h₀ L h' m → (∀ x o, s.heap.get? x = some o → h'.get? x = some o) → s.heap.get? P = none → h'.get? P = some (listOf vs.toArray k) → vs.length = 15 → (∀ i, i < 15 → ∃ T M, vs[i]? = some (.ref T) ∧ KindRow s.heap h' i T M) → Q (.ref P) { s with heap := h', toks := tk }) :
    wpAny (model PySem.Challenge.rw_kq0072_01.row.prog w) (lawA L a cd) (call (.ref 177) [] []) Q E s := by
  have N : News h₀ L s.heap [] := News.nil
  have B := below_caller h₀
  revert X
  k_fill
  intro X
  refine wpAny_call ?_
  k_dflt (refine' code_defG ?k1 ?k2 ?k3 ?k4 ?k5 ?kA ?kF ?kK ?k6 ?k7 ?k8 ?k9 ?kB ?_ ?c2 ?c3 ?c4 ?c5; (case kA => exact rfl); (case kF => exact rfl); (case kK => exact rfl); (case k1 => k_asm); (case k2 => k_asm); (case k3 => k_asm); (case k4 => k_asm); (case k5 => k_asm); (case k6 => k_is); (case k7 => k_is); (case k8 => first | k_room | ktr_room); (case k9 => first | exact BindsTo.of_eq rfl | exact binds_K (by k_in) rfl (by k_is) rfl rfl rfl); (case c5 => decide); (case kB => exact locs rfl); (case c2 => exact rfl); (case c3 => exact rfl); (case c4 => exact rfl); k_whole; intro g' L' h' FG' F' N' B' X' T' GS'; (try dsimp only); (try k_lift B'); (try k_fold))
  k_steps
  refine HoldOnK.mk ?_
  rename Fr g' L' _ _ => hF
  rename News g' L' _ _ => hN
  rename @LT.lt Nat _ _ _ => hlt
  refine List_ ?_
  refine items_inv (KInv g' L' _ s _ _ _ _) _ 0 [] _ _ ⟨_, _, _, rfl, hF, hN, rfl, fun i hi => absurd hi (Nat.not_lt_zero i)⟩ rfl ?_ ?_
  · clear hF hN F FG' N hret
    refine ⟨?_, ?_, ?_, ?_, ?_, ?_, ?_, ?_, ?_, ?_, ?_, ?_, ?_, ?_, ?_, trivial⟩
    all_goals
      intro pre s₁ hI
      obtain ⟨h₁, tk₁, r, rfl, K⟩ := hI
      have hF := K.F
      have hN := K.N
      k_steps
      rename Fr g' L' _ _ => hF
      rename News g' L' _ _ => hN
      refine' KIn.inv K hF hN ?zr ?zt rfl ?zm ?zi
      case zr => intro p hp; repeat (first | exact hp | refine List.mem_cons_of_mem _ ?_)
      case zt => k_mem
      case zm => k_mem
      case zi => first | assumption | (repeat (first | exact IntsAre.nil | refine IntsAre.cons _ _ ?_))
  · clear hF hN
    intro vs s₁ hI
    obtain ⟨h₁, tk₁, r, rfl, K⟩ := hI
    have hlen := K.len
    have rows := K.rows
    rw [List.nil_append] at hlen rows
    refine newList_N K.F K.N ?_ (by rw [hlen]; decide)
    intro h' F2 N2
    k_steps
    have keep : ∀ x o, s.heap.get? x = some o → _ := fun x o e => F2.keep x o (GS' x o e (fun h => nomatch h))
    have nn := nones GS' rfl N2
    refine hret _ _ _ _ vs (Fr.keeps F keep) keep (nn _ (List.mem_cons_self ..)) (N2 _ (List.mem_cons_self ..)).1 hlen (fun i hi => ?_)
    obtain ⟨T, M, o, ms, kk, a1, a2, a3, a4, a5⟩ := rows i hi
    exact ⟨T, M, a1, a3 ▸ (N2 _ (List.mem_cons_of_mem _ a2)).1, nn _ (List.mem_cons_of_mem _ a2), nn _ (List.mem_cons_of_mem _ a4), ms, kk, (N2 _ (List.mem_cons_of_mem _ a4)).1, a5⟩
end Mine
end
section -- Law2
open PySem PySem.W PyProof.Rows
set_option maxRecDepth 100000
set_option maxHeartbeats 4000000
namespace Mine
local macro_rules | `(tactic| walk_at "callWith") => `(tactic| ((with_reducible show wpAny _ _ (callWith _ (Value.builtin _) (_ :: _) _ _) _ _ _); refine callWith_method1 ?_))
theorem row_turns (w : World) (mg mb : Str → Option Value) (mean : ExcName → Option Value) (h₀ : Heap) (L a : Addr) (cd : Value) (m : Str → Option Value) (s : Shared) (cl : List (Str × Addr)) (ws : List Value) (ns : List Int) (S : List (Addr × Obj) → Prop) (Fin : List Value → List (Addr × Obj) → Prop) (news : List (Addr × Obj))
    (X : (hd.heap_39 w.params).In h₀) (T : TopM mean mg mb h₀) (I : IntsAre ws ns) (hS : S news) (hfin : ∀ ys, IntsAre ys (rowOf ns) → Fin ys news) :
    ∀ k i ys, i + k = ws.length → IntsAre ys (rowOf (ns.take i)) →
      LCt.CompRestT PRG w (lawA L a cd) h₀ L m (lawEnv L a cd) (compTest (asgVal (stmtAt lawBody 1))) (compElt (asgVal (stmtAt lawBody 1))) (Str.ofString "x") (compScope (asgVal (stmtAt lawBody 1))) cl s S (fun i v => ws.toArray[i]? = some v) Fin k i ys news := by
  intro k
  induction k with
  | zero =>
    intro i ys hi hy
    refine LCt.CompRestT.zero (hfin ys ?_)
    have : ns.length ≤ i := by rw [← intsAre_len I, ← hi]; exact Nat.le_refl _
    rwa [List.take_of_length_le this] at hy
  | succ k ih =>
    intro i ys hi hy
    refine LCt.CompRestT.succ ?_
    intro v I' oI' C' oC' D' m' h' tk' E' hv' hC' hx' F' N' off' ne'
    rw [List.getElem?_toArray] at hv'
    obtain ⟨n, t, rfl, hn⟩ := ints_at I hv'
    have ihT := fun t' => ih (i + 1) (ys ++ [.int (n / 2 % 256) t']) (by omega)
    have ihF := ih (i + 1) ys (by omega)
    rw [take_snoc hn, rowOf_snoc] at ihF
    simp only [take_snoc hn, rowOf_snoc] at ihT
    clear ih
    dsimp only [lawEnv, lawBody, lawScope, lawDef, stmtAt, defBody, defScope, asgVal, compTest, compElt, compIfs, compScope, PySem.Challenge.pw_kq0072_01, PRG, lawA]
    revert X
    k_fill
    intro X
    k_steps
    · rename Int.fmod _ _ = _ => h0
      rw [Int.fmod_eq_emod_of_nonneg n (by decide)] at h0
      refine LCg.CompEnd.intro (by assumption) (by assumption) news (fun p h => h) off' hS ?_
      rw [Int.fdiv_eq_ediv_of_nonneg n (by decide), Int.fmod_eq_emod_of_nonneg _ (by decide)]
      refine ihT _ ?_
      rw [if_pos h0]
      exact ints_snoc hy
    · rename ¬ Int.fmod _ _ = _ => h0
      rw [Int.fmod_eq_emod_of_nonneg n (by decide)] at h0
      refine LCg.CompEnd.intro (by assumption) (by assumption) news (fun p h => h) off' hS ?_
      refine ihF ?_
      rw [if_neg h0]
      exact hy
end Mine
end
section -- Seg5
open PySem PySem.W PyProof.Rows PySem.Calls
set_option maxRecDepth 100000
set_option maxHeartbeats 4000000
namespace Mine
local macro_rules | `(tactic| walk_at "callWith") => `(tactic| ((with_reducible show wpAny _ _ (callWith _ (Value.builtin _) (_ :: _) _ _) _ _ _); refine callWith_method1 ?_))
def kindB : Nat → Int → Bool
  | 0 => isalnumB
  | 1 => isalphaB
  | 2 => isasciiB
  | 3 => isblankB
  | 4 => iscntrlB
  | 5 => isctrlB
  | 6 => isgraphB
  | 7 => isdigitB
  | 8 => islowerB
  | 9 => ismetaB
  | 10 => isprintB
  | 11 => ispunctB
  | 12 => isspaceB
  | 13 => isupperB
  | 14 => isxdigitB
  | _ => fun _ => false
/-- what a call of a kind gives, at the law's around -/
structure KindCall (w : World) (h₀ : Heap) (L a : Addr) (cd : Value) (f : Addr) (c : Int) (t : Tok) (r : Bool) : Prop where
  go : ∀ (m : Str → Option Value) (s : Shared) (Q E : Value → Shared → Prop), Fr h₀ L s.heap m → (∀ h' tk, Fr h₀ L h' m → (∀ x o, s.heap.get? x = some o → h'.get? x = some o) → Q (.bool r) { s with heap := h', toks := tk }) →
    wpAny (model PySem.Challenge.rw_kq0072_01.row.prog w) (lawA L a cd) (call (.ref f) [.int c t] []) Q E s
theorem kind_call (w : World) (mg mb : Str → Option Value) (mean : ExcName → Option Value) (h₀ : Heap) (L a : Addr) (cd : Value) (c : Int) (t : Tok) (X : (hd.heap_39 w.params).In h₀) (T : TopM mean mg mb h₀) (h0 : 0 ≤ c) (h1 : c < 256) (j : Nat) (hj : j < 15) :
    KindCall w h₀ L a cd (kAddr j) c t (kindB j c) := by
  match j, hj with
  | 0, _ => exact ⟨fun m s Q E F q => call_isalnum w mg mb mean h₀ L a cd m s Q E c t F X T h0 h1 q⟩
  | 1, _ => exact ⟨fun m s Q E F q => call_isalpha w mg mb mean h₀ L a cd m s Q E c t F X T h0 h1 q⟩
  | 2, _ => exact ⟨fun m s Q E F q => call_isascii w mg mb mean h₀ L a cd m s Q E c t F X T h0 h1 q⟩
  | 3, _ => exact ⟨fun m s Q E F q => call_isblank w mg mb mean h₀ L a cd m s Q E c t F X T h0 h1 q⟩
  | 4, _ => exact ⟨fun m s Q E F q => call_iscntrl w mg mb mean h₀ L a cd m s Q E c t F X T h0 h1 q⟩
  | 5, _ => exact ⟨fun m s Q E F q => call_isctrl w mg mb mean h₀ L a cd m s Q E c t F X T h0 h1 q⟩
  | 6, _ => exact ⟨fun m s Q E F q => call_isgraph w mg mb mean h₀ L a cd m s Q E c t F X T h0 h1 q⟩
  | 7, _ => exact ⟨fun m s Q E F q => call_isdigit w mg mb mean h₀ L a cd m s Q E c t F X T h0 h1 q⟩
  | 8, _ => exact ⟨fun m s Q E F q => call_islower w mg mb mean h₀ L a cd m s Q E c t F X T h0 h1 q⟩
  | 9, _ => exact ⟨fun m s Q E F q => call_ismeta w mg mb mean h₀ L a cd m s Q E c t F X T h0 h1 q⟩
  | 10, _ => exact ⟨fun m s Q E F q => call_isprint w mg mb mean h₀ L a cd m s Q E c t F X T h0 h1 q⟩
  | 11, _ => exact ⟨fun m s Q E F q => call_ispunct w mg mb mean h₀ L a cd m s Q E c t F X T h0 h1 q⟩
  | 12, _ => exact ⟨fun m s Q E F q => call_isspace w mg mb mean h₀ L a cd m s Q E c t F X T h0 h1 q⟩
  | 13, _ => exact ⟨fun m s Q E F q => call_isupper w mg mb mean h₀ L a cd m s Q E c t F X T h0 h1 q⟩
  | 14, _ => exact ⟨fun m s Q E F q => call_isxdigit w mg mb mean h₀ L a cd m s Q E c t F X T h0 h1 q⟩
  | n + 15, h => exact absurd h (by omega)
theorem func_of {K : Frag} {h : Heap} {f : Addr} {name qual : Str} {params : Arguments} {body : List Stmt} {scope : Scope} {dV kV doc pm cdv ct oc : Value} {an od : Option Addr} {osl : Array (Option Value)} (X : K.In h) (ho : K.lookup f = some ⟨oc, od, .func (fnOf name qual params body scope dV kV doc pm an cdv ct), osl⟩) : ∃ o fd, h.get? f = some o ∧ o.data = .func fd := ⟨_, _, X _ _ ho, rfl⟩
theorem kind_obj0 (w : World) (h₀ : Heap) (X : (hd.heap_39 w.params).In h₀) : PySem.Challenge.rw_kq0072_01 = PySem.Challenge.rw_kq0072_01 → ∃ o fd, h₀.get? 72 = some o ∧ o.data = .func fd := by
  revert X
  k_fill
  intro X
  exact fun _ => func_of X (by k_is)
theorem kind_obj1 (w : World) (h₀ : Heap) (X : (hd.heap_39 w.params).In h₀) : PySem.Challenge.rw_kq0072_01 = PySem.Challenge.rw_kq0072_01 → ∃ o fd, h₀.get? 79 = some o ∧ o.data = .func fd := by
  revert X
  k_fill
  intro X
  exact fun _ => func_of X (by k_is)
theorem kind_obj2 (w : World) (h₀ : Heap) (X : (hd.heap_39 w.params).In h₀) : PySem.Challenge.rw_kq0072_01 = PySem.Challenge.rw_kq0072_01 → ∃ o fd, h₀.get? 86 = some o ∧ o.data = .func fd := by
  revert X
  k_fill
  intro X
  exact fun _ => func_of X (by k_is)
theorem kind_obj3 (w : World) (h₀ : Heap) (X : (hd.heap_39 w.params).In h₀) : PySem.Challenge.rw_kq0072_01 = PySem.Challenge.rw_kq0072_01 → ∃ o fd, h₀.get? 93 = some o ∧ o.data = .func fd := by
  revert X
  k_fill
  intro X
  exact fun _ => func_of X (by k_is)
theorem kind_obj4 (w : World) (h₀ : Heap) (X : (hd.heap_39 w.params).In h₀) : PySem.Challenge.rw_kq0072_01 = PySem.Challenge.rw_kq0072_01 → ∃ o fd, h₀.get? 100 = some o ∧ o.data = .func fd := by
  revert X
  k_fill
  intro X
  exact fun _ => func_of X (by k_is)
theorem kind_obj5 (w : World) (h₀ : Heap) (X : (hd.heap_39 w.params).In h₀) : PySem.Challenge.rw_kq0072_01 = PySem.Challenge.rw_kq0072_01 → ∃ o fd, h₀.get? 163 = some o ∧ o.data = .func fd := by
  revert X
  k_fill
  intro X
  exact fun _ => func_of X (by k_is)
theorem kind_obj6 (w : World) (h₀ : Heap) (X : (hd.heap_39 w.params).In h₀) : PySem.Challenge.rw_kq0072_01 = PySem.Challenge.rw_kq0072_01 → ∃ o fd, h₀.get? 114 = some o ∧ o.data = .func fd := by
  revert X
  k_fill
  intro X
  exact fun _ => func_of X (by k_is)
theorem kind_obj7 (w : World) (h₀ : Heap) (X : (hd.heap_39 w.params).In h₀) : PySem.Challenge.rw_kq0072_01 = PySem.Challenge.rw_kq0072_01 → ∃ o fd, h₀.get? 107 = some o ∧ o.data = .func fd := by
  revert X
  k_fill
  intro X
  exact fun _ => func_of X (by k_is)
theorem kind_obj8 (w : World) (h₀ : Heap) (X : (hd.heap_39 w.params).In h₀) : PySem.Challenge.rw_kq0072_01 = PySem.Challenge.rw_kq0072_01 → ∃ o fd, h₀.get? 121 = some o ∧ o.data = .func fd := by
  revert X
  k_fill
  intro X
  exact fun _ => func_of X (by k_is)
theorem kind_obj9 (w : World) (h₀ : Heap) (X : (hd.heap_39 w.params).In h₀) : PySem.Challenge.rw_kq0072_01 = PySem.Challenge.rw_kq0072_01 → ∃ o fd, h₀.get? 170 = some o ∧ o.data = .func fd := by
  revert X
  k_fill
  intro X
  exact fun _ => func_of X (by k_is)
theorem kind_obj10 (w : World) (h₀ : Heap) (X : (hd.heap_39 w.params).In h₀) : PySem.Challenge.rw_kq0072_01 = PySem.Challenge.rw_kq0072_01 → ∃ o fd, h₀.get? 128 = some o ∧ o.data = .func fd := by
  revert X
  k_fill
  intro X
  exact fun _ => func_of X (by k_is)
theorem kind_obj11 (w : World) (h₀ : Heap) (X : (hd.heap_39 w.params).In h₀) : PySem.Challenge.rw_kq0072_01 = PySem.Challenge.rw_kq0072_01 → ∃ o fd, h₀.get? 135 = some o ∧ o.data = .func fd := by
  revert X
  k_fill
  intro X
  exact fun _ => func_of X (by k_is)
theorem kind_obj12 (w : World) (h₀ : Heap) (X : (hd.heap_39 w.params).In h₀) : PySem.Challenge.rw_kq0072_01 = PySem.Challenge.rw_kq0072_01 → ∃ o fd, h₀.get? 142 = some o ∧ o.data = .func fd := by
  revert X
  k_fill
  intro X
  exact fun _ => func_of X (by k_is)
theorem kind_obj13 (w : World) (h₀ : Heap) (X : (hd.heap_39 w.params).In h₀) : PySem.Challenge.rw_kq0072_01 = PySem.Challenge.rw_kq0072_01 → ∃ o fd, h₀.get? 149 = some o ∧ o.data = .func fd := by
  revert X
  k_fill
  intro X
  exact fun _ => func_of X (by k_is)
theorem kind_obj14 (w : World) (h₀ : Heap) (X : (hd.heap_39 w.params).In h₀) : PySem.Challenge.rw_kq0072_01 = PySem.Challenge.rw_kq0072_01 → ∃ o fd, h₀.get? 156 = some o ∧ o.data = .func fd := by
  revert X
  k_fill
  intro X
  exact fun _ => func_of X (by k_is)
theorem kind_obj (w : World) (h₀ : Heap) (X : (hd.heap_39 w.params).In h₀) (j : Nat) (hj : j < 15) : ∃ o fd, h₀.get? (kAddr j) = some o ∧ o.data = .func fd := by
  match j, hj with
  | 0, _ => exact kind_obj0 w h₀ X rfl
  | 1, _ => exact kind_obj1 w h₀ X rfl
  | 2, _ => exact kind_obj2 w h₀ X rfl
  | 3, _ => exact kind_obj3 w h₀ X rfl
  | 4, _ => exact kind_obj4 w h₀ X rfl
  | 5, _ => exact kind_obj5 w h₀ X rfl
  | 6, _ => exact kind_obj6 w h₀ X rfl
  | 7, _ => exact kind_obj7 w h₀ X rfl
  | 8, _ => exact kind_obj8 w h₀ X rfl
  | 9, _ => exact kind_obj9 w h₀ X rfl
  | 10, _ => exact kind_obj10 w h₀ X rfl
  | 11, _ => exact kind_obj11 w h₀ X rfl
  | 12, _ => exact kind_obj12 w h₀ X rfl
  | 13, _ => exact kind_obj13 w h₀ X rfl
  | 14, _ => exact kind_obj14 w h₀ X rfl
  | n + 15, h => exact absurd h (by omega)
local macro_rules | `(tactic| walk_at "callWith ref") => `(tactic| (k_here; (with_reducible show wpAny _ _ (callWith _ (Value.ref _) [] (backTo _ (starEach (_ :: _) _)) []) _ _ _); (refine callWith_def (by assumption) ?_)))
local macro_rules | `(tactic| walk_at "And") => `(tactic| ((with_reducible show Heap.get? _ _ = some _ ∧ _); (refine ⟨Fr.keep (by assumption) _ _ (by assumption), ?_⟩)))
local macro_rules | `(tactic| walk_at "call ref") => `(tactic| (k_here; (with_reducible show wpAny _ _ (call (Value.ref _) [Value.int _ _] _) _ _ _); k_dflt (refine' KindCall.go (by assumption) _ _ _ _ ?zF ?_; (case zF => k_asm); k_whole); intro h' tk' F' keep'; (rename News _ _ _ _ => N0'); have N1' := News.grown N0' keep'))
theorem pass_turn (w : World) (mg mb : Str → Option Value) (mean : ExcName → Option Value) (h₀ : Heap) (L a : Addr) (cd : Value) (m : Str → Option Value) (s : Shared) (ps ys : List Value) (S : List (Addr × Obj) → Prop) (Fin : List Value → List (Addr × Obj) → Prop) (oK : Obj) (M P R D : Addr) (oM oPl oR oD oW oU oS oP : Obj) (k i : Nat) (c : Int) (t : Tok) (f : Addr) (o : Obj) (fd : FuncData) (r : Bool)
    (X : (hd.heap_39 w.params).In h₀) (T : TopM mean mg mb h₀) (hfo : h₀.get? f = some o) (hfd : o.data = .func fd) (hcall : KindCall w h₀ L a cd f c t r) (hoK : oK.data = .cell (some (.ref f))) (hS : S [(M, oM), (P, oPl), (R, oR), (D, oD), (L + 1 + 1 + 1 + 1 + 1, oW), (L + 1 + 1 + 1 + 1, oU), (L + 1 + 1 + 1, oS), (L + 1 + 1, oK), (L + 1, oP)]) (h0 : 0 ≤ c) (h1 : c < 256) (hv : ∀ v, ps.toArray[i]? = some v → v = .int c t)
    (ih : LCt.CompRestT PRG w (lawA L a cd) h₀ L m (lawEnv L a cd) (compTest (asgVal (stmtAt lawBody 5))) (compElt (asgVal (stmtAt lawBody 5))) (Str.ofString "c") (compScope (asgVal (stmtAt lawBody 5))) (passCl L) s S (fun i v => ps.toArray[i]? = some v) Fin k (i + 1) (if r = true then ys ++ [.int c t] else ys) [(M, oM), (P, oPl), (R, oR), (D, oD), (L + 1 + 1 + 1 + 1 + 1, oW), (L + 1 + 1 + 1 + 1, oU), (L + 1 + 1 + 1, oS), (L + 1 + 1, oK), (L + 1, oP)]) :
    LCt.CompRestT PRG w (lawA L a cd) h₀ L m (lawEnv L a cd) (compTest (asgVal (stmtAt lawBody 5))) (compElt (asgVal (stmtAt lawBody 5))) (Str.ofString "c") (compScope (asgVal (stmtAt lawBody 5))) (passCl L) s S (fun i v => ps.toArray[i]? = some v) Fin (k + 1) i ys [(M, oM), (P, oPl), (R, oR), (D, oD), (L + 1 + 1 + 1 + 1 + 1, oW), (L + 1 + 1 + 1 + 1, oU), (L + 1 + 1 + 1, oS), (L + 1 + 1, oK), (L + 1, oP)] := by
  refine LCt.CompRestT.succ ?_
  intro v I' oI' C' oC' D' m' h' tk' E' hv' hC' hx' F' N' off' ne'
  obtain rfl := hv v hv'
  dsimp only [lawEnv, lawBody, lawScope, lawDef, stmtAt, defBody, defScope, asgVal, compTest, compElt, compIfs, compScope, PySem.Challenge.pw_kq0072_01, PRG, lawA, passCl] at ih ⊢
  revert X
  k_fill
  intro X
  k_steps
  all_goals (rename Fr _ _ _ _ => hF; rename News _ _ _ _ => hN; refine LCg.CompEnd.intro hF hN _ (fun p h => h) off' hS ?_)
  all_goals first
    | (rw [if_pos (by assumption)] at ih; exact ih)
    | (rw [if_neg (by assumption)] at ih; exact ih)
    | (rw [if_neg (Bool.not_eq_true _ ▸ by assumption)] at ih; exact ih)
theorem pass_turns (w : World) (mg mb : Str → Option Value) (mean : ExcName → Option Value) (h₀ : Heap) (L a : Addr) (cd : Value) (m : Str → Option Value) (s : Shared) (ps : List Value) (page : List Int) (S : List (Addr × Obj) → Prop) (Fin : List Value → List (Addr × Obj) → Prop) (oK : Obj) (M P R D : Addr) (oM oPl oR oD oW oU oS oP : Obj) (j : Nat) (hj : j < 15)
    (X : (hd.heap_39 w.params).In h₀) (T : TopM mean mg mb h₀) (hoK : oK.data = .cell (some (.ref (kAddr j)))) (hS : S [(M, oM), (P, oPl), (R, oR), (D, oD), (L + 1 + 1 + 1 + 1 + 1, oW), (L + 1 + 1 + 1 + 1, oU), (L + 1 + 1 + 1, oS), (L + 1 + 1, oK), (L + 1, oP)]) (hI : IntsAre ps page) (hpage : ∀ x ∈ page, 0 ≤ x ∧ x < 256)
    (hfin : ∀ ys, IntsAre ys (page.filter (kindB j)) → Fin ys [(M, oM), (P, oPl), (R, oR), (D, oD), (L + 1 + 1 + 1 + 1 + 1, oW), (L + 1 + 1 + 1 + 1, oU), (L + 1 + 1 + 1, oS), (L + 1 + 1, oK), (L + 1, oP)]) :
    ∀ k i ys, i + k = ps.length → IntsAre ys ((page.take i).filter (kindB j)) → LCt.CompRestT PRG w (lawA L a cd) h₀ L m (lawEnv L a cd) (compTest (asgVal (stmtAt lawBody 5))) (compElt (asgVal (stmtAt lawBody 5))) (Str.ofString "c") (compScope (asgVal (stmtAt lawBody 5))) (passCl L) s S (fun i v => ps.toArray[i]? = some v) Fin k i ys [(M, oM), (P, oPl), (R, oR), (D, oD), (L + 1 + 1 + 1 + 1 + 1, oW), (L + 1 + 1 + 1 + 1, oU), (L + 1 + 1 + 1, oS), (L + 1 + 1, oK), (L + 1, oP)] := by
  intro k
  induction k with
  | zero =>
    intro i ys hi hy
    refine LCt.CompRestT.zero (hfin ys ?_)
    have : page.length ≤ i := by rw [← intsAre_len hI, ← hi]; exact Nat.le_refl _
    rwa [List.take_of_length_le this] at hy
  | succ k ih =>
    intro i ys hi hy
    have hlt : i < ps.length := by omega
    obtain ⟨c, t, hv, hc⟩ := ints_at hI (List.getElem?_eq_getElem hlt)
    have hcm := hpage c (List.mem_of_getElem? hc)
    have hv2 : ∀ v, ps.toArray[i]? = some v → v = .int c t := fun v e => by
      rw [List.getElem?_toArray, List.getElem?_eq_getElem hlt] at e
      rw [← Option.some.inj e, hv]
    have ih' := ih (i + 1) (if kindB j c = true then ys ++ [.int c t] else ys) (by omega) (by
      rw [take_snoc hc, List.filter_append]
      by_cases hb : kindB j c = true
      · rw [if_pos hb, List.filter_cons_of_pos hb]; exact ints_snoc hy
      · rw [if_neg hb, List.filter_cons_of_neg hb]; simpa using hy)
    clear ih
    obtain ⟨o, fd, hfo, hfd⟩ := kind_obj w h₀ X j hj
    exact pass_turn w mg mb mean h₀ L a cd m s ps ys S Fin oK M P R D oM oPl oR oD oW oU oS oP k i c t (kAddr j) o fd (kindB j c) X T hfo hfd (kind_call w mg mb mean h₀ L a cd c t X T hcm.1 hcm.2 j hj) hoK hS hcm.1 hcm.2 hv2 ih'
end Mine
end
section -- EnterC
open PySem PySem.W PyProof.Rows PySem.Calls PyProof.V
set_option maxRecDepth 100000
namespace Mine
section
variable {prog : Program} {w : World} {A : Around} {s : Shared} {h₀ : Heap} {L : Addr} {m : Str → Option Value}
/-- entering a def with cells; the base is the caller's whole heap -/
theorem code_defW {K : Frag} {p : Program} {loose : List Str} {mean : ExcName → Option Value} {mg mb : Str → Option Value} {R : Result → Shared → Prop} {name qual : Str} {params : Arguments} {body : List Stmt} {scope : Scope} {dV kV doc pm cdv ct oc : Value} {an od : Option Addr} {osl : Array (Option Value)} {f : Addr} {args : Args} {binds : List (Str × Value)}
    (F : Fr h₀ L s.heap m) (X₀ : K.In h₀) (T : Top p loose mean mg mb h₀)
    (ho : K.lookup f = some ⟨oc, od, .func (fnOf name qual params body scope dV kV doc pm an cdv ct), osl⟩) (hcd : codeIn K cdv qual = true) (hroom : A.depth < recursionLimit)
    (hbind : BindsTo s (fnOf name qual params body scope dV kV doc pm an cdv ct) args binds)
    (hkind : ∀ n, ∀ x ∈ binds, scope.names.lookup x.1 = some .local ∨ (scope.names.lookup x.1 = some .cell ∧ ((cellsFrom n scope.names []).lookup x.1).isSome = true))
    (hnd : ((cellsFrom 0 scope.names []).map (·.1)).Nodup)
    (h : ∀ L' h₁ tk cells, Fr s.heap L' h₁ (bindL (envOfC qual scope L' f cdv).kindOf binds fun _ => none) → News s.heap L' h₁ cells →
      CellsAre (bindC (envOfC qual scope L' f cdv).kindOf binds fun _ => none) (cellsFrom (L' + 1) scope.names []) cells → K.In s.heap → Top p loose mean mg mb s.heap →
      wpAny (model prog w) (A.deeper (envOfC qual scope L' f cdv)) (execs body (envOfC qual scope L' f cdv))
        (fun fl s' => R (.ok (.ret (match fl with | .ret v => v | _ => .none))) s')
        (fun e s' => wpAny (model prog w) (A.deeper (envOfC qual scope L' f cdv)) (leaving (envOfC qual scope L' f cdv) e) (fun _ s'' => R (.error e) s'') (fun e' s'' => R (.error e') s'') s')
        { s with heap := h₁, toks := tk })
    (hco : scope.isCoroutine = false := by rfl) (hgen : scope.isGenerator = false := by rfl) (hk : scope.kind = .function := by rfl) : codeAny (model prog w) A (.call (.ref f) args) R s := by
  refine codeAny_call_function (fd := fnX name qual params body scope [] dV kV doc pm an cdv ct) hroom ((X₀.keeps F.keep) _ _ ho) rfl hco hgen rfl (codeRec_of (X₀.keeps F.keep) hcd) (hbind _ _ _ _ ?_)
  refine wpAny_newFunctionEnv_cells hk (hkind _) fun env' he s' x => ?_
  subst he
  refine ⟨(T.nolimit.keeps F.keep).keeps x.toInCall.keep, codeAny_func ?_⟩
  obtain ⟨h₁, tk, rfl, _⟩ := x.done
  obtain ⟨cells, NC, Y⟩ := Cl.news (h₀ := s.heap) (Nat.le_refl _) fun n c hm => ⟨x.cell n c (lookup_of_mem_nodup (cellsFrom_names scope.names 0 (s.heap.objs.size + 1) [] [] rfl ▸ hnd) hm), x.above n c hm⟩
  exact h s.heap.objs.size h₁ tk cells ⟨x.toInCall.ns, x.toInCall.keep, Nat.le_refl _⟩ NC Y (X₀.keeps F.keep) (T.keeps F.keep)
end
end Mine
end
section -- Writ1
open PySem PySem.W PyProof.Rows
set_option maxRecDepth 100000
set_option maxHeartbeats 4000000
namespace Mine
local macro_rules | `(tactic| walk_at "callWith") => `(tactic| ((with_reducible show wpAny _ _ (callWith _ (Value.builtin _) (_ :: _) _ _) _ _ _); refine callWith_method1 ?_))
def wrDef : Stmt := stmtAt PySem.Challenge.pw_kq0072_01.main.body 27
def wrBody : List Stmt := forBody (stmtAt (defBody wrDef) 1)
def wrScope : Scope := defScope wrDef
abbrev wrEnv (L : Addr) : Env := envOfC (Str.ofString "_law_writing") wrScope L 182 (.ref 181)
abbrev wrA (L a : Addr) (cd : Value) (L' : Addr) : Around := (lawA L a cd).deeper (wrEnv L')
abbrev wrMap (D S : Addr) (mo mp : Option Value) (i : Int) (ti : Tok) : Str → Option Value := fun y =>
  if y = Str.ofString "octet" then mo else if y = Str.ofString "piece" then mp else if y = Str.ofString "i" then some (.int i ti) else if y = Str.ofString "signs" then some (.ref S) else if y = Str.ofString "row" then some (.ref D) else none
theorem take_piece (ns : List Int) (i : Int) (h0 : 0 ≤ i) : List.take (min (i + 4).toNat ns.length - i.toNat) (List.drop i.toNat ns) = (ns.drop i.toNat).take 4 := by
  have e : (i + 4).toNat = i.toNat + 4 := by omega
  rw [e]
  rcases Nat.le_total (i.toNat + 4) ns.length with h | h
  · rw [Nat.min_eq_left h]; congr 1; omega
  · rw [Nat.min_eq_right h, List.take_of_length_le (by rw [List.length_drop]; exact Nat.le_refl _), List.take_of_length_le (by rw [List.length_drop]; omega)]
theorem wr_piece (w : World) (mg mb : Str → Option Value) (mean : ExcName → Option Value) (b : Heap) (L a L' : Addr) (cd : Value) (s : Shared) (Q : Flow → Shared → Prop) (E : Value → Shared → Prop) (D S I : Addr) (ws ps : List Value) (ns : List Int) (i : Int) (ti : Tok) (mo mp : Option Value) (oI oC : Obj) (kp : Nat) (rest : List Stmt)
    (X : (hd.heap_39 w.params).In b) (T : TopM mean mg mb b) (hD : b.IsList D ws.toArray) (hI : IntsAre ws ns) (hl : ns.length ≤ 30) (h0 : 0 ≤ i) (h1 : i < ns.length)
    (F : Fr b L' s.heap (wrMap D S mo mp i ti)) (N : News b L' s.heap [(I, oI), (S, listOf ps.toArray kp), (L' + 1, oC)])
    (hc : ∀ Dp h' tk vs k, IntsAre vs ((ns.drop i.toNat).take 4) → @LT.lt Nat _ S Dp → @LT.lt Nat _ I Dp → @LT.lt Nat _ (L' + 1) Dp → Fr b L' h' (wrMap D S mo (some (.ref Dp)) i ti) → News b L' h' [(Dp, listOf vs.toArray k), (I, oI), (S, listOf ps.toArray kp), (L' + 1, oC)] → wpAny (model PySem.Challenge.rw_kq0072_01.row.prog w) (wrA L a cd L') (execs rest (wrEnv L')) Q E { s with heap := h', toks := tk }) :
    wpAny (model PySem.Challenge.rw_kq0072_01.row.prog w) (wrA L a cd L') (execs (stmtAt wrBody 0 :: rest) (wrEnv L')) Q E s := by
  dsimp only [wrEnv, wrA, wrBody, wrScope, wrDef, stmtAt, forBody, defBody, defScope, PySem.Challenge.pw_kq0072_01]
  revert X
  k_fill
  intro X
  k_steps
  rename IntsAre _ (List.take _ (List.drop _ _)) => hp
  rename Fr _ _ _ _ => hF
  rename News _ _ _ _ => hN
  rename (_ ∧ _ ∧ _) => hlt
  rw [take_piece ns i h0] at hp
  exact hc _ _ _ _ _ hp hlt.2.1 hlt.1 hlt.2.2 (fr_congr hF fun y => by
    dsimp only [wrMap]
    by_cases e1 : y = Str.ofString "octet"
    · subst e1; exact rfl
    rw [if_neg e1]
    by_cases e2 : y = Str.ofString "piece"
    · rw [if_pos e2, if_pos e2]
    · simp only [if_neg e1, if_neg e2]) hN
end Mine
end
section -- TupComp
open PySem PySem.W PyProof.Rows PySem.Calls PySem.Spec
set_option maxRecDepth 100000
namespace Mine
open LCg
def TupAt (ax : Addr) (its : Array Value) (news : List (Addr × Obj)) : Prop := False ∨ ∃ o, (ax, o) ∈ news ∧ o.cls = .type "tuple" ∧ ∃ n, o.data = .seq its n
section
variable {prog : Program} {w : World} {A : Around} {E : Value → Shared → Prop} {s : Shared} {h₀ : Heap} {L : Addr} {m : Str → Option Value} {env : Env}
theorem TupAt.tup {h : Heap} {ax : Addr} {its : Array Value} {news : List (Addr × Obj)} (x : TupAt ax its news) (N : News h₀ L h news) : h.IsTuple ax its := by
  rcases x with h | ⟨o, hm, r⟩
  · exact h.elim
  · exact ⟨o, (N _ hm).1, r⟩
def CompTup (prog : Program) (w : World) (A : Around) (h₀ : Heap) (L : Addr) (m : Str → Option Value) (env : Env) (elt : PySem.Expr) (x : Str) (scope : Scope) (cl : List (Str × Addr)) (Fin : Shared → List Value → List (Addr × Obj) → Prop) (xv : Value) (s₁ : Shared) : Prop :=
  ∃ ax its news, xv = .ref ax ∧ A.handled = none ∧ Fr h₀ L s₁.heap m ∧ News h₀ L s₁.heap news ∧ TupAt ax its news ∧ its.size ≤ sizeLine ∧
    ∀ s₂ : Shared, (∃ h, s₂ = { s₁ with heap := h }) → CompRest prog w A h₀ L m env elt x scope cl s₂ (TupAt ax its) (fun i v => its[i]? = some v) (Fin s₂) its.size 0 [] news
theorem CompTup.intro {elt : PySem.Expr} {x : Str} {scope : Scope} {cl : List (Str × Addr)} {Fin : Shared → List Value → List (Addr × Obj) → Prop} {ax : Addr} {its : Array Value} {k : Nat} {news : List (Addr × Obj)} {s₁ : Shared}
    (hh : A.handled = none) (F : Fr h₀ L s₁.heap m) (N : News h₀ L s₁.heap news) (hm : (ax, ({ cls := .type "tuple", data := .seq its k } : Obj)) ∈ news) (hsz : its.size ≤ sizeLine)
    (h : ∀ g, CompRest prog w A h₀ L m env elt x scope cl { s₁ with heap := g } (TupAt ax its) (fun i v => its[i]? = some v) (Fin { s₁ with heap := g }) its.size 0 [] news) :
    CompTup prog w A h₀ L m env elt x scope cl Fin (.ref ax) s₁ := ⟨ax, its, news, rfl, hh, F, N, .inr ⟨_, hm, rfl, _, rfl⟩, hsz, fun _ ⟨g, e⟩ => e ▸ h g⟩
theorem ListComp_tup {elt iter : PySem.Expr} {x : Str} {px : Pos} {scope : Scope} {cl : List (Str × Addr)} {pos : Pos} {Q : Value → Shared → Prop} (F₀ : Fr h₀ L s.heap m)
    (hclos : closureFor scope env = pure cl) (hcell : ∀ y ∈ scope.names, y.2 ≠ .cell) (hkind : scope.kind = .function)
    (hnames : ∀ y ∈ scope.names, y.2 = .local → scope.names.lookup y.1 = some .local) (hx : scope.names.lookup x = some .local)
    (h : wpAny (model prog w) A (eval iter env) (CompTup prog w A h₀ L m env elt x scope cl (fun s₂ => FinE h₀ L m s₂ Q)) E s)
    (hs : ∀ x, foldedSetIterable iter env x = pure x := by intro _; rfl) :
    wpAny (model prog w) A (eval (.ListComp elt [⟨.Name x px, iter, [], 0⟩] scope pos) env) Q E s := by
  rw [eval_ListComp]
  refine wpAny_comprehension_free (use := none) rfl hs hclos hkind hnames (wpAny_mono h (fun xv s₁ h₁ => ?_) fun _ _ e => e)
  obtain ⟨ax, its, news, rfl, hh, F, N, S, hsz, R⟩ := h₁
  have hl := S.tup N
  have hlt : ax < s₁.heap.objs.size := by obtain ⟨_, e, _⟩ := hl; exact Heap.lt_size e
  refine wpAny_pyIter_tuple hl ?_
  have up : ∀ b o, s₁.heap.get? b = some o → (s₁.heap.push { cls := .type "tuple_iterator", data := .fields #[.ref ax, .int 0 0] }).get? b = some o := fun b o e => Heap.get?_push_of_some _ e
  refine block_U (Walks.tuple hh s₁.heap.objs.size ax (Nat.ne_of_lt hlt) its) hsz (fun i h st => by obtain ⟨o, e, _⟩ := st.1; exact ⟨o, e⟩)
    (fun i h h' o nw st e e' k Nn Sn => ⟨by obtain ⟨o', q, r⟩ := st.1; rw [e] at q; cases q; exact ⟨_, e', r⟩, Sn.tup Nn⟩) hcell hkind hx ⟨⟨_, Heap.get?_push_size _ rfl, rfl, rfl⟩, by obtain ⟨o, q, r⟩ := hl; exact ⟨o, up _ _ q, r⟩⟩ (fun b hb => ?_)
    (F.keeps up) (N.grown up) (Nat.ne_of_lt F.ns.lt) (next_is_new F) (fun p hp => Nat.ne_of_lt (Heap.lt_size (N p hp).1)) S (R _ ⟨_, rfl⟩) ?_
  · show b < (s₁.heap.push _).objs.size
    rw [Heap.size_push]
    rcases List.mem_cons.mp hb with rfl | hb
    · exact Nat.lt_succ_self _
    · rw [List.mem_singleton.mp hb]; exact Nat.lt_succ_of_lt hlt
  · intro D C h tk m' ys news' F' N' o1 hn hC₀ hD₀ hCL hDL hCD offC fin
    refine ⟨m', hn, fun h'' hs'' => fin D h'' tk (F'.change hs'' hCL hC₀) (fun p hp => ?_) o1⟩
    refine ⟨hs''.extBut _ _ ?_ (N' p hp).1, (N' p hp).2⟩
    rcases List.mem_cons.mp hp with rfl | hp
    · exact Ne.symm hCD
    · exact offC p hp
end
theorem small_led4 {h₀ h : Heap} {L : Addr} {news : List (Addr × Obj)} {a0 a1 a2 a3 : Addr} {o0 o1 o2 o3 : Obj} (N : News h₀ L h news) (m0 : (a0, o0) ∈ news) (m1 : (a1, o1) ∈ news) (m2 : (a2, o2) ∈ news) (m3 : (a3, o3) ∈ news) : News h₀ L h [(a0, o0), (a1, o1), (a2, o2), (a3, o3)] := fun p hp => by
  rcases List.mem_cons.mp hp with rfl | hp
  · exact N _ m0
  rcases List.mem_cons.mp hp with rfl | hp
  · exact N _ m1
  rcases List.mem_cons.mp hp with rfl | hp
  · exact N _ m2
  rcases List.mem_cons.mp hp with rfl | hp
  · exact N _ m3
  · exact absurd hp List.not_mem_nil
end Mine
end
section -- WritC
open PySem PySem.W PyProof.Rows
set_option maxRecDepth 100000
set_option maxHeartbeats 4000000
namespace Mine
local macro_rules | `(tactic| walk_at "no such node 0") => `(tactic| fail)
local macro_rules | `(tactic| walk_at "callWith") => `(tactic| ((with_reducible show wpAny _ _ (callWith _ (Value.builtin _) (_ :: _) _ _) _ _ _); refine callWith_method1 ?_))
def ifElse : Stmt → List Stmt
  | .If _ _ e _ => e
  | _ => []
def wrElse : Stmt := stmtAt (ifElse (stmtAt wrBody 3)) 0
def exprOf : Stmt → PySem.Expr
  | .Expr e _ => e
  | _ => default
def callArg : PySem.Expr → PySem.Expr
  | .Call _ (e :: _) _ _ => e
  | _ => default
def subBase : PySem.Expr → PySem.Expr
  | .Subscript e _ _ => e
  | _ => default
def wrComp : PySem.Expr := subBase (callArg (exprOf wrElse))
abbrev digE (z e : Int) : Int := 33 + (z.fdiv (85 ^ e.toNat)).fmod 85
theorem wr_comp1 (w : World) (mg mb : Str → Option Value) (mean : ExcName → Option Value) (b : Heap) (L a L' : Addr) (cd : Value) (s : Shared) (S I Dp : Addr) (m : Str → Option Value) (its : Array Value) (Sp : List (Addr × Obj) → Prop) (Fin : List Value → List (Addr × Obj) → Prop) (oI oC oS oD oT : Obj) (Tp : Addr) (z e : Int) (tz te : Tok) (k i : Nat) (ys : List Value)
    (hoC : oC.data = .cell (some (.int z tz))) (hz0 : 0 ≤ z) (hz1 : z < 4294967296) (he0 : 0 ≤ e) (he1 : e ≤ 4)
    (X : (hd.heap_39 w.params).In b) (T : TopM mean mg mb b) (hS : Sp [(Tp, oT), (Dp, oD), (I, oI), (S, oS), (L' + 1, oC)]) (hv : ∀ v, its[i]? = some v → v = .int e te)
    (ih : ∀ u, LCg.CompRest PRG w (wrA L a cd L') b L' m (wrEnv L') (compElt wrComp) (Str.ofString "k") (compScope wrComp) [(Str.ofString "number", L' + 1)] s Sp (fun i v => its[i]? = some v) Fin k (i + 1) (ys ++ [.int (digE z e) u]) [(Tp, oT), (Dp, oD), (I, oI), (S, oS), (L' + 1, oC)]) :
    LCg.CompRest PRG w (wrA L a cd L') b L' m (wrEnv L') (compElt wrComp) (Str.ofString "k") (compScope wrComp) [(Str.ofString "number", L' + 1)] s Sp (fun i v => its[i]? = some v) Fin (k + 1) i ys [(Tp, oT), (Dp, oD), (I, oI), (S, oS), (L' + 1, oC)] := by
  have hp : (85 : Int) ^ e.toNat ≠ 0 := Int.ne_of_gt (Int.pow_pos (by decide))
  refine LCg.CompRest.succ ?_
  intro v I' oI' C' oC' D' m' h' tk' E' hv' hC' hx' F' N' off' ne'
  obtain rfl := hv v hv'
  dsimp only [wrComp, wrElse, ifElse, exprOf, callArg, subBase, wrEnv, wrA, wrBody, wrScope, wrDef, stmtAt, forBody, defBody, defScope, compElt, compScope, PRG, PySem.Challenge.pw_kq0072_01] at ih ⊢
  revert X
  k_fill
  intro X
  k_steps
  · exact absurd (by assumption) hp
  rename Fr _ _ _ _ => hF
  rename News _ _ _ _ => hN
  refine LCg.CompEnd.intro hF hN _ (fun p h => h) off' hS ?_
  exact ih _
theorem news_tail {h₀ h : Heap} {L : Addr} {p : Addr × Obj} {r : List (Addr × Obj)} (N : News h₀ L h (p :: r)) : News h₀ L h r := fun x hx => N _ (List.mem_cons_of_mem _ hx)
theorem news_drop2 {h₀ h : Heap} {L : Addr} {p q : Addr × Obj} {r : List (Addr × Obj)} (N : News h₀ L h (p :: q :: r)) : News h₀ L h (p :: r) := fun x hx => by
  rcases List.mem_cons.mp hx with rfl | hx
  · exact N _ (List.mem_cons_self ..)
  · exact N _ (List.mem_cons_of_mem _ (List.mem_cons_of_mem _ hx))
def digL (z : Int) : List Int := [33 + (z.fdiv 52200625).fmod 85, 33 + (z.fdiv 614125).fmod 85, 33 + (z.fdiv 7225).fmod 85, 33 + (z.fdiv 85).fmod 85, 33 + (z.fdiv 1).fmod 85]
theorem wr_comps (w : World) (mg mb : Str → Option Value) (mean : ExcName → Option Value) (b : Heap) (L a L' : Addr) (cd : Value) (s : Shared) (S I Dp : Addr) (m : Str → Option Value) (Sp : List (Addr × Obj) → Prop) (Fin : List Value → List (Addr × Obj) → Prop) (oI oC oS oD oT : Obj) (Tp : Addr) (z : Int) (tz t4 t3 t2 t1 t0 : Tok)
    (hoC : oC.data = .cell (some (.int z tz))) (hz0 : 0 ≤ z) (hz1 : z < 4294967296)
    (X : (hd.heap_39 w.params).In b) (T : TopM mean mg mb b) (hS : Sp [(Tp, oT), (Dp, oD), (I, oI), (S, oS), (L' + 1, oC)])
    (hfin : ∀ ys, IntsAre ys (digL z) → Fin ys [(Tp, oT), (Dp, oD), (I, oI), (S, oS), (L' + 1, oC)]) :
    LCg.CompRest PRG w (wrA L a cd L') b L' m (wrEnv L') (compElt wrComp) (Str.ofString "k") (compScope wrComp) [(Str.ofString "number", L' + 1)] s Sp (fun i v => (#[Value.int 4 t4, .int 3 t3, .int 2 t2, .int 1 t1, .int 0 t0] : Array Value)[i]? = some v) Fin 5 0 [] [(Tp, oT), (Dp, oD), (I, oI), (S, oS), (L' + 1, oC)] := by
  refine wr_comp1 w mg mb mean b L a L' cd s S I Dp m _ Sp Fin oI oC oS oD oT Tp z 4 tz t4 _ _ _ hoC hz0 hz1 (by decide) (by decide) X T hS (fun v e => (Option.some.inj e).symm) fun u4 => ?_
  refine wr_comp1 w mg mb mean b L a L' cd s S I Dp m _ Sp Fin oI oC oS oD oT Tp z 3 tz t3 _ _ _ hoC hz0 hz1 (by decide) (by decide) X T hS (fun v e => (Option.some.inj e).symm) fun u3 => ?_
  refine wr_comp1 w mg mb mean b L a L' cd s S I Dp m _ Sp Fin oI oC oS oD oT Tp z 2 tz t2 _ _ _ hoC hz0 hz1 (by decide) (by decide) X T hS (fun v e => (Option.some.inj e).symm) fun u2 => ?_
  refine wr_comp1 w mg mb mean b L a L' cd s S I Dp m _ Sp Fin oI oC oS oD oT Tp z 1 tz t1 _ _ _ hoC hz0 hz1 (by decide) (by decide) X T hS (fun v e => (Option.some.inj e).symm) fun u1 => ?_
  refine wr_comp1 w mg mb mean b L a L' cd s S I Dp m _ Sp Fin oI oC oS oD oT Tp z 0 tz t0 _ _ _ hoC hz0 hz1 (by decide) (by decide) X T hS (fun v e => (Option.some.inj e).symm) fun u0 => ?_
  exact LCg.CompRest.zero (hfin _ (.cons _ u4 (.cons _ u3 (.cons _ u2 (.cons _ u1 (.cons _ u0 .nil))))))
structure HoldOnC (p : Prop) : Prop where
  go : p
local macro_rules | `(tactic| walk_at "eval ListComp") => `(tactic| (k_here; k_dflt (refine ListComp_tup (F₀ := by k_asm) (by with_unfolding_all rfl) (by decide) (by rfl) (by decide) (by rfl) ?_)))
local macro_rules | `(tactic| walk_at "CompTup") => `(tactic| (refine HoldOnC.go ?_))
theorem wr_comp (w : World) (mg mb : Str → Option Value) (mean : ExcName → Option Value) (b : Heap) (L a L' : Addr) (cd : Value) (s : Shared) (Q : Value → Shared → Prop) (E : Value → Shared → Prop) (S I Dp : Addr) (m : Str → Option Value) (oS oI oC oD : Obj) (z : Int) (tz : Tok)
    (hoC : oC.data = .cell (some (.int z tz))) (hz0 : 0 ≤ z) (hz1 : z < 4294967296)
    (X : (hd.heap_39 w.params).In b) (T : TopM mean mg mb b) (hlt4 : @LT.lt Nat _ (L' + 1) S) (hlt5 : @LT.lt Nat _ S I) (hlt1 : @LT.lt Nat _ S Dp) (hlt2 : @LT.lt Nat _ I Dp) (hlt3 : @LT.lt Nat _ (L' + 1) Dp)
    (F : Fr b L' s.heap m) (N : News b L' s.heap [(Dp, oD), (I, oI), (S, oS), (L' + 1, oC)])
    (hc : ∀ h' tk R es k, IntsAre es (digL z) → Fr b L' h' m → News b L' h' [(R, listOf es.toArray k), (Dp, oD), (I, oI), (S, oS), (L' + 1, oC)] → @Ne Nat R Dp → @Ne Nat R I → @Ne Nat R S → @Ne Nat R (L' + 1) → Q (.ref R) { s with heap := h', toks := tk }) :
    wpAny (model PySem.Challenge.rw_kq0072_01.row.prog w) (wrA L a cd L') (eval wrComp (wrEnv L')) Q E s := by
  dsimp only [wrComp, wrElse, ifElse, exprOf, callArg, subBase, wrEnv, wrA, wrBody, wrScope, wrDef, stmtAt, forBody, defBody, defScope, PySem.Challenge.pw_kq0072_01]
  revert X
  k_fill
  intro X
  k_steps
  refine HoldOnC.mk ?_
  rename Fr _ _ _ _ => hF
  rename News _ _ _ _ => hN
  refine CompTup.intro rfl hF hN (List.mem_cons_self ..) (Nat.le_of_ble_eq_true rfl) ?_
  intro g'
  refine wr_comps w mg mb mean b L a L' cd _ S I Dp m _ _ oI oC oS oD _ _ z tz _ _ _ _ _ hoC hz0 hz1 X T ?hS ?fin
  case hS => exact .inr ⟨_, List.mem_cons_self .., rfl, _, rfl⟩
  case fin =>
    intro ys hys
    unfold LCg.FinE
    intro W h2 tk2 F2 N2 o1
    exact hc h2 tk2 W ys _ hys F2 (news_drop2 N2) (Ne.symm o1.2.1) (Ne.symm o1.2.2.1) (Ne.symm o1.2.2.2.1) (Ne.symm o1.2.2.2.2.1)
end Mine
end
section -- Ext
open PySem PySem.W PyProof.Rows PySem.Calls
set_option maxRecDepth 100000
namespace Mine
def wrOut (n : Nat) (z : Int) : List Int := if z = 0 ∧ n = 4 then [122] else [33 + (z.fdiv 52200625).fmod 85, 33 + (z.fdiv 614125).fmod 85, 33 + (z.fdiv 7225).fmod 85, 33 + (z.fdiv 85).fmod 85, 33 + (z.fdiv 1).fmod 85].take (n + 1)
section
variable {prog : Program} {w : World} {A : Around} {E : Value → Shared → Prop} {s : Shared} {h₀ : Heap} {L : Addr} {m : Str → Option Value} {news news' : List (Addr × Obj)}
theorem ext_no {n : Nat} (h : n ≤ 1000) : Builtin.List.listTooLong n = false := by
  unfold Builtin.List.listTooLong
  first
    | (rw [decide_eq_false_iff_not]; simp only [sizeLine_eq]; omega)
    | (simp [sizeLine_eq]; omega)
theorem ext_K {D b : Addr} {ps : List Value} {its2 : Array Value} {n n2 : Nat} {Q : Value → Shared → Prop} (F : Fr h₀ L s.heap m) (N : News h₀ L s.heap news) (hb : (b, listOf its2 n2) ∈ news) (h1 : 0 < its2.size) (h5 : its2.size ≤ 500) (hps : ps.length ≤ 100)
    (U : Upd D (listOf ps.toArray n) (listOf (ps ++ its2.toList).toArray (n + 1)) news news')
    (h : ∀ h', Fr h₀ L h' m → News h₀ L h' news' → Q .none { s with heap := h' }) : wpAny (model prog w) A (call (.builtin "list.extend") [.ref D, .ref b]) Q E s := by
  refine kl_extend F N hb rfl (by rw [Array.length_toList]; omega) U ?_ (by show ps.length ≤ _; rw [sizeLine_eq]; omega) (by rw [sizeLine_eq, List.size_toArray]; omega) h
  rw [ext_no (by rw [List.size_toArray]; omega), Bool.and_false]
  decide
end
end Mine
end
section -- WritI
open PySem PySem.W PyProof.Rows
set_option maxRecDepth 100000
set_option maxHeartbeats 4000000
namespace Mine
local macro_rules | `(tactic| walk_at "callWith") => `(tactic| ((with_reducible show wpAny _ _ (callWith _ (Value.builtin _) (_ :: _) _ _) _ _ _); refine callWith_method1 ?_))
structure HoldOnI (p : Prop) : Prop where
  go : p
local macro_rules | `(tactic| walk_at "eval ListComp") => `(tactic| (k_here; refine HoldOnI.go ?_))
local macro_rules | `(tactic| walk_at "call builtin:list.extend") => `(tactic| (k_here; refine HoldOnI.go ?_))
theorem wr_else (w : World) (mg mb : Str → Option Value) (mean : ExcName → Option Value) (b : Heap) (L a L' : Addr) (cd : Value) (s : Shared) (Q : Flow → Shared → Prop) (E₂ : Value → Shared → Prop) (D S I Dp : Addr) (ps : List Value) (i : Int) (ti : Tok) (mo : Option Value) (oI oC : Obj) (kp kd : Nat) (z : Int) (tz : Tok)
    (vs : List Value) (l : List Int) (hl0 : IntsAre vs l) (hl4 : l.length ≤ 4) (hl1 : 0 < l.length) (hoC : oC.data = .cell (some (.int z tz))) (hz0 : 0 ≤ z) (hz1 : z < 4294967296) (hps : ps.length ≤ 100)
    (X : (hd.heap_39 w.params).In b) (T : TopM mean mg mb b) (hlt1 : @LT.lt Nat _ S Dp) (hlt2 : @LT.lt Nat _ I Dp) (hlt3 : @LT.lt Nat _ (L' + 1) Dp) (hlt4 : @LT.lt Nat _ (L' + 1) S) (hlt5 : @LT.lt Nat _ S I)
    (F : Fr b L' s.heap (wrMap D S mo (some (.ref Dp)) i ti)) (N : News b L' s.heap [(Dp, listOf vs.toArray kd), (I, oI), (S, listOf ps.toArray kp), (L' + 1, oC)])
    (hc : ∀ h' tk es k, IntsAre es ((digL z).take (l.length + 1)) → Fr b L' h' (wrMap D S mo (some (.ref Dp)) i ti) → News b L' h' [(I, oI), (S, listOf (ps ++ es).toArray k), (L' + 1, oC)] → Q .next { s with heap := h', toks := tk }) :
    wpAny (model PySem.Challenge.rw_kq0072_01.row.prog w) (wrA L a cd L') (execs [wrElse] (wrEnv L')) Q (fun e s' => wpAny (model PySem.Challenge.rw_kq0072_01.row.prog w) (wrA L a cd L') (leaving (wrEnv L') e) (fun _ s'' => E₂ e s'') (fun e' s'' => E₂ e' s'') s') s := by
  dsimp only [wrElse, ifElse, wrEnv, wrA, wrBody, wrScope, wrDef, stmtAt, forBody, defBody, defScope, PySem.Challenge.pw_kq0072_01, List.drop, wrMap] at F ⊢
  revert X
  k_fill
  intro X
  k_steps
  refine HoldOnI.mk ?_
  refine wr_comp w mg mb mean b L a L' cd _ _ _ S I Dp _ _ oI oC _ z tz hoC hz0 hz1 X T hlt4 hlt5 hlt1 hlt2 hlt3 F N ?_
  intro h2 tk2 R es k he F2 N2 n1 n2 n3 n4
  clear F N
  have hel : es.length = 5 := intsAre_len he
  k_steps
  refine HoldOnI.mk ?_
  rename Fr _ _ _ _ => hF
  rename News _ _ _ _ => hN
  rename IntsAre _ (List.take _ (digL z)) => hi
  have hw := intsAre_len hi
  rw [List.length_take, show (digL z).length = 5 from rfl] at hw
  k_dflt (refine' ext_K hF hN ?b ?h1 ?h5 hps ?U ?_)
  case b => k_mem
  case U => k_upd
  case h1 => rw [List.size_toArray, hw]; omega
  case h5 => rw [List.size_toArray, hw]; omega
  intro h' F' N'
  k_steps
  rename Fr _ _ _ _ => hF
  rename News _ _ _ _ => hN
  refine hc _ _ _ _ ?_ hF (news_tail (news_tail (news_tail hN)))
  rwa [show ((l.length : Int) + 1).toNat = l.length + 1 from by omega] at hi
local macro_rules | `(tactic| walk_at "execs cons") => `(tactic| (k_here; (with_reducible show wpAny _ _ (execs (Stmt.Expr (Expr.Call (Expr.Attribute _ (PySem.Str.ofString "extend") _) _ _ _) _ :: _) _) _ _ _); refine HoldOnI.go ?_))
theorem wr_if (w : World) (mg mb : Str → Option Value) (mean : ExcName → Option Value) (b : Heap) (L a L' : Addr) (cd : Value) (s : Shared) (Q : Flow → Shared → Prop) (E₂ : Value → Shared → Prop) (D S I Dp : Addr) (ps : List Value) (i : Int) (ti : Tok) (mo : Option Value) (oI oC : Obj) (kp kd : Nat) (z : Int) (tz : Tok)
    (vs : List Value) (l : List Int) (hl0 : IntsAre vs l) (hl4 : l.length ≤ 4) (hl1 : 0 < l.length) (hoC : oC.data = .cell (some (.int z tz))) (hz0 : 0 ≤ z) (hz1 : z < 4294967296) (hps : ps.length ≤ 100)
    (X : (hd.heap_39 w.params).In b) (T : TopM mean mg mb b) (hlt1 : @LT.lt Nat _ S Dp) (hlt2 : @LT.lt Nat _ I Dp) (hlt3 : @LT.lt Nat _ (L' + 1) Dp) (hlt4 : @LT.lt Nat _ (L' + 1) S) (hlt5 : @LT.lt Nat _ S I)
    (F : Fr b L' s.heap (wrMap D S mo (some (.ref Dp)) i ti)) (N : News b L' s.heap [(Dp, listOf vs.toArray kd), (I, oI), (S, listOf ps.toArray kp), (L' + 1, oC)])
    (hc : ∀ h' tk es k, IntsAre es (wrOut l.length z) → Fr b L' h' (wrMap D S mo (some (.ref Dp)) i ti) → News b L' h' [(I, oI), (S, listOf (ps ++ es).toArray k), (L' + 1, oC)] → Q .next { s with heap := h', toks := tk }) :
    wpAny (model PySem.Challenge.rw_kq0072_01.row.prog w) (wrA L a cd L') (execs [stmtAt wrBody 3] (wrEnv L')) Q (fun e s' => wpAny (model PySem.Challenge.rw_kq0072_01.row.prog w) (wrA L a cd L') (leaving (wrEnv L') e) (fun _ s'' => E₂ e s'') (fun e' s'' => E₂ e' s'') s') s := by
  dsimp only [wrEnv, wrA, wrBody, wrScope, wrDef, stmtAt, forBody, defBody, defScope, PySem.Challenge.pw_kq0072_01, List.drop, wrMap] at F ⊢
  revert X
  k_fill
  intro X
  k_steps
  all_goals first
    | (refine HoldOnI.mk ?_
       rename Fr _ _ _ _ => hF; rename News _ _ _ _ => hN
       refine wr_else w mg mb mean b L a L' cd _ _ E₂ D S I Dp ps i ti mo oI oC kp kd z tz vs l hl0 hl4 hl1 hoC hz0 hz1 hps X T hlt1 hlt2 hlt3 hlt4 hlt5 hF hN ?_
       intro h' tk es k he Fe Ne
       clear hF hN
       k_steps
       refine hc _ _ es _ ?_ Fe Ne
       rw [wrOut, if_neg (by omega)]
       exact he)
    | (rename Fr _ _ _ _ => hF; rename News _ _ _ _ => hN
       rw [List.push_toArray] at hN
       refine hc _ _ _ _ ?_ hF (news_tail hN)
       rw [wrOut, if_pos (by omega)]
       exact .cons _ _ .nil)
end Mine
end
section -- WritSL
open PySem PySem.W PyProof.Rows
set_option maxRecDepth 100000
set_option maxHeartbeats 4000000
namespace Mine
structure HoldOnW (p : Prop) : Prop where
  go : p
local macro_rules | `(tactic| walk_at "callWith") => `(tactic| ((with_reducible show wpAny _ _ (callWith _ (Value.builtin _) (_ :: _) _ _) _ _ _); refine callWith_method1 ?_))
def sumL (l : List Int) : Int := l.foldl (fun a x => 256 * a + x) 0
theorem sumL_snoc {l : List Int} {i : Nat} {n : Int} (h : l[i]? = some n) : sumL (l.take (i + 1)) = 256 * sumL (l.take i) + n := by
  unfold sumL
  rw [List.take_add_one, h, List.foldl_append]
  rfl
theorem wr_step (w : World) (mg mb : Str → Option Value) (mean : ExcName → Option Value) (b : Heap) (L a L' : Addr) (cd : Value) (s : Shared) (Q : Flow → Shared → Prop) (E : Value → Shared → Prop) (D S I Dp Li : Addr) (oS oD oL oI oC : Obj) (i n z : Int) (ti t tz : Tok) (mo mp : Option Value) (own : List (Addr × Obj))
    (X : (hd.heap_39 w.params).In b) (T : TopM mean mg mb b) (hoC : oC.data = .cell (some (.int z tz))) (n1 : @Ne Nat (L' + 1) Li) (n2 : @Ne Nat (L' + 1) Dp) (n3 : @Ne Nat (L' + 1) I) (n4 : @Ne Nat (L' + 1) S) (hoff : OwnOff own [L' + 1, Li, Dp, I, S])
    (F : Fr b L' s.heap (fun y => if y = Str.ofString "octet" then some (.int n t) else wrMap D S mo mp i ti y)) (N : News b L' s.heap ([(L' + 1, oC), (Li, oL), (Dp, oD), (I, oI), (S, oS)] ++ own))
    (hc : ∀ h' tk oC' tz, oC'.data = .cell (some (.int (256 * z + n) tz)) → Fr b L' h' (fun y => if y = Str.ofString "octet" then some (.int n t) else wrMap D S mo mp i ti y) → News b L' h' ([(L' + 1, oC'), (Li, oL), (Dp, oD), (I, oI), (S, oS)] ++ own) → Q .next { s with heap := h', toks := tk }) :
    wpAny (model PySem.Challenge.rw_kq0072_01.row.prog w) (wrA L a cd L') (execs (forBody (stmtAt wrBody 2)) (wrEnv L')) Q E s := by
  dsimp only [wrEnv, wrA, wrBody, wrScope, wrDef, stmtAt, forBody, defBody, defScope, PySem.Challenge.pw_kq0072_01, List.drop, wrMap, List.cons_append, List.nil_append] at F N hc ⊢
  revert X
  k_fill
  intro X
  k_steps
  rename Fr _ _ _ _ => hF
  rename News _ _ _ _ => hN
  refine' hc _ _ _ _ ?as hF hN
  case as => assumption
theorem wr_loop (w : World) (mg mb : Str → Option Value) (mean : ExcName → Option Value) (b : Heap) (L a L' : Addr) (cd : Value) (s : Shared) (Q : Flow → Shared → Prop) (E : Value → Shared → Prop) (D S I Dp Li : Addr) (oS oD oI oC : Obj) (ws : List Value) (ns : List Int) (nn : Nat) (i : Int) (ti tz : Tok) (mo mp : Option Value) (news : List (Addr × Obj))
    (X : (hd.heap_39 w.params).In b) (T : TopM mean mg mb b) (hoC : oC.data = .cell (some (.int 0 tz))) (n1 : @Ne Nat (L' + 1) Li) (n2 : @Ne Nat (L' + 1) Dp) (n3 : @Ne Nat (L' + 1) I) (n4 : @Ne Nat (L' + 1) S) (hI : IntsAre ws ns)
    (F : Fr b L' s.heap (wrMap D S mo mp i ti)) (N : News b L' s.heap news) (m0 : (L' + 1, oC) ∈ news) (m1 : (Li, listOf ws.toArray nn) ∈ news) (m2 : (Dp, oD) ∈ news) (m3 : (I, oI) ∈ news) (m4 : (S, oS) ∈ news)
    (hc : ∀ h' tk mo' oC' tz, oC'.data = .cell (some (.int (sumL ns) tz)) → Fr b L' h' (wrMap D S mo' mp i ti) → News b L' h' [(L' + 1, oC'), (Li, listOf ws.toArray nn), (Dp, oD), (I, oI), (S, oS)] → Q .next { s with heap := h', toks := tk }) :
    wpAny (model PySem.Challenge.rw_kq0072_01.row.prog w) (wrA L a cd L') (pyIter (.ref Li)) (fun it s₂ => LoopAtV PySem.Challenge.rw_kq0072_01.row.prog w (wrA L a cd L') b (wrEnv L') (Str.ofString "octet") (forBody (stmtAt wrBody 2)) Q E it s₂) E s := by
  have N1 : News b L' s.heap [(L' + 1, oC), (Li, listOf ws.toArray nn), (Dp, oD), (I, oI), (S, oS)] := fun p hp => by
    rcases List.mem_cons.mp hp with rfl | hp
    · exact N _ m0
    exact small_led4 N m1 m2 m3 m4 p hp
  refine iter_invNL (m₀ := wrMap D S mo mp i ti) (news := [(L' + 1, oC), (Li, listOf ws.toArray nn), (Dp, oD), (I, oI), (S, oS)]) (vs := ws) (ns := ns) (nn := nn)
    (fun j m nx => (∃ mo, m = wrMap D S mo mp i ti) ∧ ∃ oC tz, oC.data = .cell (some (.int (sumL (ns.take j)) tz)) ∧ nx = [(L' + 1, oC), (Li, listOf ws.toArray nn), (Dp, oD), (I, oI), (S, oS)])
    rfl (List.mem_cons_of_mem _ (List.mem_cons_self ..)) hI F N1 ⟨⟨mo, rfl⟩, oC, tz, hoC, rfl⟩ ?turn ?done
  case turn =>
    rintro j n t m₁ news₁ h tk own hi _ hoff _ ⟨⟨mo1, rfl⟩, oC1, tz1, hC1, rfl⟩ F1 N1
    refine wr_step w mg mb mean b L a L' cd _ _ E D S I Dp Li oS oD _ oI oC1 i n _ ti t tz1 mo1 mp own X T hC1 n1 n2 n3 n4 hoff F1 N1 ?_
    intro h' tk' oC' tz' hC' F' N'
    refine InvEndN.intro F' N' ⟨List.mem_cons_of_mem _ (List.mem_cons_self ..), ⟨some (.int n t), ?_⟩, oC', tz', ?_, rfl⟩ rfl (fun p hp => List.mem_append_left _ hp) (fun p hp => List.mem_append_right _ hp)
    · funext y
      dsimp only [wrMap]
      by_cases e1 : y = Str.ofString "octet"
      · rw [if_pos e1, if_pos e1]
      · simp only [if_neg e1]
    · rw [sumL_snoc hi]; exact hC'
  case done =>
    rintro m₁ news₁ h tk _ ⟨⟨mo1, rfl⟩, oC1, tz1, hC1, rfl⟩ F1 N1
    rw [List.take_length] at hC1
    exact hc h tk mo1 oC1 tz1 hC1 F1 N1
end Mine
end
section -- WritS
open PySem PySem.W PyProof.Rows
set_option maxRecDepth 100000
set_option maxHeartbeats 4000000
namespace Mine
local macro_rules | `(tactic| walk_at "callWith") => `(tactic| ((with_reducible show wpAny _ _ (callWith _ (Value.builtin _) (_ :: _) _ _) _ _ _); refine callWith_method1 ?_))
local macro_rules | `(tactic| walk_at "exec For Name BinOp") => `(tactic| (k_here; (rename Fr _ _ _ _ => lF'); (with_unfolding_all refine' For_invVF lF' ?k1 ?k2 ?_; (case k1 => exact rfl); (case k2 => exact rfl); k_whole)))
local macro_rules | `(tactic| walk_at "pyIter ref") => `(tactic| (k_here; refine HoldOnW.go ?_))
theorem wr_sum (w : World) (mg mb : Str → Option Value) (mean : ExcName → Option Value) (b : Heap) (L a L' : Addr) (cd : Value) (s : Shared) (Q : Flow → Shared → Prop) (E₂ : Value → Shared → Prop) (D S I Dp : Addr) (ps : List Value) (i : Int) (ti : Tok) (mo : Option Value) (oI oC : Obj) (kp kd : Nat) (cv : Option Value) (rest : List Stmt)
    (vs : List Value) (l : List Int) (hoC : oC.data = .cell cv) (hl0 : IntsAre vs l) (hl4 : l.length ≤ 4) (hl1 : 0 < l.length)
    (X : (hd.heap_39 w.params).In b) (T : TopM mean mg mb b) (hlt1 : @LT.lt Nat _ S Dp) (hlt2 : @LT.lt Nat _ I Dp) (hlt3 : @LT.lt Nat _ (L' + 1) Dp) (hlt4 : @LT.lt Nat _ (L' + 1) S) (hlt5 : @LT.lt Nat _ S I)
    (F : Fr b L' s.heap (wrMap D S mo (some (.ref Dp)) i ti)) (N : News b L' s.heap [(Dp, listOf vs.toArray kd), (I, oI), (S, listOf ps.toArray kp), (L' + 1, oC)])
    (hc : ∀ h' tk mo' oC' tz, Fr b L' h' (wrMap D S mo' (some (.ref Dp)) i ti) → oC'.data = .cell (some (.int (sumL (l ++ (List.replicate (4 - (l.length : Int)).toNat [0]).flatten)) tz)) → News b L' h' [(Dp, listOf vs.toArray kd), (I, oI), (S, listOf ps.toArray kp), (L' + 1, oC')] → 
      wpAny (model PySem.Challenge.rw_kq0072_01.row.prog w) (wrA L a cd L') (execs rest (wrEnv L')) Q (fun e s' => wpAny (model PySem.Challenge.rw_kq0072_01.row.prog w) (wrA L a cd L') (leaving (wrEnv L') e) (fun _ s'' => E₂ e s'') (fun e' s'' => E₂ e' s'') s') { s with heap := h', toks := tk }) :
    wpAny (model PySem.Challenge.rw_kq0072_01.row.prog w) (wrA L a cd L') (execs (stmtAt wrBody 1 :: stmtAt wrBody 2 :: rest) (wrEnv L')) Q (fun e s' => wpAny (model PySem.Challenge.rw_kq0072_01.row.prog w) (wrA L a cd L') (leaving (wrEnv L') e) (fun _ s'' => E₂ e s'') (fun e' s'' => E₂ e' s'') s') s := by
  dsimp only [wrEnv, wrA, wrBody, wrScope, wrDef, stmtAt, forBody, defBody, defScope, PySem.Challenge.pw_kq0072_01, List.drop, wrMap] at F hc ⊢
  revert X
  k_fill
  intro X
  k_steps
  rename Fr _ _ _ _ => hF
  rename News _ _ _ _ => hN
  rename IntsAre _ (l ++ _) => hi
  refine HoldOnW.mk ?_
  rename (_ < _ ∧ _ < _ ∧ _ < _ ∧ _ < _ ∧ _ < _ ∧ _ < _) => hl
  have nlt : ∀ {x y : Nat}, x < y → @Ne Nat x y := fun h e => Nat.lt_irrefl _ (e ▸ h)
  refine wr_loop w mg mb mean b L a L' cd _ _ _ D S I Dp _ _ _ oI _ _ _ _ i ti _ mo (some (.ref Dp)) _ X T (by assumption) (nlt hl.2.2.2.2.2) (nlt hlt3) (nlt (Nat.lt_trans hlt4 hlt5)) (nlt hlt4) hi hF hN (by k_mem) (by k_mem) (by k_mem) (by k_mem) (by k_mem) ?_
  intro h' tk mo' oC' tz hC' F' N'
  exact hc h' tk mo' oC' tz F' hC' (small_led4 N' (by k_mem) (by k_mem) (by k_mem) (by k_mem))
end Mine
end
section -- WritT
open PySem PySem.W PyProof.Rows
set_option maxRecDepth 100000
set_option maxHeartbeats 4000000
namespace Mine
def sum4 : List Int → Int
  | [a] => 256 * (256 * (256 * (256 * 0 + a) + 0) + 0) + 0
  | [a, b] => 256 * (256 * (256 * (256 * 0 + a) + b) + 0) + 0
  | [a, b, c] => 256 * (256 * (256 * (256 * 0 + a) + b) + c) + 0
  | [a, b, c, d] => 256 * (256 * (256 * (256 * 0 + a) + b) + c) + d
  | _ => 0
def wrPiece (l : List Int) : List Int := wrOut l.length (sum4 l)
theorem sum4_eq (l : List Int) (h1 : 0 < l.length) (h4 : l.length ≤ 4) : sumL (l ++ (List.replicate (4 - (l.length : Int)).toNat [0]).flatten) = sum4 l := by
  match l, h1, h4 with
  | [_], _, _ => rfl
  | [_, _], _, _ => rfl
  | [_, _, _], _, _ => rfl
  | [_, _, _, _], _, _ => rfl
  | _ :: _ :: _ :: _ :: _ :: _, _, h => exact absurd h (by simp only [List.length_cons]; omega)
theorem hor {a x N : Int} (h : 0 ≤ a ∧ a < N) (hx : 0 ≤ x ∧ x < 256) : 0 ≤ 256 * a + x ∧ 256 * a + x < 256 * N := by omega
theorem sum4_in (l : List Int) (hin : ∀ x ∈ l, 0 ≤ x ∧ x < 256) (h1 : 0 < l.length) (h4 : l.length ≤ 4) : 0 ≤ sum4 l ∧ sum4 l < 4294967296 := by
  have z1 : (0 : Int) ≤ 0 ∧ (0 : Int) < 1 := by decide
  have z2 : (0 : Int) ≤ 0 ∧ (0 : Int) < 256 := by decide
  match l, hin, h1, h4 with
  | [a], hin, _, _ => exact hor (hor (hor (hor z1 (hin a (by simp))) z2) z2) z2
  | [a, b], hin, _, _ => exact hor (hor (hor (hor z1 (hin a (by simp))) (hin b (by simp))) z2) z2
  | [a, b, c], hin, _, _ => exact hor (hor (hor (hor z1 (hin a (by simp))) (hin b (by simp))) (hin c (by simp))) z2
  | [a, b, c, d], hin, _, _ => exact hor (hor (hor (hor z1 (hin a (by simp))) (hin b (by simp))) (hin c (by simp))) (hin d (by simp))
  | _ :: _ :: _ :: _ :: _ :: _, _, _, h => exact absurd h (by simp only [List.length_cons]; omega)
theorem wr_turn (w : World) (mg mb : Str → Option Value) (mean : ExcName → Option Value) (b : Heap) (L a L' : Addr) (cd : Value) (s : Shared) (Q : Flow → Shared → Prop) (E₂ : Value → Shared → Prop) (D S I : Addr) (ws ps : List Value) (ns : List Int) (i : Int) (ti : Tok) (mo mp : Option Value) (oI oC : Obj) (kp : Nat) (cv : Option Value)
    (hoC : oC.data = .cell cv) (hps : ps.length ≤ 100) (hns : ∀ x ∈ ns, 0 ≤ x ∧ x < 256)
    (X : (hd.heap_39 w.params).In b) (T : TopM mean mg mb b) (hD : b.IsList D ws.toArray) (hI : IntsAre ws ns) (hl : ns.length ≤ 30) (h0 : 0 ≤ i) (h1 : i < ns.length)
    (hlt4 : @LT.lt Nat _ (L' + 1) S) (hlt5 : @LT.lt Nat _ S I)
    (F : Fr b L' s.heap (wrMap D S mo mp i ti)) (N : News b L' s.heap [(I, oI), (S, listOf ps.toArray kp), (L' + 1, oC)])
    (hc : ∀ h' tk mo' mp' es k oC' cv', oC'.data = .cell cv' → IntsAre es (wrPiece ((ns.drop i.toNat).take 4)) → Fr b L' h' (wrMap D S mo' mp' i ti) → News b L' h' [(I, oI), (S, listOf (ps ++ es).toArray k), (L' + 1, oC')] → Q .next { s with heap := h', toks := tk }) :
    wpAny (model PySem.Challenge.rw_kq0072_01.row.prog w) (wrA L a cd L') (execs wrBody (wrEnv L')) Q
      (fun e s' => wpAny (model PySem.Challenge.rw_kq0072_01.row.prog w) (wrA L a cd L') (leaving (wrEnv L') e) (fun _ s'' => E₂ e s'') (fun e' s'' => E₂ e' s'') s') s := by
  have hin : ∀ x ∈ (ns.drop i.toNat).take 4, 0 ≤ x ∧ x < 256 := fun x hx => hns x (List.mem_of_mem_drop (List.mem_of_mem_take hx))
  have hlen : 0 < ((ns.drop i.toNat).take 4).length := by rw [List.length_take, List.length_drop]; omega
  have hlen4 : ((ns.drop i.toNat).take 4).length ≤ 4 := by rw [List.length_take]; omega
  refine wr_piece w mg mb mean b L a L' cd s Q _ D S I ws ps ns i ti mo mp oI oC kp [stmtAt wrBody 1, stmtAt wrBody 2, stmtAt wrBody 3] X T hD hI hl h0 h1 F N ?_
  intro Dp h2 tk2 vs k2 hv hlt1 hlt2 hlt3 F2 N2
  generalize (ns.drop i.toNat).take 4 = l at hv hin hlen hlen4 hc
  refine wr_sum w mg mb mean b L a L' cd _ Q E₂ D S I Dp ps i ti mo oI oC kp _ cv [stmtAt wrBody 3] vs l hoC hv hlen4 hlen X T hlt1 hlt2 hlt3 hlt4 hlt5 F2 N2 ?_
  intro h3 tk3 mo3 oC3 tz F3 hz N3
  rw [sum4_eq l hlen hlen4] at hz
  have hb := sum4_in l hin hlen hlen4
  exact wr_if w mg mb mean b L a L' cd _ Q E₂ D S I Dp ps i ti mo3 oI oC3 kp _ _ tz vs l hv hlen4 hlen hz hb.1 hb.2 hps X T hlt1 hlt2 hlt3 hlt4 hlt5 F3 N3 (fun h' tk es k he Fe Ne => hc _ _ _ _ es _ _ _ hz he Fe Ne)
end Mine
end
section -- WritL
open PySem PySem.W PyProof.Rows
set_option maxRecDepth 100000
set_option maxHeartbeats 4000000
namespace Mine
def writN : Nat → List Int → List Int
  | 0, _ => []
  | k + 1, l => wrPiece (l.take 4) ++ writN k (l.drop 4)
def turnsOf (n : Nat) : Nat := (n + 3) / 4
def writ (l : List Int) : List Int := writN (turnsOf l.length) l
theorem wrPiece_len (l : List Int) : (wrPiece l).length ≤ 5 := by
  unfold wrPiece wrOut
  split
  · decide
  · rw [List.length_take]; exact Nat.min_le_right _ _
theorem ints_app' {vs ws : List Value} {ns ms : List Int} (h : IntsAre vs ns) (k : IntsAre ws ms) : IntsAre (vs ++ ws) (ns ++ ms) := by
  induction h with
  | nil => exact k
  | cons n t _ ih => exact .cons _ _ ih
abbrev Minv (D S : Addr) (m : Str → Option Value) : Prop := ∃ mo mp, ∀ y, y ≠ Str.ofString "i" → m y = wrMap D S mo mp 0 0 y
theorem wr_turns (w : World) (mg mb : Str → Option Value) (mean : ExcName → Option Value) (b : Heap) (L a L' : Addr) (cd : Value) (s : Shared) (Q : Flow → Shared → Prop) (E₂ : Value → Shared → Prop) (D S I : Addr) (ws : List Value) (ns : List Int)
    (hns : ∀ x ∈ ns, 0 ≤ x ∧ x < 256)
    (X : (hd.heap_39 w.params).In b) (T : TopM mean mg mb b) (hD : b.IsList D ws.toArray) (hI : IntsAre ws ns) (hl : ns.length ≤ 30)
    (hlt4 : @LT.lt Nat _ (L' + 1) S) (hlt5 : @LT.lt Nat _ S I)
    (hfin : ∀ h tk m ps kp oC cv, oC.data = .cell cv → IntsAre ps (writ ns) → Minv D S m → Fr b L' h m → News b L' h [(S, listOf ps.toArray kp), (L' + 1, oC)] → Q .next { s with heap := h, toks := tk }) :
    ∀ k i m ps P kp oC cv, i + k = turnsOf ns.length → Minv D S m → oC.data = .cell cv → IntsAre ps P → P.length ≤ 5 * i → P ++ writN k (ns.drop (4 * i)) = writ ns →
      KrsRest PySem.Challenge.rw_kq0072_01.row.prog w (wrA L a cd L')
        (fun e s' => wpAny (model PySem.Challenge.rw_kq0072_01.row.prog w) (wrA L a cd L') (leaving (wrEnv L') e) (fun _ s'' => E₂ e s'') (fun e' s'' => E₂ e' s'') s')
        b (wrEnv L') (Str.ofString "i") wrBody Q s I 0 4 (turnsOf ns.length) k i m [(S, listOf ps.toArray kp), (L' + 1, oC)] := by
  intro k
  induction k with
  | zero =>
    intro i m ps P kp oC cv hi hm hoC hp hpl hP
    refine KrsRest.zero (fun h tk F N => hfin h tk m ps kp oC cv hoC ?_ hm F N)
    rw [← hP]
    simpa [writN] using hp
  | succ k ih =>
    intro i m ps P kp oC cv hi hm hoC hp hpl hP
    refine KrsRest.succ (v := 4 * (i : Int)) (by omega) ?_
    intro t h tk F N
    obtain ⟨mo, mp, hm⟩ := hm
    have hi4 : i < turnsOf ns.length := by omega
    have hlt : 4 * i < ns.length := by unfold turnsOf at hi4; omega
    have hi8 : i ≤ 8 := by unfold turnsOf at hi4; omega
    have hps : ps.length ≤ 100 := by rw [intsAre_len hp]; omega
    have F2 : Fr b L' h (wrMap D S mo mp (4 * (i : Int)) t) := fr_congr F fun y => by
      by_cases e : y = Str.ofString "i"
      · subst e; exact rfl
      · rw [if_neg e, hm y e]
        simp only [wrMap, if_neg e]
    refine wr_turn w mg mb mean b L a L' cd _ _ E₂ D S I ws ps ns (4 * (i : Int)) t mo mp _ oC kp cv hoC hps hns X T hD hI hl (by omega) (by omega) hlt4 hlt5 F2 N ?_
    intro h' tk' mo' mp' es k' oC' cv' hoC' he Fe Ne
    have e4 : (4 * (i : Int)).toNat = 4 * i := by omega
    rw [e4] at he
    refine UnrEnd.intro Fe Ne [(S, listOf (ps ++ es).toArray k'), (L' + 1, oC')] (fun p hp => hp) (fun p hp => ?_) ?_
    · simp only [List.mem_cons, List.not_mem_nil, or_false] at hp
      rcases hp with rfl | rfl
      · exact Nat.ne_of_lt hlt5
      · exact Nat.ne_of_lt (Nat.lt_trans hlt4 hlt5)
    · refine ih (i + 1) _ (ps ++ es) (P ++ wrPiece ((ns.drop (4 * i)).take 4)) k' oC' cv' (by omega) ⟨mo', mp', fun y e => ?_⟩ hoC' (ints_app' hp he) ?_ ?_
      · simp only [wrMap, if_neg e]
      · rw [List.length_append]; have := wrPiece_len ((ns.drop (4 * i)).take 4); omega
      · rw [← hP, writN, List.append_assoc, List.drop_drop, show 4 * (i + 1) = 4 * i + 4 from by omega]
end Mine
end
section -- Writ
open PySem PySem.W PyProof.Rows
set_option maxRecDepth 100000
set_option maxHeartbeats 4000000
namespace Mine
local macro_rules | `(tactic| walk_at "callWith") => `(tactic| ((with_reducible show wpAny _ _ (callWith _ (Value.builtin _) (_ :: _) _ _) _ _ _); refine callWith_method1 ?_))
local macro_rules | `(tactic| walk_at "pyIter ref") => `(tactic| fail)
theorem small4 (n : Nat) (h : n ≤ 30) : Builtin.Range.small 0 (n : Int) 4 = true := by
  have : ∀ n : Nat, n < 31 → Builtin.Range.small 0 (n : Int) 4 = true := by decide +kernel
  exact this n (by omega)
theorem size4 (n : Nat) : Builtin.Range.rangeSize 0 (n : Int) 4 = ((turnsOf n : Nat) : Int) := by
  unfold Builtin.Range.rangeSize turnsOf
  simp
  omega
theorem law_writing (w : World) (mg mb : Str → Option Value) (mean : ExcName → Option Value) (h₀ : Heap) (L a : Addr) (cd : Value) (m : Str → Option Value) (s : Shared) (Q E : Value → Shared → Prop) (D : Addr) (ws : List Value) (ns : List Int)
    (F : Fr h₀ L s.heap m) (X : (hd.heap_39 w.params).In h₀) (T : TopM mean mg mb h₀) (hD : s.heap.IsList D ws.toArray) (I : IntsAre ws ns) (hl : ns.length ≤ 30) (hns : ∀ x ∈ ns, 0 ≤ x ∧ x < 256)
    (hret : ∀ h' tk P ps k, Fr h₀ L h' m → (∀ x o, s.heap.get? x = some o → h'.get? x = some o) → s.heap.get? P = none → h'.get? P = some (listOf ps.toArray k) → IntsAre ps (writ ns) → Q (.ref P) { s with heap := h', toks := tk }) :
    wpAny (model PySem.Challenge.rw_kq0072_01.row.prog w) (lawA L a cd) (call (.ref 182) [.ref D] []) Q E s := by
  revert X
  k_fill
  intro X
  refine wpAny_call ?_
  k_dflt (refine' code_defW ?k1 ?k2 ?k3 ?k6 ?k7 ?k8 ?k9 ?kB ?kD ?_ ?c2 ?c3 ?c4; (case k1 => k_asm); (case k2 => k_asm); (case k3 => k_asm); (case k6 => k_is); (case k7 => k_is); (case k8 => first | k_room | ktr_room | decide); (case k9 => first | exact BindsTo.of_eq rfl | exact binds_K (by k_in) rfl (by k_is) rfl rfl rfl); (case kB => (intro n x hx; cases hx with | head => exact .inl rfl | tail _ h => cases h)); (case kD => decide +kernel); (case c2 => exact rfl); (case c3 => exact rfl); (case c4 => exact rfl); k_whole)
  intro L' h1 tk1 cells F' N' Y' X' T'
  k_cells Y'
  have hF := F
  clear F X T
  (try simp only [List.cons_append, List.nil_append] at N')
  (try dsimp only)
  (try k_fold)
  k_steps
  rename IsRange _ _ _ _ _ _ _ _ => hR
  rename Fr s.heap L' _ _ => hF2
  rename News _ _ _ _ => hN2
  rename (_ = Data.cell _) => hdc
  rename (@LT.lt Nat _ (L' + 1) _) => hlt
  refine krs_iter rfl hR (small4 _ hl) (size4 _) hF2 hN2 (fun J hJ => ?_)
  refine wr_turns w mg mb mean s.heap L a L' cd _ _ _ D _ J ws ns hns X' T' hD I hl hlt (hJ _ (List.mem_cons_self ..)) ?fin _ 0 _ [] [] _ _ _ (Nat.zero_add _) ⟨none, none, ?mm⟩ hdc .nil (Nat.zero_le _) rfl
  case mm =>
    intro y hy
    dsimp only [wrMap]
    by_cases e1 : y = Str.ofString "octet"
    · subst e1; exact rfl
    rw [if_neg e1]
    by_cases e2 : y = Str.ofString "piece"
    · subst e2; exact rfl
    rw [if_neg e2, if_neg hy]
    by_cases e3 : y = Str.ofString "signs"
    · rw [if_pos e3, if_pos e3]
    rw [if_neg e3, if_neg e3]
    by_cases e4 : y = Str.ofString "row"
    · subst e4; exact rfl
    rw [if_neg e4]
    exact if_neg e4
  case fin =>
    intro h4 tk4 m4 ps kp oC cv hoC4 hps4 hm4 hF4 hN4
    obtain ⟨mo, mp, hm4⟩ := hm4
    clear hF2 hN2 hR
    have hF5 := fr_congr (m' := fun y => if y = Str.ofString "i" then m4 (Str.ofString "i") else wrMap D _ mo mp 0 0 y) hF4 (fun y => by
      by_cases e : y = Str.ofString "i"
      · rw [if_pos e, e]
      · rw [if_neg e]; exact (hm4 y e).symm)
    clear hF4
    dsimp only [wrMap] at hF5
    revert X'
    k_fill
    intro X'
    k_steps
    rename Fr s.heap L' _ _ => hF6
    rename News s.heap L' _ _ => hN6
    have hS := hN6 _ (List.mem_cons_self ..)
    exact hret _ _ _ ps _ (Fr.keeps hF hF6.keep) hF6.keep hS.2.2 hS.1 hps4
end Mine
end
section -- SegB
open PySem PySem.W PyProof.Rows
set_option maxRecDepth 100000
set_option maxHeartbeats 4000000
namespace Mine
theorem news_new {h₀ h h' : Heap} {L P : Addr} {m : Str → Option Value} {o : Obj} {news : List (Addr × Obj)} (N : News h₀ L h news) (F : Fr h₀ L h m) (keep : ∀ x o, h.get? x = some o → h'.get? x = some o) (hn : h.get? P = none) (hP : h'.get? P = some o) : News h₀ L h' ((P, o) :: news) := fun p hp => by
  rcases List.mem_cons.mp hp with rfl | hp
  · refine ⟨hP, fun e => ?_, ?_⟩
    · obtain ⟨oL, _, _, hL, _⟩ := F.ns
      dsimp only at e
      rw [e, hL] at hn; cases hn
    · cases q : h₀.get? P with
      | none => rfl
      | some o' => rw [F.keep _ _ q] at hn; cases hn
  · exact ⟨keep _ _ (N p hp).1, (N p hp).2⟩
theorem ne_new {h : Heap} {P a : Addr} {o : Obj} (hn : h.get? P = none) (e : h.get? a = some o) : @Ne Nat P a := fun q => by
  have q' : P = a := q
  rw [q', e] at hn; cases hn
abbrev LE (w : World) (L a : Addr) (cd : Value) (E₂ : Value → Shared → Prop) : Value → Shared → Prop := fun e s' => wpAny (model PySem.Challenge.rw_kq0072_01.row.prog w) (lawA L a cd) (leaving (lawEnv L a cd) e) (fun _ s'' => E₂ e s'') (fun e' s'' => E₂ e' s'') s'
end Mine
end
section -- Seg3a
open PySem PySem.W PyProof.Rows PySem.Calls
set_option maxRecDepth 100000
set_option maxHeartbeats 4000000
namespace Mine
local macro_rules | `(tactic| walk_at "callWith") => `(tactic| ((with_reducible show wpAny _ _ (callWith _ (Value.builtin _) (_ :: _) _ _) _ _ _); refine callWith_method1 ?_))
theorem ins_K {prog : Program} {w : World} {A : Around} {E : Value → Shared → Prop} {s : Shared} {h₀ : Heap} {L D : Addr} {m : Str → Option Value} {news news' : List (Addr × Obj)} {ps : List Value} {n : Nat} {x : Int} {u : Tok} {y : Value} {Q : Value → Shared → Prop} (F : Fr h₀ L s.heap m) (N : News h₀ L s.heap news)
    (U : Upd D (listOf ps.toArray n) (listOf (kl_ins ps x y).toArray (n + 1)) news news') (h0 : 0 ≤ x) (h1 : x < 1000) (hps : ps.length ≤ 300)
    (h : ∀ h', Fr h₀ L h' m → News h₀ L h' news' → Q .none { s with heap := h' }) : wpAny (model prog w) A (call (.builtin "list.insert") [.ref D, .int x u, y]) Q E s :=
  kl_insert F N (by unfold Builtin.List.listFitsIndex; simp; omega) rfl U (by show ps.length ≤ _; rw [sizeLine_eq]; omega) h
theorem len_K {prog : Program} {w : World} {A : Around} {E : Value → Shared → Prop} {s : Shared} {h₀ : Heap} {L D : Addr} {news : List (Addr × Obj)} {ps : List Value} {page : List Int} {n : Nat} {Q : Value → Shared → Prop} (N : News h₀ L s.heap news) (hm : (D, listOf ps.toArray n) ∈ news) (hI : IntsAre ps page) (hps : ps.length ≤ 300)
    (h : Q (.int page.length (s.toks + 1)) { s with toks := s.toks + 1 + 1 }) : wpAny (model prog w) A (call (.builtin "len") [.ref D]) Q E s := by
  have e : ps.toArray.size = page.length := intsAre_len hI
  refine len_list (items := ps.toArray) ⟨_, (N _ hm).1, rfl, _, rfl⟩ (by rw [List.size_toArray]; omega) ?_
  rw [e]; exact h
local macro_rules | `(tactic| walk_at "call builtin:len") => `(tactic| (k_here; (with_reducible show wpAny _ _ (call (Value.builtin "len") [Value.ref _]) _ _ _); k_dflt (refine' len_K ?N ?m ?I ?z ?_; (case N => k_asm); (case m => k_mem); (case I => assumption); (case z => assumption); k_whole)))
local macro_rules | `(tactic| walk_at "call builtin:list.insert") => `(tactic| (k_here; k_dflt (refine' ins_K ?F ?N ?U ?h0 ?h1 ?hp ?_; (case F => k_asm); (case N => k_asm); (case U => k_upd); (case hp => assumption); (case h0 => assumption); (case h1 => assumption); k_whole); intro h' F' N'))
def pageFor : Stmt := stmtAt lawBody 3
abbrev lawMap3 (R D : Addr) (mk : Option Value) (x : Int) (tx : Tok) (mo : Str → Option Value) : Str → Option Value := fun y =>
  if y = Str.ofString "x" then some (.int x tx) else if y = Str.ofString "k" then mk else if y = Str.ofString "row" then some (.ref R) else if y = Str.ofString "numbers" then some (.ref D) else mo y
def sgn (k : Int) : Int := if k < 33 then k else if k < 37 then k + 85 else k + 86
def putAt (page : List Int) (x : Int) : Nat := ((x.fdiv 7).fmod ((page.length : Int) + 1)).toNat
def putIn (page : List Int) (x : Int) : List Int := if x.fmod 2 = 1 then page.take (putAt page x) ++ sgn ((x.fdiv 2).fmod 170) :: page.drop (putAt page x) else page
theorem ints_take {vs : List Value} {ns : List Int} (h : IntsAre vs ns) : ∀ k, IntsAre (vs.take k) (ns.take k) := by
  induction h with
  | nil => intro k; cases k <;> exact .nil
  | cons n t _ ih =>
    intro k
    cases k with
    | zero => exact .nil
    | succ k => exact .cons _ _ (ih k)
theorem ints_drop {vs : List Value} {ns : List Int} (h : IntsAre vs ns) : ∀ k, IntsAre (vs.drop k) (ns.drop k) := by
  induction h with
  | nil => intro k; cases k <;> exact .nil
  | cons n t h ih =>
    intro k
    cases k with
    | zero => exact .cons _ _ h
    | succ k => exact ih k
theorem ints_ins {ps : List Value} {page : List Int} {x z : Int} {t : Tok} (hI : IntsAre ps page) (hx0 : 0 ≤ (x.fdiv 7).fmod ((page.length : Int) + 1)) (hx2 : (x.fdiv 7).fmod ((page.length : Int) + 1) < (page.length : Int) + 1) (ho : x.fmod 2 = 1) (hz : z = sgn ((x.fdiv 2).fmod 170)) :
    IntsAre (kl_ins ps ((x.fdiv 7).fmod ((page.length : Int) + 1)) (.int z t)) (putIn page x) := by
  have hl := intsAre_len hI
  unfold kl_ins putIn putAt
  rw [if_pos ho, if_neg (by omega), Nat.min_eq_left (by omega), hz]
  exact ints_app' (ints_take hI _) (.cons _ _ (ints_drop hI _))
theorem page_turn (w : World) (mg mb : Str → Option Value) (mean : ExcName → Option Value) (h₀ : Heap) (L a : Addr) (cd : Value) (s : Shared) (Q : Flow → Shared → Prop) (E₂ : Value → Shared → Prop) (mo : Str → Option Value) (R D P : Addr) (rs ws ps : List Value) (page : List Int) (kr kd kp : Nat) (oP oK oS oU oW : Obj) (x : Int) (tx : Tok) (mk : Option Value) (own : List (Addr × Obj))
    (X : (hd.heap_39 w.params).In h₀) (T : TopM mean mg mb h₀) (hI : IntsAre ps page) (hps : ps.length ≤ 300) (hx0 : 0 ≤ (x.fdiv 7).fmod ((page.length : Int) + 1)) (hx1 : (x.fdiv 7).fmod ((page.length : Int) + 1) < 1000) (hx2 : (x.fdiv 7).fmod ((page.length : Int) + 1) < (page.length : Int) + 1)
    (hoP : oP.data = .cell (some (.ref P))) (hd1 : @LT.lt Nat _ (L + 1 + 1 + 1 + 1 + 1) D) (e0 : @Ne Nat R D) (e1 : @Ne Nat R (L + 1 + 1 + 1 + 1 + 1)) (e2 : @Ne Nat R (L + 1 + 1 + 1 + 1)) (e3 : @Ne Nat R (L + 1 + 1 + 1)) (e4 : @Ne Nat R (L + 1 + 1)) (e5 : @Ne Nat R (L + 1))
    (n0 : @Ne Nat P R) (n1 : @Ne Nat P D) (n2 : @Ne Nat P (L + 1 + 1 + 1 + 1 + 1)) (n3 : @Ne Nat P (L + 1 + 1 + 1 + 1)) (n4 : @Ne Nat P (L + 1 + 1 + 1)) (n5 : @Ne Nat P (L + 1 + 1)) (n6 : @Ne Nat P (L + 1))
    (hoff : OwnOff own [P, R, D, L + 1 + 1 + 1 + 1 + 1, L + 1 + 1 + 1 + 1, L + 1 + 1 + 1, L + 1 + 1, L + 1])
    (F : Fr h₀ L s.heap (lawMap3 R D mk x tx mo)) (N : News h₀ L s.heap ([(P, listOf ps.toArray kp), (R, listOf rs.toArray kr), (D, listOf ws.toArray kd), (L + 1 + 1 + 1 + 1 + 1, oW), (L + 1 + 1 + 1 + 1, oU), (L + 1 + 1 + 1, oS), (L + 1 + 1, oK), (L + 1, oP)] ++ own))
    (hc : ∀ h' tk mk' ps' k', IntsAre ps' (putIn page x) → Fr h₀ L h' (lawMap3 R D mk' x tx mo) → News h₀ L h' ([(P, listOf ps'.toArray k'), (R, listOf rs.toArray kr), (D, listOf ws.toArray kd), (L + 1 + 1 + 1 + 1 + 1, oW), (L + 1 + 1 + 1 + 1, oU), (L + 1 + 1 + 1, oS), (L + 1 + 1, oK), (L + 1, oP)] ++ own) → Q .next { s with heap := h', toks := tk }) :
    wpAny (model PySem.Challenge.rw_kq0072_01.row.prog w) (lawA L a cd) (execs (forBody (stmtAt lawBody 3)) (lawEnv L a cd)) Q (LE w L a cd E₂) s := by
  dsimp only [LE, lawA, lawEnv, lawBody, lawScope, lawDef, stmtAt, defBody, defScope, forBody, PySem.Challenge.pw_kq0072_01, lawMap3, List.cons_append, List.nil_append] at F N ⊢
  revert X
  k_fill
  intro X
  k_steps
  all_goals (rename Fr _ _ _ _ => hF; rename News _ _ _ _ => hN)
  all_goals first
    | (refine' hc _ _ ?mk _ _ (ints_ins hI hx0 hx2 (by assumption) ?zz) (fr_congr hF ?mm) hN
       case zz => unfold sgn; (repeat split) <;> omega
       case mm =>
         intro y
         by_cases e1 : y = Str.ofString "k"
         · subst e1; exact rfl
         · simp only [lawMap3, if_neg e1])
    | (refine hc _ _ _ _ _ ?_ hF hN
       rw [putIn, if_neg (by assumption)]
       exact hI)
end Mine
end
section -- Seg3
open PySem PySem.W PyProof.Rows PySem.Calls
set_option maxRecDepth 100000
set_option maxHeartbeats 4000000
namespace Mine
local macro_rules | `(tactic| walk_at "callWith") => `(tactic| ((with_reducible show wpAny _ _ (callWith _ (Value.builtin _) (_ :: _) _ _) _ _ _); refine callWith_method1 ?_))
local macro_rules | `(tactic| walk_at "exec For Name Name") => `(tactic| (k_here; (rename Fr _ _ _ _ => lF'); (with_unfolding_all refine' For_invVF lF' ?k1 ?k2 ?_; (case k1 => exact rfl); (case k2 => exact rfl); k_whole)))
local macro_rules | `(tactic| walk_at "exec For Name Name cons nil") => `(tactic| (k_here; (rename Fr _ _ _ _ => lF'); (with_unfolding_all refine' For_invVF lF' ?k1 ?k2 ?_; (case k1 => exact rfl); (case k2 => exact rfl); k_whole)))
local macro_rules | `(tactic| walk_at "pyIter ref") => `(tactic| fail)
def pageOf (page : List Int) (ns : List Int) : List Int := ns.foldl putIn page
theorem putIn_len (page : List Int) (x : Int) : (putIn page x).length ≤ page.length + 1 := by
  unfold putIn
  split
  · rw [List.length_append, List.length_cons, List.length_take, List.length_drop]; omega
  · exact Nat.le_succ _
theorem pageOf_len (ns : List Int) : ∀ page, (pageOf page ns).length ≤ page.length + ns.length := by
  induction ns with
  | nil => intro page; exact Nat.le_refl _
  | cons x ns ih =>
    intro page
    have := ih (putIn page x)
    have h2 := putIn_len page x
    show (pageOf (putIn page x) ns).length ≤ _
    rw [List.length_cons]
    omega
abbrev lawMap3' (R D : Addr) (mx mk : Option Value) (mo : Str → Option Value) : Str → Option Value := fun y =>
  if y = Str.ofString "x" then mx else if y = Str.ofString "k" then mk else if y = Str.ofString "row" then some (.ref R) else if y = Str.ofString "numbers" then some (.ref D) else mo y
theorem seg3 (w : World) (mg mb : Str → Option Value) (mean : ExcName → Option Value) (h₀ : Heap) (L a : Addr) (cd : Value) (s : Shared) (Q : Flow → Shared → Prop) (E₂ : Value → Shared → Prop) (mo : Str → Option Value) (R D P : Addr) (rs ws ps : List Value) (ns page : List Int) (kr kd kp : Nat) (oP oK oS oU oW : Obj) (mx mk : Option Value) (rest : List Stmt)
    (X : (hd.heap_39 w.params).In h₀) (T : TopM mean mg mb h₀) (hIn : IntsAre ws ns) (hI : IntsAre ps page) (hns : ns.length ≤ 30) (hpl : page.length ≤ 100)
    (hoP : oP.data = .cell (some (.ref P))) (hd1 : @LT.lt Nat _ (L + 1 + 1 + 1 + 1 + 1) D) (e0 : @Ne Nat R D) (e1 : @Ne Nat R (L + 1 + 1 + 1 + 1 + 1)) (e2 : @Ne Nat R (L + 1 + 1 + 1 + 1)) (e3 : @Ne Nat R (L + 1 + 1 + 1)) (e4 : @Ne Nat R (L + 1 + 1)) (e5 : @Ne Nat R (L + 1))
    (n0 : @Ne Nat P R) (n1 : @Ne Nat P D) (n2 : @Ne Nat P (L + 1 + 1 + 1 + 1 + 1)) (n3 : @Ne Nat P (L + 1 + 1 + 1 + 1)) (n4 : @Ne Nat P (L + 1 + 1 + 1)) (n5 : @Ne Nat P (L + 1 + 1)) (n6 : @Ne Nat P (L + 1))
    (F : Fr h₀ L s.heap (lawMap3' R D mx mk mo)) (N : News h₀ L s.heap [(P, listOf ps.toArray kp), (R, listOf rs.toArray kr), (D, listOf ws.toArray kd), (L + 1 + 1 + 1 + 1 + 1, oW), (L + 1 + 1 + 1 + 1, oU), (L + 1 + 1 + 1, oS), (L + 1 + 1, oK), (L + 1, oP)])
    (hc : ∀ h' tk mx' mk' ps' k', IntsAre ps' (pageOf page ns) → Fr h₀ L h' (lawMap3' R D mx' mk' mo) → News h₀ L h' [(P, listOf ps'.toArray k'), (R, listOf rs.toArray kr), (D, listOf ws.toArray kd), (L + 1 + 1 + 1 + 1 + 1, oW), (L + 1 + 1 + 1 + 1, oU), (L + 1 + 1 + 1, oS), (L + 1 + 1, oK), (L + 1, oP)] →
      wpAny (model PySem.Challenge.rw_kq0072_01.row.prog w) (lawA L a cd) (execs rest (lawEnv L a cd)) Q (LE w L a cd E₂) { s with heap := h', toks := tk }) :
    wpAny (model PySem.Challenge.rw_kq0072_01.row.prog w) (lawA L a cd) (execs (stmtAt lawBody 3 :: rest) (lawEnv L a cd)) Q (LE w L a cd E₂) s := by
  have pt := @page_turn w mg mb mean h₀ L a cd
  dsimp only [LE, lawA, lawEnv, lawBody, lawScope, lawDef, stmtAt, defBody, defScope, forBody, PySem.Challenge.pw_kq0072_01, lawMap3'] at F hc pt ⊢
  revert X
  k_fill
  intro X
  k_steps
  rename Fr _ _ _ _ => F
  refine iter_invNL (m₀ := lawMap3' R D mx mk mo) (news := [(P, listOf ps.toArray kp), (R, listOf rs.toArray kr), (D, listOf ws.toArray kd), (L + 1 + 1 + 1 + 1 + 1, oW), (L + 1 + 1 + 1 + 1, oU), (L + 1 + 1 + 1, oS), (L + 1 + 1, oK), (L + 1, oP)]) (vs := ws) (ns := ns) (nn := kd)
    (fun i m nx => (∃ mx mk, m = lawMap3' R D mx mk mo) ∧ ∃ ps k, IntsAre ps (pageOf page (ns.take i)) ∧ nx = [(P, listOf ps.toArray k), (R, listOf rs.toArray kr), (D, listOf ws.toArray kd), (L + 1 + 1 + 1 + 1 + 1, oW), (L + 1 + 1 + 1 + 1, oU), (L + 1 + 1 + 1, oS), (L + 1 + 1, oK), (L + 1, oP)])
    rfl (by simp) hIn F N ⟨⟨mx, mk, rfl⟩, ps, kp, hI, rfl⟩ ?turn ?done
  case turn =>
    rintro i n t m₁ news₁ h tk own hi _ hoff _ ⟨⟨mx1, mk1, rfl⟩, ps1, k1, hp1, rfl⟩ F1 N1
    have hpl1 : (pageOf page (ns.take i)).length ≤ 130 := by
      have h1 := pageOf_len (ns.take i) page
      have h2 : (ns.take i).length ≤ ns.length := by rw [List.length_take]; exact Nat.min_le_right _ _
      omega
    have hps1 : ps1.length ≤ 300 := by rw [intsAre_len hp1]; omega
    have hb0 : 0 ≤ (n.fdiv 7).fmod (((pageOf page (ns.take i)).length : Int) + 1) := by
      rw [Int.fmod_eq_emod_of_nonneg _ (by omega)]; exact Int.emod_nonneg _ (by omega)
    have hb1 : (n.fdiv 7).fmod (((pageOf page (ns.take i)).length : Int) + 1) < ((pageOf page (ns.take i)).length : Int) + 1 := by
      rw [Int.fmod_eq_emod_of_nonneg _ (by omega)]; exact Int.emod_lt_of_pos _ (by omega)
    have es : pageOf page (ns.take (i + 1)) = putIn (pageOf page (ns.take i)) n := by
      rw [take_snoc hi]; unfold pageOf; rw [List.foldl_append]; rfl
    refine pt _ _ E₂ mo R D P rs ws ps1 (pageOf page (ns.take i)) kr kd k1 oP oK oS oU oW n t mk1 own X T hp1 hps1 hb0 (by omega) hb1 hoP hd1 e0 e1 e2 e3 e4 e5 n0 n1 n2 n3 n4 n5 n6 hoff (fr_congr F1 fun y => ?_) N1 ?_
    · dsimp only [lawMap3, lawMap3']
      by_cases e1 : y = Str.ofString "x"
      · rw [if_pos e1, if_pos e1]
      · simp only [if_neg e1]
    · intro h' tk' mk' ps' k' hp' F' N'
      refine InvEndN.intro F' N' ⟨by simp, ⟨some (.int n t), mk', ?_⟩, ps', k', ?_, rfl⟩ rfl (fun p hp => List.mem_append_left _ hp) (fun p hp => List.mem_append_right _ hp)
      · funext y; rfl
      · rw [es]; exact hp'
  case done =>
    rintro m₁ news₁ h tk _ ⟨⟨mx1, mk1, rfl⟩, ps1, k1, hp1, rfl⟩ F1 N1
    rw [List.take_length] at hp1
    exact hc h tk mx1 mk1 ps1 k1 hp1 F1 N1
end Mine
end
section -- Seg5s
open PySem PySem.W PyProof.Rows PySem.Calls
set_option maxRecDepth 100000
set_option maxHeartbeats 4000000
namespace Mine
local macro_rules | `(tactic| walk_at "callWith") => `(tactic| ((with_reducible show wpAny _ _ (callWith _ (Value.builtin _) (_ :: _) _ _) _ _ _); refine callWith_method1 ?_))
local macro_rules | `(tactic| walk_at "eval ListComp") => `(tactic| (k_here; k_dflt (refine LCt.ListComp_T (F₀ := by k_asm) (by with_unfolding_all rfl) (by decide) (by rfl) (by decide) (by rfl) ?_)))
local macro_rules | `(tactic| walk_at "CompSrcT") => `(tactic| fail)
abbrev lawMap4' (R D M : Addr) (mx mk : Option Value) (mo : Str → Option Value) : Str → Option Value := fun y =>
  if y = Str.ofString "members" then some (.ref M) else lawMap3' R D mx mk mo y
theorem seg5 (w : World) (mg mb : Str → Option Value) (mean : ExcName → Option Value) (h₀ : Heap) (L a : Addr) (cd : Value) (s : Shared) (Q : Flow → Shared → Prop) (E₂ : Value → Shared → Prop) (mo : Str → Option Value) (R D P M : Addr) (ms : Array Value) (rs ws ps : List Value) (page : List Int) (j kr kd kp km : Nat) (oP oK oS oU oW : Obj) (vS : Option Value) (mx mk : Option Value) (rest : List Stmt)
    (hj : j < 15) (X : (hd.heap_39 w.params).In h₀) (T : TopM mean mg mb h₀) (hI : IntsAre ps page) (hpl : page.length ≤ 200) (hpage : ∀ x ∈ page, 0 ≤ x ∧ x < 256)
    (hoP : oP.data = .cell (some (.ref P))) (hoK : oK.data = .cell (some (.ref (kAddr j)))) (hoS : oS.data = .cell vS) (hd1 : @LT.lt Nat _ (L + 1 + 1 + 1 + 1 + 1) D) (e0 : @Ne Nat R D) (e1 : @Ne Nat R (L + 1 + 1 + 1 + 1 + 1)) (e2 : @Ne Nat R (L + 1 + 1 + 1 + 1)) (e3 : @Ne Nat R (L + 1 + 1 + 1)) (e4 : @Ne Nat R (L + 1 + 1)) (e5 : @Ne Nat R (L + 1))
    (n0 : @Ne Nat P R) (n1 : @Ne Nat P D) (n2 : @Ne Nat P (L + 1 + 1 + 1 + 1 + 1)) (n3 : @Ne Nat P (L + 1 + 1 + 1 + 1)) (n4 : @Ne Nat P (L + 1 + 1 + 1)) (n5 : @Ne Nat P (L + 1 + 1)) (n6 : @Ne Nat P (L + 1))
    (m0 : @Ne Nat M P) (m1 : @Ne Nat M R) (m2 : @Ne Nat M D) (m3 : @Ne Nat M (L + 1 + 1 + 1 + 1 + 1)) (m4 : @Ne Nat M (L + 1 + 1 + 1 + 1)) (m5 : @Ne Nat M (L + 1 + 1 + 1)) (m6 : @Ne Nat M (L + 1 + 1)) (m7 : @Ne Nat M (L + 1))
    (F : Fr h₀ L s.heap (lawMap4' R D M mx mk mo)) (N : News h₀ L s.heap [(M, listOf ms km), (P, listOf ps.toArray kp), (R, listOf rs.toArray kr), (D, listOf ws.toArray kd), (L + 1 + 1 + 1 + 1 + 1, oW), (L + 1 + 1 + 1 + 1, oU), (L + 1 + 1 + 1, oS), (L + 1 + 1, oK), (L + 1, oP)])
    (hc : ∀ h' tk A ys k oS', oS'.data = .cell (some (.ref A)) → IntsAre ys (page.filter (kindB j)) → Fr h₀ L h' (lawMap4' R D M mx mk mo) → News h₀ L h' [(A, listOf ys.toArray k), (M, listOf ms km), (P, listOf ps.toArray kp), (R, listOf rs.toArray kr), (D, listOf ws.toArray kd), (L + 1 + 1 + 1 + 1 + 1, oW), (L + 1 + 1 + 1 + 1, oU), (L + 1 + 1 + 1, oS'), (L + 1 + 1, oK), (L + 1, oP)] →
      @Ne Nat A M → @Ne Nat A P → @Ne Nat A R → @Ne Nat A D → @Ne Nat A (L + 1 + 1 + 1 + 1 + 1) → @Ne Nat A (L + 1 + 1 + 1 + 1) → @Ne Nat A (L + 1 + 1 + 1) → @Ne Nat A (L + 1 + 1) → @Ne Nat A (L + 1) →
      wpAny (model PySem.Challenge.rw_kq0072_01.row.prog w) (lawA L a cd) (execs rest (lawEnv L a cd)) Q (LE w L a cd E₂) { s with heap := h', toks := tk }) :
    wpAny (model PySem.Challenge.rw_kq0072_01.row.prog w) (lawA L a cd) (execs (stmtAt lawBody 5 :: rest) (lawEnv L a cd)) Q (LE w L a cd E₂) s := by
  have pt := @pass_turns w mg mb mean h₀ L a cd
  dsimp only [LE, lawA, lawEnv, lawBody, lawScope, lawDef, stmtAt, defBody, defScope, PySem.Challenge.pw_kq0072_01, lawMap4', lawMap3', asgVal, compTest, compElt, compIfs, compScope, passCl, PRG] at F pt hc ⊢
  revert X
  k_fill
  intro X
  k_steps
  refine LCt.CompSrcT.ledger rfl F N (List.mem_cons_of_mem _ (List.mem_cons_self ..)) (by rw [List.size_toArray, intsAre_len hI, sizeLine_eq]; omega) ?_
  intro g'
  refine pt _ _ ps page _ _ oK M P R D _ _ _ _ _ _ _ _ j hj X T hoK ?hS hI hpage ?fin _ 0 [] (Nat.zero_add _) .nil
  case hS => exact .inr ⟨_, List.mem_cons_of_mem _ (List.mem_cons_self ..), rfl, _, rfl⟩
  case fin =>
    intro ys hys
    unfold LCg.FinE
    intro A h2 tk2 F2 N2 o1
    simp only [LCg.Off1, and_true] at o1
    obtain ⟨a0, a1, a2, a3, a4, a5, a6, a7, a8⟩ := o1
    clear F N
    revert X
    k_fill
    intro X
    k_steps
    rename Fr _ _ _ _ => hF
    rename News _ _ _ _ => hN
    refine' hc _ _ A ys _ _ ?as hys hF hN (Ne.symm a0) (Ne.symm a1) (Ne.symm a2) (Ne.symm a3) (Ne.symm a4) (Ne.symm a5) (Ne.symm a6) (Ne.symm a7) (Ne.symm a8)
    case as => assumption
end Mine
end
section -- Seg6
open PySem PySem.W PyProof.Rows PySem.Calls
set_option maxRecDepth 100000
set_option maxHeartbeats 4000000
namespace Mine
local macro_rules | `(tactic| walk_at "callWith") => `(tactic| ((with_reducible show wpAny _ _ (callWith _ (Value.builtin _) (_ :: _) _ _) _ _ _); refine callWith_method1 ?_))
theorem seg6 (w : World) (mg mb : Str → Option Value) (mean : ExcName → Option Value) (h₀ : Heap) (L a : Addr) (cd : Value) (s : Shared) (Q : Flow → Shared → Prop) (E₂ : Value → Shared → Prop) (mo : Str → Option Value) (R D P M A : Addr) (oA oM oPl oR oD oP oK oS oU oW : Obj) (vU : Option Value) (mx mk : Option Value) (rest : List Stmt)
    (X : (hd.heap_39 w.params).In h₀) (T : TopM mean mg mb h₀) (hoU : oU.data = .cell vU)
    (n3 : @Ne Nat P (L + 1 + 1 + 1 + 1)) (m4 : @Ne Nat M (L + 1 + 1 + 1 + 1)) (e2 : @Ne Nat R (L + 1 + 1 + 1 + 1)) (d2 : @Ne Nat D (L + 1 + 1 + 1 + 1)) (a2 : @Ne Nat A (L + 1 + 1 + 1 + 1))
    (F : Fr h₀ L s.heap (lawMap4' R D M mx mk mo)) (N : News h₀ L s.heap [(A, oA), (M, oM), (P, oPl), (R, oR), (D, oD), (L + 1 + 1 + 1 + 1 + 1, oW), (L + 1 + 1 + 1 + 1, oU), (L + 1 + 1 + 1, oS), (L + 1 + 1, oK), (L + 1, oP)])
    (hc : ∀ h' tk U oU', oU'.data = .cell (some (.ref U)) → Fr h₀ L h' (lawMap4' R D M mx mk mo) → News h₀ L h' [(U, listOf #[] 0), (A, oA), (M, oM), (P, oPl), (R, oR), (D, oD), (L + 1 + 1 + 1 + 1 + 1, oW), (L + 1 + 1 + 1 + 1, oU'), (L + 1 + 1 + 1, oS), (L + 1 + 1, oK), (L + 1, oP)] →
      @LT.lt Nat _ A U → @LT.lt Nat _ M U → @LT.lt Nat _ P U → @LT.lt Nat _ R U → @LT.lt Nat _ D U → @LT.lt Nat _ (L + 1 + 1 + 1 + 1 + 1) U →
      wpAny (model PySem.Challenge.rw_kq0072_01.row.prog w) (lawA L a cd) (execs rest (lawEnv L a cd)) Q (LE w L a cd E₂) { s with heap := h', toks := tk }) :
    wpAny (model PySem.Challenge.rw_kq0072_01.row.prog w) (lawA L a cd) (execs (stmtAt lawBody 6 :: rest) (lawEnv L a cd)) Q (LE w L a cd E₂) s := by
  dsimp only [LE, lawA, lawEnv, lawBody, lawScope, lawDef, stmtAt, defBody, defScope, PySem.Challenge.pw_kq0072_01, lawMap4', lawMap3'] at F hc ⊢
  revert X
  k_fill
  intro X
  k_steps
  rename Fr _ _ _ _ => hF
  rename News _ _ _ _ => hN
  rename (_ ∧ _ ∧ _) => hlt
  obtain ⟨b0, b1, b2, b3, b4, b5, _⟩ := hlt
  refine' hc _ _ _ _ ?as hF hN b0 b1 b2 b3 b4 b5
  case as => assumption
end Mine
end
section -- KindM
open PySem PySem.W PyProof.Rows
set_option maxRecDepth 100000
set_option maxHeartbeats 4000000
namespace Mine
local macro_rules | `(tactic| walk_at "no such node 0") => `(tactic| fail)
local macro_rules | `(tactic| walk_at "callWith") => `(tactic| ((with_reducible show wpAny _ _ (callWith _ (Value.builtin _) (_ :: _) _ _) _ _ _); refine callWith_method1 ?_))
def means_nothingB (c : Int) : Bool := decide (¬ (33 ≤ c ∧ c ≤ 117) ∧ c ≠ 122)
theorem call_means_nothing (w : World) (mg mb : Str → Option Value) (mean : ExcName → Option Value) (h₀ : Heap) (L a : Addr) (cd : Value) (m : Str → Option Value) (s : Shared) (Q E : Value → Shared → Prop) (c : Int) (t : Tok)
    (F : Fr h₀ L s.heap m) (X : (hd.heap_39 w.params).In h₀) (T : TopM mean mg mb h₀) (h0 : 0 ≤ c) (h1 : c < 256)
    (hret : ∀ h' tk, Fr h₀ L h' m → (∀ x o, s.heap.get? x = some o → h'.get? x = some o) → Q (.bool (means_nothingB c)) { s with heap := h', toks := tk }) :
    wpAny (model PySem.Challenge.rw_kq0072_01.row.prog w) (lawA L a cd) (call (.ref 189) [.int c t] []) Q E s := by
  have N : News h₀ L s.heap [] := News.nil
  have B := below_caller h₀
  revert X
  k_fill
  intro X
  refine wpAny_call ?_
  k_dflt (refine' code_defG ?k1 ?k2 ?k3 ?k4 ?k5 ?kA ?kF ?kK ?k6 ?k7 ?k8 ?k9 ?kB ?_ ?c2 ?c3 ?c4 ?c5; (case kA => exact rfl); (case kF => exact rfl); (case kK => exact rfl); (case k1 => k_asm); (case k2 => k_asm); (case k3 => k_asm); (case k4 => k_asm); (case k5 => k_asm); (case k6 => k_is); (case k7 => k_is); (case k8 => first | k_room | ktr_room); (case k9 => first | exact BindsTo.of_eq rfl | exact binds_K (by k_in) rfl (by k_is) rfl rfl rfl); (case c5 => decide); (case kB => exact locs rfl); (case c2 => exact rfl); (case c3 => exact rfl); (case c4 => exact rfl); k_whole; intro g' L' h' FG' F' N' B' X' T' GS'; (try dsimp only); (try k_lift B'); (try k_fold))
  k_steps
  all_goals (rename Fr g' L' _ _ => kF2)
  all_goals (refine fin_kind (hret _ _ (Fr.keeps F fun x o e => kF2.keep _ _ (GS' x o e (fun h => nomatch h))) (fun x o e => kF2.keep _ _ (GS' x o e (fun h => nomatch h)))) ?_)
  all_goals (unfold means_nothingB; refine Bool.eq_iff_iff.mpr ?_; simp only [Bool.or_eq_true, Bool.and_eq_true, decide_eq_true_eq, Bool.not_eq_true', Bool.or_eq_false_iff, Bool.and_eq_false_iff, decide_eq_false_iff_not, reduceCtorEq, iff_true, iff_false, Bool.false_eq_true, List.any_cons, List.any_nil, beq_iff_eq, Bool.or_false, bne_iff_ne, ne_eq, Bool.not_eq_true, decide_not, Bool.not_eq_eq_eq_not, Bool.not_true] <;> omega)
end Mine
end
section -- Seg7a
open PySem PySem.W PyProof.Rows PySem.Calls
set_option maxRecDepth 100000
set_option maxHeartbeats 4000000
namespace Mine
local macro_rules | `(tactic| walk_at "no such node 0") => `(tactic| fail)
local macro_rules | `(tactic| walk_at "callWith") => `(tactic| ((with_reducible show wpAny _ _ (callWith _ (Value.builtin _) (_ :: _) _ _) _ _ _); refine callWith_method1 ?_))
local macro_rules | `(tactic| walk_at "call ref") => `(tactic| (k_here; (with_reducible show wpAny _ _ (call (Value.ref 189) [Value.int _ _] _) _ _ _); k_dflt (refine' call_means_nothing _ _ _ _ _ _ _ _ _ _ _ _ _ _ ?k1 ?k2 ?k3 ?k4 ?k5 ?_; (case k1 => k_asm); (case k2 => k_asm); (case k3 => k_asm); (case k4 => assumption); (case k5 => assumption); k_whole); intro h' tk' F' keep'; (rename News _ _ _ _ => N0'); have N1' := News.grown N0' keep'))
def dueIn (mem due : List Int) (c : Int) : List Int := if (means_nothingB c && !(mem.any fun x => x == c) && !(due.any fun x => x == c)) = true then due ++ [c] else due
theorem due_turn (w : World) (mg mb : Str → Option Value) (mean : ExcName → Option Value) (h₀ : Heap) (L a : Addr) (cd : Value) (s : Shared) (Q : Flow → Shared → Prop) (E₂ : Value → Shared → Prop) (mo : Str → Option Value) (R D P M A U : Addr) (oA oPl oR oD oP oK oS oU oW : Obj) (us ms : List Value) (due mem : List Int) (ku km : Nat) (c : Int) (t : Tok) (mx mk : Option Value) (own : List (Addr × Obj))
    (X : (hd.heap_39 w.params).In h₀) (T : TopM mean mg mb h₀) (hoU : oU.data = .cell (some (.ref U))) (h0 : 0 ≤ c) (h1 : c < 256) (hIm : IntsAre ms mem) (hIu : IntsAre us due) (hml : ms.length ≤ 300) (hul : us.length ≤ 300)
    (b0 : @LT.lt Nat _ A U) (b1 : @LT.lt Nat _ M U) (b2 : @LT.lt Nat _ P U) (b3 : @LT.lt Nat _ R U) (b4 : @LT.lt Nat _ D U) (b5 : @LT.lt Nat _ (L + 1 + 1 + 1 + 1 + 1) U)
    (hoff : OwnOff own [U, A, M, P, R, D, L + 1 + 1 + 1 + 1 + 1, L + 1 + 1 + 1 + 1, L + 1 + 1 + 1, L + 1 + 1, L + 1])
    (F : Fr h₀ L s.heap (fun y => if y = Str.ofString "c" then some (.int c t) else lawMap4' R D M mx mk mo y)) (N : News h₀ L s.heap ([(U, listOf us.toArray ku), (A, oA), (M, listOf ms.toArray km), (P, oPl), (R, oR), (D, oD), (L + 1 + 1 + 1 + 1 + 1, oW), (L + 1 + 1 + 1 + 1, oU), (L + 1 + 1 + 1, oS), (L + 1 + 1, oK), (L + 1, oP)] ++ own))
    (hc : ∀ h' tk us' ku', IntsAre us' (dueIn mem due c) → Fr h₀ L h' (fun y => if y = Str.ofString "c" then some (.int c t) else lawMap4' R D M mx mk mo y) → News h₀ L h' ([(U, listOf us'.toArray ku'), (A, oA), (M, listOf ms.toArray km), (P, oPl), (R, oR), (D, oD), (L + 1 + 1 + 1 + 1 + 1, oW), (L + 1 + 1 + 1 + 1, oU), (L + 1 + 1 + 1, oS), (L + 1 + 1, oK), (L + 1, oP)] ++ own) → Q .next { s with heap := h', toks := tk }) :
    wpAny (model PySem.Challenge.rw_kq0072_01.row.prog w) (lawA L a cd) (execs (forBody (stmtAt lawBody 7)) (lawEnv L a cd)) Q (LE w L a cd E₂) s := by
  dsimp only [LE, lawA, lawEnv, lawBody, lawScope, lawDef, stmtAt, defBody, defScope, forBody, PySem.Challenge.pw_kq0072_01, lawMap4', lawMap3', List.cons_append, List.nil_append] at F N hc ⊢
  revert X
  k_fill
  intro X
  k_steps
  all_goals (rename Fr _ _ _ _ => hF; rename News _ _ _ _ => hN)
  all_goals first
    | (rw [List.push_toArray] at hN
       refine hc _ _ _ _ ?_ hF hN
       have q1 : means_nothingB c = true := by assumption
       have q2 : (mem.any fun x => x == c) = false := by assumption
       have q3 : (due.any fun x => x == c) = false := by assumption
       rw [dueIn, q1, q2, q3]
       exact ints_snoc hIu)
    | (refine hc _ _ _ _ ?_ hF hN
       have q1 : means_nothingB c = true := by assumption
       have q2 : (mem.any fun x => x == c) = true := by assumption
       rw [dueIn, q1, q2]
       exact hIu)
    | (refine hc _ _ _ _ ?_ hF hN
       have q1 : means_nothingB c = true := by assumption
       have q2 : (mem.any fun x => x == c) = false := by assumption
       have q3 : (due.any fun x => x == c) = true := by assumption
       rw [dueIn, q1, q2, q3]
       exact hIu)
    | (refine hc _ _ _ _ ?_ hF hN
       have q1 : means_nothingB c = false := by assumption
       rw [dueIn, q1]
       exact hIu)
end Mine
end
section -- Seg7
open PySem PySem.W PyProof.Rows PySem.Calls
set_option maxRecDepth 100000
set_option maxHeartbeats 4000000
namespace Mine
local macro_rules | `(tactic| walk_at "callWith") => `(tactic| ((with_reducible show wpAny _ _ (callWith _ (Value.builtin _) (_ :: _) _ _) _ _ _); refine callWith_method1 ?_))
local macro_rules | `(tactic| walk_at "exec For Name Name") => `(tactic| (k_here; (rename Fr _ _ _ _ => lF'); (with_unfolding_all refine' For_invVF lF' ?k1 ?k2 ?_; (case k1 => exact rfl); (case k2 => exact rfl); k_whole)))
local macro_rules | `(tactic| walk_at "exec For Name Name cons nil") => `(tactic| (k_here; (rename Fr _ _ _ _ => lF'); (with_unfolding_all refine' For_invVF lF' ?k1 ?k2 ?_; (case k1 => exact rfl); (case k2 => exact rfl); k_whole)))
local macro_rules | `(tactic| walk_at "pyIter ref") => `(tactic| fail)
def dueOf (mem page : List Int) : List Int := page.foldl (dueIn mem) []
theorem dueIn_len (mem due : List Int) (c : Int) : (dueIn mem due c).length ≤ due.length + 1 := by
  unfold dueIn
  split
  · rw [List.length_append]; exact Nat.le_refl _
  · exact Nat.le_succ _
theorem dueOf_len (mem : List Int) (page : List Int) : ∀ d, (page.foldl (dueIn mem) d).length ≤ d.length + page.length := by
  induction page with
  | nil => intro d; exact Nat.le_refl _
  | cons x l ih =>
    intro d
    rw [List.foldl_cons, List.length_cons]
    have := ih (dueIn mem d x)
    have := dueIn_len mem d x
    omega
abbrev lawMap7 (R D M : Addr) (mc mx mk : Option Value) (mo : Str → Option Value) : Str → Option Value := fun y => if y = Str.ofString "c" then mc else lawMap4' R D M mx mk mo y
theorem seg7 (w : World) (mg mb : Str → Option Value) (mean : ExcName → Option Value) (h₀ : Heap) (L a : Addr) (cd : Value) (s : Shared) (Q : Flow → Shared → Prop) (E₂ : Value → Shared → Prop) (mo : Str → Option Value) (R D P M A U : Addr) (oA oR oD oP oK oS oU oW : Obj) (ps ms : List Value) (page mem : List Int) (kp km : Nat) (mc mx mk : Option Value) (rest : List Stmt)
    (X : (hd.heap_39 w.params).In h₀) (T : TopM mean mg mb h₀) (hoP : oP.data = .cell (some (.ref P))) (hoU : oU.data = .cell (some (.ref U))) (hIp : IntsAre ps page) (hIm : IntsAre ms mem) (hml : ms.length ≤ 300) (hpl : page.length ≤ 200) (hpage : ∀ x ∈ page, 0 ≤ x ∧ x < 256)
    (b0 : @LT.lt Nat _ A U) (b1 : @LT.lt Nat _ M U) (b2 : @LT.lt Nat _ P U) (b3 : @LT.lt Nat _ R U) (b4 : @LT.lt Nat _ D U) (b5 : @LT.lt Nat _ (L + 1 + 1 + 1 + 1 + 1) U)
    (F : Fr h₀ L s.heap (lawMap7 R D M mc mx mk mo)) (N : News h₀ L s.heap [(U, listOf ([] : List Value).toArray 0), (A, oA), (M, listOf ms.toArray km), (P, listOf ps.toArray kp), (R, oR), (D, oD), (L + 1 + 1 + 1 + 1 + 1, oW), (L + 1 + 1 + 1 + 1, oU), (L + 1 + 1 + 1, oS), (L + 1 + 1, oK), (L + 1, oP)])
    (hc : ∀ h' tk mc' us ku, IntsAre us (dueOf mem page) → Fr h₀ L h' (lawMap7 R D M mc' mx mk mo) → News h₀ L h' [(U, listOf us.toArray ku), (A, oA), (M, listOf ms.toArray km), (P, listOf ps.toArray kp), (R, oR), (D, oD), (L + 1 + 1 + 1 + 1 + 1, oW), (L + 1 + 1 + 1 + 1, oU), (L + 1 + 1 + 1, oS), (L + 1 + 1, oK), (L + 1, oP)] →
      wpAny (model PySem.Challenge.rw_kq0072_01.row.prog w) (lawA L a cd) (execs rest (lawEnv L a cd)) Q (LE w L a cd E₂) { s with heap := h', toks := tk }) :
    wpAny (model PySem.Challenge.rw_kq0072_01.row.prog w) (lawA L a cd) (execs (stmtAt lawBody 7 :: rest) (lawEnv L a cd)) Q (LE w L a cd E₂) s := by
  have pt := @due_turn w mg mb mean h₀ L a cd
  dsimp only [LE, lawA, lawEnv, lawBody, lawScope, lawDef, stmtAt, defBody, defScope, forBody, PySem.Challenge.pw_kq0072_01, lawMap7] at F hc pt ⊢
  revert X
  k_fill
  intro X
  k_steps
  rename Fr _ _ _ _ => F
  refine iter_invNL (m₀ := lawMap7 R D M mc mx mk mo) (news := [(U, listOf ([] : List Value).toArray 0), (A, oA), (M, listOf ms.toArray km), (P, listOf ps.toArray kp), (R, oR), (D, oD), (L + 1 + 1 + 1 + 1 + 1, oW), (L + 1 + 1 + 1 + 1, oU), (L + 1 + 1 + 1, oS), (L + 1 + 1, oK), (L + 1, oP)]) (vs := ps) (ns := page) (nn := kp)
    (fun i m nx => (∃ mc, m = lawMap7 R D M mc mx mk mo) ∧ ∃ us k, IntsAre us (dueOf mem (page.take i)) ∧ nx = [(U, listOf us.toArray k), (A, oA), (M, listOf ms.toArray km), (P, listOf ps.toArray kp), (R, oR), (D, oD), (L + 1 + 1 + 1 + 1 + 1, oW), (L + 1 + 1 + 1 + 1, oU), (L + 1 + 1 + 1, oS), (L + 1 + 1, oK), (L + 1, oP)])
    rfl (by simp) hIp F N ⟨⟨mc, rfl⟩, [], 0, .nil, rfl⟩ ?turn ?done
  case turn =>
    rintro i n t m₁ news₁ h tk own hi _ hoff _ ⟨⟨mc1, rfl⟩, us, k1, hu, rfl⟩ F1 N1
    have hcm := hpage n (List.mem_of_getElem? hi)
    have hul : us.length ≤ 300 := by
      rw [intsAre_len hu]
      have h1 := dueOf_len mem (page.take i) []
      have h2 : (page.take i).length ≤ page.length := by rw [List.length_take]; exact Nat.min_le_right _ _
      have h3 : (dueOf mem (page.take i)).length ≤ 0 + (page.take i).length := h1
      omega
    have es : dueOf mem (page.take (i + 1)) = dueIn mem (dueOf mem (page.take i)) n := by
      rw [take_snoc hi]; unfold dueOf; rw [List.foldl_append]; rfl
    refine pt _ _ E₂ mo R D P M A U oA _ oR oD oP oK oS oU oW us ms (dueOf mem (page.take i)) mem k1 km n t mx mk own X T hoU hcm.1 hcm.2 hIm hu hml hul b0 b1 b2 b3 b4 b5 hoff (fr_congr F1 fun y => ?_) N1 ?_
    · dsimp only [lawMap7]
      by_cases e1 : y = Str.ofString "c"
      · rw [if_pos e1, if_pos e1]
      · simp only [if_neg e1]
    · intro h' tk' us' ku' hu' F' N'
      refine InvEndN.intro F' N' ⟨by simp, ⟨some (.int n t), ?_⟩, us', ku', ?_, rfl⟩ rfl (fun p hp => List.mem_append_left _ hp) (fun p hp => List.mem_append_right _ hp)
      · funext y; rfl
      · rw [es]; exact hu'
  case done =>
    rintro m₁ news₁ h tk _ ⟨⟨mc1, rfl⟩, us, k1, hu, rfl⟩ F1 N1
    rw [List.take_length] at hu
    exact hc h tk mc1 us k1 hu F1 N1
end Mine
end
section -- Seg8
open PySem PySem.W PyProof.Rows PySem.Calls
set_option maxRecDepth 100000
set_option maxHeartbeats 4000000
namespace Mine
local macro_rules | `(tactic| walk_at "callWith") => `(tactic| ((with_reducible show wpAny _ _ (callWith _ (Value.builtin _) (_ :: _) _ _) _ _ _); refine callWith_method1 ?_))
theorem seg8 (w : World) (mg mb : Str → Option Value) (mean : ExcName → Option Value) (h₀ : Heap) (L a : Addr) (cd : Value) (s : Shared) (Q : Flow → Shared → Prop) (E₂ : Value → Shared → Prop) (mo : Str → Option Value) (R D P M A U : Addr) (oA oM oPl oR oD oUl oP oK oS oU oW : Obj) (vW : Option Value) (mc mx mk : Option Value) (rest : List Stmt)
    (X : (hd.heap_39 w.params).In h₀) (T : TopM mean mg mb h₀) (hoW : oW.data = .cell vW)
    (n2 : @Ne Nat P (L + 1 + 1 + 1 + 1 + 1)) (m3 : @Ne Nat M (L + 1 + 1 + 1 + 1 + 1)) (e1 : @Ne Nat R (L + 1 + 1 + 1 + 1 + 1)) (d1 : @Ne Nat D (L + 1 + 1 + 1 + 1 + 1)) (a1 : @Ne Nat A (L + 1 + 1 + 1 + 1 + 1)) (u1 : @Ne Nat U (L + 1 + 1 + 1 + 1 + 1))
    (F : Fr h₀ L s.heap (lawMap7 R D M mc mx mk mo)) (N : News h₀ L s.heap [(U, oUl), (A, oA), (M, oM), (P, oPl), (R, oR), (D, oD), (L + 1 + 1 + 1 + 1 + 1, oW), (L + 1 + 1 + 1 + 1, oU), (L + 1 + 1 + 1, oS), (L + 1 + 1, oK), (L + 1, oP)])
    (hc : ∀ h' tk oW' tw, oW'.data = .cell (some (.str wordsS tw)) → Fr h₀ L h' (lawMap7 R D M mc mx mk mo) → News h₀ L h' [(U, oUl), (A, oA), (M, oM), (P, oPl), (R, oR), (D, oD), (L + 1 + 1 + 1 + 1 + 1, oW'), (L + 1 + 1 + 1 + 1, oU), (L + 1 + 1 + 1, oS), (L + 1 + 1, oK), (L + 1, oP)] →
      wpAny (model PySem.Challenge.rw_kq0072_01.row.prog w) (lawA L a cd) (execs rest (lawEnv L a cd)) Q (LE w L a cd E₂) { s with heap := h', toks := tk }) :
    wpAny (model PySem.Challenge.rw_kq0072_01.row.prog w) (lawA L a cd) (execs (stmtAt lawBody 8 :: rest) (lawEnv L a cd)) Q (LE w L a cd E₂) s := by
  dsimp only [LE, lawA, lawEnv, lawBody, lawScope, lawDef, stmtAt, defBody, defScope, PySem.Challenge.pw_kq0072_01, lawMap7, lawMap4', lawMap3'] at F hc ⊢
  revert X
  k_fill
  intro X
  k_steps
  rename Fr _ _ _ _ => hF
  rename News _ _ _ _ => hN
  refine' hc _ _ _ _ ?as hF hN
  case as => assumption
end Mine
end
section -- Seg4
open PySem PySem.W PyProof.Rows PySem.Calls
set_option maxRecDepth 100000
set_option maxHeartbeats 4000000
namespace Mine
local macro_rules | `(tactic| walk_at "callWith") => `(tactic| ((with_reducible show wpAny _ _ (callWith _ (Value.builtin _) (_ :: _) _ _) _ _ _); refine callWith_method1 ?_))
theorem news_cons {h₀ h : Heap} {L a : Addr} {o : Obj} {l : List (Addr × Obj)} (x : h.get? (a, o).1 = some (a, o).2 ∧ (a, o).1 ≠ L ∧ h₀.get? (a, o).1 = none) (N : News h₀ L h l) : News h₀ L h ((a, o) :: l) := fun p hp => by
  rcases List.mem_cons.mp hp with rfl | hp
  · exact x
  · exact N p hp
theorem news_more {h₀ h h' : Heap} {L P : Addr} {m : Str → Option Value} {o : Obj} {news : List (Addr × Obj)} (N : News h₀ L h' news) (F : Fr h₀ L h m) (hn : h.get? P = none) (hP : h'.get? P = some o) : News h₀ L h' ((P, o) :: news) := fun p hp => by
  rcases List.mem_cons.mp hp with rfl | hp
  · refine ⟨hP, fun e => ?_, ?_⟩
    · obtain ⟨oL, _, _, hL, _⟩ := F.ns
      dsimp only at e
      rw [e, hL] at hn; cases hn
    · cases q : h₀.get? P with
      | none => rfl
      | some o' => rw [F.keep _ _ q] at hn; cases hn
  · exact N p hp
theorem news_more2 {h₀ h h' : Heap} {L P : Addr} {m : Str → Option Value} {o : Obj} {news : List (Addr × Obj)} (N : News h₀ L h' news) (F : Fr h₀ L h m) (hn : h.get? P = none) (hP : h'.get? P = some o) : News h₀ L h' ((P, o) :: news) := news_more N F hn hP
structure HoldOnS (p : Prop) : Prop where
  go : p
local macro_rules | `(tactic| walk_at "subscriptTail") => `(tactic| (k_here; refine HoldOnS.go ?_))
abbrev lawMap4 (R D M : Addr) (mx mk : Option Value) (mo : Str → Option Value) : Str → Option Value := fun y =>
  if y = Str.ofString "members" then some (.ref M) else lawMap3' R D mx mk mo y
theorem seg4 (w : World) (mg mb : Str → Option Value) (mean : ExcName → Option Value) (h₀ : Heap) (L a : Addr) (cd : Value) (s : Shared) (Q : Flow → Shared → Prop) (E₂ : Value → Shared → Prop) (mo : Str → Option Value) (R D P : Addr) (rs ws ps : List Value) (ns : List Int) (kr kd kp : Nat) (oP oK oS oU oW : Obj) (vK : Option Value) (mx mk : Option Value) (rest : List Stmt)
    (X : (hd.heap_39 w.params).In h₀) (T : TopM mean mg mb h₀) (hIn : IntsAre ws ns) (hns : ns.length ≤ 30)
    (hoP : oP.data = .cell (some (.ref P))) (hoK : oK.data = .cell vK) (hd1 : @LT.lt Nat _ (L + 1 + 1 + 1 + 1 + 1) D) (e0 : @Ne Nat R D) (e1 : @Ne Nat R (L + 1 + 1 + 1 + 1 + 1)) (e2 : @Ne Nat R (L + 1 + 1 + 1 + 1)) (e3 : @Ne Nat R (L + 1 + 1 + 1)) (e4 : @Ne Nat R (L + 1 + 1)) (e5 : @Ne Nat R (L + 1))
    (n0 : @Ne Nat P R) (n1 : @Ne Nat P D) (n2 : @Ne Nat P (L + 1 + 1 + 1 + 1 + 1)) (n3 : @Ne Nat P (L + 1 + 1 + 1 + 1)) (n4 : @Ne Nat P (L + 1 + 1 + 1)) (n5 : @Ne Nat P (L + 1 + 1)) (n6 : @Ne Nat P (L + 1))
    (F : Fr h₀ L s.heap (lawMap3' R D mx mk mo)) (N : News h₀ L s.heap [(P, listOf ps.toArray kp), (R, listOf rs.toArray kr), (D, listOf ws.toArray kd), (L + 1 + 1 + 1 + 1 + 1, oW), (L + 1 + 1 + 1 + 1, oU), (L + 1 + 1 + 1, oS), (L + 1 + 1, oK), (L + 1, oP)])
    (hc : ∀ h' tk j M ms km oK', j < 15 → oK'.data = .cell (some (.ref (kAddr j))) → IntsAre ms.toList (kMem j) → Fr h₀ L h' (lawMap4 R D M mx mk mo) → News h₀ L h' ((M, listOf ms km) :: [(P, listOf ps.toArray kp), (R, listOf rs.toArray kr), (D, listOf ws.toArray kd), (L + 1 + 1 + 1 + 1 + 1, oW), (L + 1 + 1 + 1 + 1, oU), (L + 1 + 1 + 1, oS), (L + 1 + 1, oK'), (L + 1, oP)]) →
      @Ne Nat M P → @Ne Nat M R → @Ne Nat M D → @Ne Nat M (L + 1 + 1 + 1 + 1 + 1) → @Ne Nat M (L + 1 + 1 + 1 + 1) → @Ne Nat M (L + 1 + 1 + 1) → @Ne Nat M (L + 1 + 1) → @Ne Nat M (L + 1) →
      wpAny (model PySem.Challenge.rw_kq0072_01.row.prog w) (lawA L a cd) (execs rest (lawEnv L a cd)) Q (LE w L a cd E₂) { s with heap := h', toks := tk }) :
    wpAny (model PySem.Challenge.rw_kq0072_01.row.prog w) (lawA L a cd) (execs (stmtAt lawBody 4 :: rest) (lawEnv L a cd)) Q (LE w L a cd E₂) s := by
  dsimp only [LE, lawA, lawEnv, lawBody, lawScope, lawDef, stmtAt, defBody, defScope, PySem.Challenge.pw_kq0072_01, lawMap3', lawMap4] at F hc ⊢
  have Nk := And.intro N True.intro
  have Fk := And.intro F True.intro
  revert X
  k_fill
  intro X
  k_steps
  refine law_kinds w mg mb mean h₀ L a cd _ _ _ _ F X T ?_
  intro h' tk K kk vs F' keep hK hK2 hlen rows
  have N2 := news_new N F keep hK hK2
  have hj0 : 0 ≤ Int.fmod ns.sum 15 ∧ Int.fmod ns.sum 15 < 15 := by
    rw [Int.fmod_eq_emod_of_nonneg _ (by decide)]
    exact ⟨Int.emod_nonneg _ (by decide), Int.emod_lt_of_pos _ (by decide)⟩
  have hj1 : (Int.fmod ns.sum 15).toNat < 15 := by omega
  obtain ⟨T1, M, hx, r⟩ := rows _ hj1
  obtain ⟨ms, km, hM, hms⟩ := r.lis
  have N3 := news_more N2 F r.mnew hM
  have N4 := news_more N3 F r.tnew r.tup
  clear F N N2 N3 rows
  k_steps
  refine HoldOnS.mk ?_
  rename News _ _ _ _ => hN2
  have hKl := News.isList hN2 (by k_mem : (K, listOf vs.toArray kk) ∈ _)
  refine tail_any hKl.typeIs PySem.F.slot_list_getitem.lookup (wpAny_getItem_list hKl hj0.1 (by omega) (by rw [List.getElem?_toArray]; exact hx) ?_) (by with_unfolding_all rfl)
  generalize Int.fmod ns.sum 15 = i at *
  have q0 : @Ne Nat K (L + 1 + 1) := ne_new hK (Nk.1 _ (by k_mem : ((L + 1 + 1), _) ∈ _)).1
  have q1 : @Ne Nat T1 (L + 1 + 1) := ne_new r.tnew (Nk.1 _ (by k_mem : ((L + 1 + 1), _) ∈ _)).1
  have q2 : @Ne Nat M (L + 1 + 1) := ne_new r.mnew (Nk.1 _ (by k_mem : ((L + 1 + 1), _) ∈ _)).1
  k_steps
  rename Fr _ _ _ _ => hF
  rename News _ _ _ _ => hN
  refine' hc _ _ i.toNat M _ _ _ (by omega) ?zas hms hF ?znn (ne_new r.mnew (Nk.1 _ (by k_mem : (P, _) ∈ _)).1) (ne_new r.mnew (Nk.1 _ (by k_mem : (R, _) ∈ _)).1) (ne_new r.mnew (Nk.1 _ (by k_mem : (D, _) ∈ _)).1) (ne_new r.mnew (Nk.1 _ (by k_mem : ((L + 1 + 1 + 1 + 1 + 1), _) ∈ _)).1) (ne_new r.mnew (Nk.1 _ (by k_mem : ((L + 1 + 1 + 1 + 1), _) ∈ _)).1) (ne_new r.mnew (Nk.1 _ (by k_mem : ((L + 1 + 1 + 1), _) ∈ _)).1) (ne_new r.mnew (Nk.1 _ (by k_mem : ((L + 1 + 1), _) ∈ _)).1) (ne_new r.mnew (Nk.1 _ (by k_mem : ((L + 1), _) ∈ _)).1)
  case znn => exact (news_cons (hN _ (by k_mem : (M, _) ∈ _)) (news_cons (hN _ (by k_mem : (P, _) ∈ _)) (news_cons (hN _ (by k_mem : (R, _) ∈ _)) (news_cons (hN _ (by k_mem : (D, _) ∈ _)) (news_cons (hN _ (by k_mem : ((L + 1 + 1 + 1 + 1 + 1), _) ∈ _)) (news_cons (hN _ (by k_mem : ((L + 1 + 1 + 1 + 1), _) ∈ _)) (news_cons (hN _ (by k_mem : ((L + 1 + 1 + 1), _) ∈ _)) (news_cons (hN _ (by k_mem : ((L + 1 + 1), _) ∈ _)) (news_cons (hN _ (by k_mem : ((L + 1), _) ∈ _)) News.nil)))))))))
  case zas => assumption
end Mine
end
section -- Seg9a
open PySem PySem.W PyProof.Rows PySem.Calls
set_option maxRecDepth 100000
set_option maxHeartbeats 4000000
namespace Mine
local macro_rules | `(tactic| walk_at "callWith") => `(tactic| ((with_reducible show wpAny _ _ (callWith _ (Value.builtin _) (_ :: _) _ _) _ _ _); refine callWith_method1 ?_))
theorem news_keepBut {h₀ h h' : Heap} {L : Addr} {news : List (Addr × Obj)} (N : News h₀ L h news) (k : KeepBut L h h') : News h₀ L h' news := fun p hp => ⟨k _ _ (N p hp).2.1 (N p hp).1, (N p hp).2⟩
local macro_rules | `(tactic| walk_at "call type:bytes") => `(tactic| (k_here; (with_reducible show wpAny _ _ (call (Value.type "bytes") [Value.ref _]) _ _ _); k_dflt (refine' KBa.make_K ?F ?N ?h ?l ?i ?r ?n ?_; (case F => k_asm); (case N => k_asm); (case h => rfl); (case l => exact News.isList (by k_asm) (by k_mem)); (case i => assumption); (case r => assumption); (case n => (try simp only [List.length_append]); omega); k_whole); intro h' t' k' F' N' i'))
local macro_rules | `(tactic| walk_at "call ref") => `(tactic| (k_here; (with_reducible show wpAny _ _ (call (Value.ref 196) [Value.bytes _ _, Value.bytes _ _] _) _ _ _); k_dflt (refine' tell_bytes _ _ _ _ _ _ _ _ _ _ _ _ _ _ _ _ _ _ ?F ?X ?T ?g1 ?g2 ?k1 ?k2 ?gd ?_; (case F => k_asm); (case X => k_asm); (case T => k_asm); (case g1 => (refine KBa.ints_make ?_; assumption)); (case g2 => (try simp only [List.length_append, List.length_take]); omega); (case k1 => (refine KBa.ints_make ?_; assumption)); (case k2 => omega); (case gd => assumption); k_whole); intro h' tk' v' F' keep' out'; (rename News _ _ _ _ => N0'); have N1' := news_keepBut N0' keep'))
local macro_rules | `(tactic| walk_at "last call ref") => `(tactic| (k_here; (with_reducible show wpAny _ _ (call (Value.ref 196) [Value.bytes _ _, Value.bytes _ _] _) _ _ _); k_dflt (refine' tell_bytes _ _ _ _ _ _ _ _ _ _ _ _ _ _ _ _ _ _ ?F ?X ?T ?g1 ?g2 ?k1 ?k2 ?gd ?_; (case F => k_asm); (case X => k_asm); (case T => k_asm); (case g1 => (refine KBa.ints_make ?_; assumption)); (case g2 => (try simp only [List.length_append, List.length_take]); omega); (case k1 => (refine KBa.ints_make ?_; assumption)); (case k2 => omega); (case gd => assumption); k_whole); intro h' tk' v' F' keep' out'; (rename News _ _ _ _ => N0'); have N1' := news_keepBut N0' keep'))
abbrev taleCl (L : Addr) : List (Str × Addr) := [(Str.ofString "passed", L + 1 + 1 + 1), (Str.ofString "page", L + 1), (Str.ofString "due", L + 1 + 1 + 1 + 1)]
theorem tale_turn (w : World) (mg mb : Str → Option Value) (mean : ExcName → Option Value) (h₀ : Heap) (L a : Addr) (cd : Value) (m : Str → Option Value) (s : Shared) (ys : List Value) (S : List (Addr × Obj) → Prop) (Fin : List Value → List (Addr × Obj) → Prop) (R D P M A U : Addr) (oM oR oD oP oK oS oU oW : Obj) (ps as us : List Value) (page pas due : List Int) (kp ka ku k i n : Nat)
    (X : (hd.heap_39 w.params).In h₀) (T : TopM mean mg mb h₀) (hoP : oP.data = .cell (some (.ref P))) (hoS : oS.data = .cell (some (.ref A))) (hoU : oU.data = .cell (some (.ref U)))
    (hIp : IntsAre ps page) (hIa : IntsAre as pas) (hIu : IntsAre us due) (hpage : KBa.In page) (hpas : KBa.In pas) (hdue : KBa.In due) (hpl : page.length ≤ 200) (hal : pas.length ≤ 200) (hul : due.length ≤ 200) (hta : KBa.In (pas ++ List.take (0 + (i : Int)).toNat due)) (hgood : DGood (page ++ [117, 117, 117, 117])) (hS : S [(U, listOf us.toArray ku), (A, listOf as.toArray ka), (M, oM), (P, listOf ps.toArray kp), (R, oR), (D, oD), (L + 1 + 1 + 1 + 1 + 1, oW), (L + 1 + 1 + 1 + 1, oU), (L + 1 + 1 + 1, oS), (L + 1 + 1, oK), (L + 1, oP)])
    (ih : ∀ v, ToldOut page (pas ++ List.take (0 + (i : Int)).toNat due) v → LCg.CompRest PRG w (lawA L a cd) h₀ L m (lawEnv L a cd) (compElt (asgVal (stmtAt lawBody 9))) (Str.ofString "k") (compScope (asgVal (stmtAt lawBody 9))) (taleCl L) s S (fun i v => ∃ t, v = .int (0 + (i : Int)) t) Fin k (i + 1) (ys ++ [v]) [(U, listOf us.toArray ku), (A, listOf as.toArray ka), (M, oM), (P, listOf ps.toArray kp), (R, oR), (D, oD), (L + 1 + 1 + 1 + 1 + 1, oW), (L + 1 + 1 + 1 + 1, oU), (L + 1 + 1 + 1, oS), (L + 1 + 1, oK), (L + 1, oP)]) :
    LCg.CompRest PRG w (lawA L a cd) h₀ L m (lawEnv L a cd) (compElt (asgVal (stmtAt lawBody 9))) (Str.ofString "k") (compScope (asgVal (stmtAt lawBody 9))) (taleCl L) s S (fun i v => ∃ t, v = .int (0 + (i : Int)) t) Fin (k + 1) i ys [(U, listOf us.toArray ku), (A, listOf as.toArray ka), (M, oM), (P, listOf ps.toArray kp), (R, oR), (D, oD), (L + 1 + 1 + 1 + 1 + 1, oW), (L + 1 + 1 + 1 + 1, oU), (L + 1 + 1 + 1, oS), (L + 1 + 1, oK), (L + 1, oP)] := by
  refine LCg.CompRest.succ ?_
  intro v I' oI' C' oC' D' m' h' tk' E' hv' hC' hx' F' N' off' ne'
  obtain ⟨t, rfl⟩ := hv'
  dsimp only [lawEnv, lawBody, lawScope, lawDef, stmtAt, defBody, defScope, asgVal, compTest, compElt, compIfs, compScope, PySem.Challenge.pw_kq0072_01, PRG, lawA] at ih ⊢
  revert X
  k_fill
  intro X
  k_steps
  rename ToldOut _ _ _ => ho
  rename Fr _ _ _ _ => hF
  rename News _ _ _ _ => hN
  exact LCg.CompEnd.intro hF (news_cons (hN _ (by k_mem : (I', _) ∈ _)) (news_cons (hN _ (by k_mem : (C', _) ∈ _)) (news_cons (hN _ (by k_mem : (D', _) ∈ _)) (news_cons (hN _ (by k_mem : (U, _) ∈ _)) (news_cons (hN _ (by k_mem : (A, _) ∈ _)) (news_cons (hN _ (by k_mem : (M, _) ∈ _)) (news_cons (hN _ (by k_mem : (P, _) ∈ _)) (news_cons (hN _ (by k_mem : (R, _) ∈ _)) (news_cons (hN _ (by k_mem : (D, _) ∈ _)) (news_cons (hN _ (by k_mem : ((L + 1 + 1 + 1 + 1 + 1), _) ∈ _)) (news_cons (hN _ (by k_mem : ((L + 1 + 1 + 1 + 1), _) ∈ _)) (news_cons (hN _ (by k_mem : ((L + 1 + 1 + 1), _) ∈ _)) (news_cons (hN _ (by k_mem : ((L + 1 + 1), _) ∈ _)) (news_cons (hN _ (by k_mem : ((L + 1), _) ∈ _)) News.nil)))))))))))))) _ (fun p h => h) off' hS (ih _ ho)
end Mine
end
section -- Seg9b
open PySem PySem.W PyProof.Rows PySem.Calls
set_option maxRecDepth 100000
namespace Mine
inductive Tales (page pas due : List Int) : Nat → List Value → Prop
  | nil : Tales page pas due 0 []
  | snoc {i ys v} : Tales page pas due i ys → ToldOut page (pas ++ due.take i) v → Tales page pas due (i + 1) (ys ++ [v])
theorem in_sub {a b : List Int} (h : KBa.In b) (s : ∀ x ∈ a, x ∈ b) : KBa.In a := fun x hx => h x (s x hx)
theorem tale_turns (w : World) (mg mb : Str → Option Value) (mean : ExcName → Option Value) (h₀ : Heap) (L a : Addr) (cd : Value) (m : Str → Option Value) (s : Shared) (S : List (Addr × Obj) → Prop) (Fin : List Value → List (Addr × Obj) → Prop) (R D P M A U : Addr) (oM oR oD oP oK oS oU oW : Obj) (ps as us : List Value) (page pas due : List Int) (kp ka ku n : Nat)
    (X : (hd.heap_39 w.params).In h₀) (T : TopM mean mg mb h₀) (hoP : oP.data = .cell (some (.ref P))) (hoS : oS.data = .cell (some (.ref A))) (hoU : oU.data = .cell (some (.ref U)))
    (hIp : IntsAre ps page) (hIa : IntsAre as pas) (hIu : IntsAre us due) (hpage : KBa.In page) (hpas : KBa.In pas) (hdue : KBa.In due) (hpl : page.length ≤ 200) (hal : pas.length ≤ 200) (hul : due.length ≤ 200) (hgood : DGood (page ++ [117, 117, 117, 117]))
    (hS : S [(U, listOf us.toArray ku), (A, listOf as.toArray ka), (M, oM), (P, listOf ps.toArray kp), (R, oR), (D, oD), (L + 1 + 1 + 1 + 1 + 1, oW), (L + 1 + 1 + 1 + 1, oU), (L + 1 + 1 + 1, oS), (L + 1 + 1, oK), (L + 1, oP)])
    (hfin : ∀ ys, Tales page pas due n ys → Fin ys [(U, listOf us.toArray ku), (A, listOf as.toArray ka), (M, oM), (P, listOf ps.toArray kp), (R, oR), (D, oD), (L + 1 + 1 + 1 + 1 + 1, oW), (L + 1 + 1 + 1 + 1, oU), (L + 1 + 1 + 1, oS), (L + 1 + 1, oK), (L + 1, oP)]) :
    ∀ k i ys, i + k = n → Tales page pas due i ys →
    LCg.CompRest PRG w (lawA L a cd) h₀ L m (lawEnv L a cd) (compElt (asgVal (stmtAt lawBody 9))) (Str.ofString "k") (compScope (asgVal (stmtAt lawBody 9))) (taleCl L) s S (fun i v => ∃ t, v = .int (0 + (i : Int)) t) Fin k i ys [(U, listOf us.toArray ku), (A, listOf as.toArray ka), (M, oM), (P, listOf ps.toArray kp), (R, oR), (D, oD), (L + 1 + 1 + 1 + 1 + 1, oW), (L + 1 + 1 + 1 + 1, oU), (L + 1 + 1 + 1, oS), (L + 1 + 1, oK), (L + 1, oP)] := by
  intro k
  induction k with
  | zero =>
    intro i ys hi hy
    obtain rfl : i = n := hi
    exact LCg.CompRest.zero (hfin ys hy)
  | succ k ih =>
    intro i ys hi hy
    have e0 : (0 + (i : Int)).toNat = i := by omega
    refine tale_turn w mg mb mean h₀ L a cd m s ys S Fin R D P M A U oM oR oD oP oK oS oU oW ps as us page pas due kp ka ku k i n X T hoP hoS hoU hIp hIa hIu hpage hpas hdue hpl hal hul ?_ hgood hS ?_
    · intro x hx
      rcases List.mem_append.mp hx with hx | hx
      · exact hpas x hx
      · exact hdue x (List.mem_of_mem_take hx)
    · intro v hv
      rw [e0] at hv
      exact ih (i + 1) _ (by omega) (.snoc hy hv)
end Mine
end
section -- Seg9
open PySem PySem.W PyProof.Rows PySem.Calls
set_option maxRecDepth 100000
set_option maxHeartbeats 4000000
namespace Mine
local macro_rules | `(tactic| walk_at "callWith") => `(tactic| ((with_reducible show wpAny _ _ (callWith _ (Value.builtin _) (_ :: _) _ _) _ _ _); refine callWith_method1 ?_))
local macro_rules | `(tactic| walk_at "exec Assign cons ListComp") => `(tactic| (k_here; k_dflt (refine LCg.Assign_ListComp_U (F₀ := by k_asm) (by rfl) (by with_unfolding_all rfl) (by with_unfolding_all rfl) (by decide) (by rfl) (by decide) (by rfl) (by rfl) (by rfl) ?_)))
structure HoldOn (p : Prop) : Prop where
  go : p
local macro_rules | `(tactic| walk_at "CompSrc") => `(tactic| (k_here; refine HoldOn.go ?_))
abbrev lawMap9 (R D M V : Addr) (mc mx mk : Option Value) (mo : Str → Option Value) : Str → Option Value := fun y => if y = Str.ofString "tale" then some (.ref V) else lawMap7 R D M mc mx mk mo y
theorem seg9 (w : World) (mg mb : Str → Option Value) (mean : ExcName → Option Value) (h₀ : Heap) (L a : Addr) (cd : Value) (s : Shared) (Q : Flow → Shared → Prop) (E₂ : Value → Shared → Prop) (mo : Str → Option Value) (R D P M A U : Addr) (oM oR oD oP oK oS oU oW : Obj) (ps as us : List Value) (page pas due : List Int) (kp ka ku : Nat) (mc mx mk : Option Value) (rest : List Stmt)
    (X : (hd.heap_39 w.params).In h₀) (T : TopM mean mg mb h₀) (hoP : oP.data = .cell (some (.ref P))) (hoS : oS.data = .cell (some (.ref A))) (hoU : oU.data = .cell (some (.ref U)))
    (hIp : IntsAre ps page) (hIa : IntsAre as pas) (hIu : IntsAre us due) (hpage : KBa.In page) (hpas : KBa.In pas) (hdue : KBa.In due) (hpl : page.length ≤ 200) (hal : pas.length ≤ 200) (hul : due.length ≤ 200) (hgood : DGood (page ++ [117, 117, 117, 117]))
    (F : Fr h₀ L s.heap (lawMap7 R D M mc mx mk mo)) (N : News h₀ L s.heap [(U, listOf us.toArray ku), (A, listOf as.toArray ka), (M, oM), (P, listOf ps.toArray kp), (R, oR), (D, oD), (L + 1 + 1 + 1 + 1 + 1, oW), (L + 1 + 1 + 1 + 1, oU), (L + 1 + 1 + 1, oS), (L + 1 + 1, oK), (L + 1, oP)])
    (hc : ∀ h' tk V ys k, Tales page pas due (due.length + 1) ys → Fr h₀ L h' (lawMap9 R D M V mc mx mk mo) →
      News h₀ L h' [(V, listOf ys.toArray k), (U, listOf us.toArray ku), (A, listOf as.toArray ka), (M, oM), (P, listOf ps.toArray kp), (R, oR), (D, oD), (L + 1 + 1 + 1 + 1 + 1, oW), (L + 1 + 1 + 1 + 1, oU), (L + 1 + 1 + 1, oS), (L + 1 + 1, oK), (L + 1, oP)] →
      wpAny (model PySem.Challenge.rw_kq0072_01.row.prog w) (lawA L a cd) (execs rest (lawEnv L a cd)) Q (LE w L a cd E₂) { s with heap := h', toks := tk }) :
    wpAny (model PySem.Challenge.rw_kq0072_01.row.prog w) (lawA L a cd) (execs (stmtAt lawBody 9 :: rest) (lawEnv L a cd)) Q (LE w L a cd E₂) s := by
  have pt := @tale_turns w mg mb mean h₀ L a cd
  dsimp only [LE, lawA, lawEnv, lawBody, lawScope, lawDef, stmtAt, defBody, defScope, PySem.Challenge.pw_kq0072_01, asgVal, compTest, compElt, compIfs, compScope, PRG, taleCl] at F pt hc ⊢
  revert X
  k_fill
  intro X
  k_steps
  refine HoldOn.mk ?_
  rename IsRange _ _ _ _ _ _ _ _ => hR
  rename News _ _ _ _ => hN
  rename Fr _ _ _ _ => hF
  have hsz : Builtin.Range.rangeSize 0 ((due.length : Int) + 1) 1 = ((due.length + 1 : Nat) : Int) := by
    rw [rangeSize_one, if_pos (by omega)]; omega
  refine LCg.CompSrc.range (n := due.length + 1) rfl hF hN hR (small_one (by decide) (by decide) (by omega) (by omega)) hsz (by rw [sizeLine_eq]; omega) ?_
  intro g'
  refine pt _ _ _ _ R D P M A U oM oR oD oP oK oS oU oW ps as us page pas due kp ka ku (due.length + 1) X T hoP hoS hoU hIp hIa hIu hpage hpas hdue hpl hal hul hgood ?hS ?fin _ 0 [] (Nat.zero_add _) .nil
  case hS => exact trivial
  case fin =>
    intro ys hys
    unfold LCg.FinA
    intro V h2 tk2 F2 N2 o1
    exact hc _ _ V ys _ hys F2 N2
end Mine
end
section -- Pure1
open PySem PySem.W PyProof.Rows
set_option maxRecDepth 100000
namespace Mine
theorem meansB_iff {x : Int} : meansB x = true ↔ (33 ≤ x ∧ x ≤ 117) ∨ x = 122 := by
  unfold meansB
  simp only [Bool.or_eq_true, Bool.and_eq_true, decide_eq_true_eq]
theorem meansB_no {x : Int} : meansB x = false ↔ ¬ (33 ≤ x ∧ x ≤ 117) ∧ x ≠ 122 := by
  rw [← Bool.not_eq_true, meansB_iff]
  omega
theorem dstep_skip {x : Int} (st : List (Array UInt8) × List Int) (h : meansB x = false) : dstep st x = st := by
  obtain ⟨h1, h2⟩ := meansB_no.mp h
  unfold dstep
  rw [if_neg h1, if_neg h2]
theorem fold_sig (ks : List Int) : ∀ st, (ks.filter meansB).foldl dstep st = ks.foldl dstep st := by
  induction ks with
  | nil => intro st; rfl
  | cons x ks ih =>
    intro st
    cases h : meansB x with
    | true => rw [List.filter_cons_of_pos h, List.foldl_cons, List.foldl_cons, ih]
    | false => rw [List.filter_cons_of_neg (by rw [h]; decide), List.foldl_cons, dstep_skip st h, ih]
theorem drun_sig (ks : List Int) : drun (ks.filter meansB) = drun ks := fold_sig ks _
def Good (st : List (Array UInt8) × List Int) (ks : List Int) : Prop := ∀ pre x post, ks = pre ++ x :: post → (x = 122 → (pre.foldl dstep st).2 = []) ∧ (33 ≤ x → x ≤ 117 → (pre.foldl dstep st).2.length = 4 → acc5 ((pre.foldl dstep st).2 ++ [x]) < 4294967296)
theorem good_nil (st) : Good st [] := fun pre x post h => by cases pre <;> cases h
theorem good_cons {st x ks} (h1 : x = 122 → st.2 = []) (h2 : 33 ≤ x → x ≤ 117 → st.2.length = 4 → acc5 (st.2 ++ [x]) < 4294967296) (h : Good (dstep st x) ks) : Good st (x :: ks) := fun pre y post e => by
  cases pre with
  | nil => cases e; exact ⟨h1, h2⟩
  | cons z pre =>
    cases e
    exact h pre y post rfl
theorem good_head {st x ks} (h : Good st (x :: ks)) : (x = 122 → st.2 = []) ∧ (33 ≤ x → x ≤ 117 → st.2.length = 4 → acc5 (st.2 ++ [x]) < 4294967296) := h [] x ks rfl
theorem good_tail {st x ks} (h : Good st (x :: ks)) : Good (dstep st x) ks := fun pre y post e => by
  have := h (x :: pre) y post (by rw [e]; rfl)
  rw [List.foldl_cons] at this
  exact this
theorem good_app {a b : List Int} : ∀ {st}, Good st a → Good (a.foldl dstep st) b → Good st (a ++ b) := by
  induction a with
  | nil => intro st _ h; exact h
  | cons x a ih =>
    intro st h k
    exact good_cons (good_head h).1 (good_head h).2 (ih (good_tail h) k)
theorem good_sig {ks : List Int} : ∀ {st}, Good st (ks.filter meansB) → Good st ks := by
  induction ks with
  | nil => intro st h; exact h
  | cons x ks ih =>
    intro st h
    cases e : meansB x with
    | true =>
      rw [List.filter_cons_of_pos e] at h
      exact good_cons (good_head h).1 (good_head h).2 (ih (good_tail h))
    | false =>
      rw [List.filter_cons_of_neg (by rw [e]; decide)] at h
      obtain ⟨h1, h2⟩ := meansB_no.mp e
      refine good_cons (fun q => absurd q h2) (fun q r => absurd ⟨q, r⟩ h1) (ih ?_)
      rw [dstep_skip st e]
      exact h
theorem dgood_of {ks : List Int} (h : Good ([], []) (ks.filter meansB)) : DGood ks := good_sig h
/-- five signs that mean something, from an empty place -/
theorem five_go (bs : List (Array UInt8)) (a b c d e : Int) (ha : 33 ≤ a ∧ a ≤ 117) (hb : 33 ≤ b ∧ b ≤ 117) (hc : 33 ≤ c ∧ c ≤ 117) (hd : 33 ≤ d ∧ d ≤ 117) (he : 33 ≤ e ∧ e ≤ 117) :
    [a, b, c, d, e].foldl dstep (bs, []) = (bs ++ [Builtin.Struct.intBytes true 4 (acc5 [a, b, c, d, e])], []) := by
  simp only [List.foldl_cons, List.foldl_nil, dstep, if_pos ha, if_pos hb, if_pos hc, if_pos hd, if_pos he, List.nil_append, List.cons_append, List.length_nil, List.length_cons]
  simp
theorem five_good (bs : List (Array UInt8)) (a b c d e : Int) (ha : 33 ≤ a ∧ a ≤ 117) (hb : 33 ≤ b ∧ b ≤ 117) (hc : 33 ≤ c ∧ c ≤ 117) (hd : 33 ≤ d ∧ d ≤ 117) (he : 33 ≤ e ∧ e ≤ 117) (h : acc5 [a, b, c, d, e] < 4294967296) :
    Good (bs, []) [a, b, c, d, e] := by
  have n1 : dstep (bs, []) a = (bs, [a]) := by simp [dstep, ha]
  have n2 : dstep (bs, [a]) b = (bs, [a, b]) := by simp [dstep, hb]
  have n3 : dstep (bs, [a, b]) c = (bs, [a, b, c]) := by simp [dstep, hc]
  have n4 : dstep (bs, [a, b, c]) d = (bs, [a, b, c, d]) := by simp [dstep, hd]
  refine good_cons (fun _ => rfl) (fun _ _ q => absurd q (by simp)) ?_
  rw [n1]
  refine good_cons (fun q => by omega) (fun _ _ q => absurd q (by simp)) ?_
  rw [n2]
  refine good_cons (fun q => by omega) (fun _ _ q => absurd q (by simp)) ?_
  rw [n3]
  refine good_cons (fun q => by omega) (fun _ _ q => absurd q (by simp)) ?_
  rw [n4]
  exact good_cons (fun q => by omega) (fun _ _ _ => h) (good_nil _)
/-- the octets of a number below 2^32, the heavy one first -/
def oct4 (z : Int) : List Int := [z / 16777216 % 256, z / 65536 % 256, z / 256 % 256, z % 256]
theorem ints_bytes4 (z : Int) (h0 : 0 ≤ z) (h1 : z < 4294967296) : KBw.bInts (Builtin.Struct.intBytes true 4 z) = oct4 z := by
  have e1 : Builtin.Struct.intBytes true 4 z = (Builtin.Memoryview.toLittleEndian 4 (z % 4294967296).toNat).reverse := rfl
  rw [e1, Int.emod_eq_of_lt h0 h1]
  have e2 : Builtin.Memoryview.toLittleEndian 4 z.toNat = #[(z.toNat / 1 % 256).toUInt8, (z.toNat / 256 % 256).toUInt8, (z.toNat / 65536 % 256).toUInt8, (z.toNat / 16777216 % 256).toUInt8] := rfl
  rw [e2]
  have e3 : (#[(z.toNat / 1 % 256).toUInt8, (z.toNat / 256 % 256).toUInt8, (z.toNat / 65536 % 256).toUInt8, (z.toNat / 16777216 % 256).toUInt8] : Array UInt8).reverse = #[(z.toNat / 16777216 % 256).toUInt8, (z.toNat / 65536 % 256).toUInt8, (z.toNat / 256 % 256).toUInt8, (z.toNat / 1 % 256).toUInt8] := by simp
  rw [e3]
  have e4 : ∀ n : Nat, (((n % 256).toUInt8).toNat : Int) = (n : Int) % 256 := fun n => by
    rw [Nat.toUInt8, UInt8.toNat_ofNat']
    omega
  unfold oct4
  show [(((z.toNat / 16777216 % 256).toUInt8).toNat : Int), (((z.toNat / 65536 % 256).toUInt8).toNat : Int), (((z.toNat / 256 % 256).toUInt8).toNat : Int), (((z.toNat / 1 % 256).toUInt8).toNat : Int)] = _
  rw [e4, e4, e4, e4]
  have hz : ((z.toNat : Nat) : Int) = z := Int.toNat_of_nonneg h0
  simp only [Int.natCast_ediv, hz]
  simp
theorem joinB_app (bs cs : List (Array UInt8)) : KBw.bInts (joinB (bs ++ cs)) = KBw.bInts (joinB bs) ++ KBw.bInts (joinB cs) := by
  unfold joinB
  rw [List.foldl_append]
  generalize bs.foldl (· ++ ·) #[] = o
  induction cs generalizing o with
  | nil => simp [KBw.bInts]
  | cons c cs ih =>
    rw [List.foldl_cons, List.foldl_cons, ih, ih (#[] ++ c)]
    rw [KBw.ints_app (b := o) (c := c) rfl rfl, KBw.ints_app (b := #[]) (c := c) rfl rfl]
    rw [← List.append_assoc]
    simp [KBw.bInts]
theorem joinB_one (b : Array UInt8) : KBw.bInts (joinB [b]) = KBw.bInts b := by
  unfold joinB
  simp
end Mine
end
section -- Pure2w
open PySem PySem.W PyProof.Rows
set_option maxRecDepth 100000
namespace Mine
def d4 (z : Int) : Int := 33 + z / 52200625 % 85
def d3 (z : Int) : Int := 33 + z / 614125 % 85
def d2 (z : Int) : Int := 33 + z / 7225 % 85
def d1 (z : Int) : Int := 33 + z / 85 % 85
def d0 (z : Int) : Int := 33 + z % 85
theorem wrOut_eq (n : Nat) (z : Int) : wrOut n z = if z = 0 ∧ n = 4 then [122] else [d4 z, d3 z, d2 z, d1 z, d0 z].take (n + 1) := by
  unfold wrOut d4 d3 d2 d1 d0
  simp only [Int.fdiv_eq_ediv_of_nonneg _ (show (0 : Int) ≤ 52200625 by decide), Int.fdiv_eq_ediv_of_nonneg _ (show (0 : Int) ≤ 614125 by decide), Int.fdiv_eq_ediv_of_nonneg _ (show (0 : Int) ≤ 7225 by decide), Int.fdiv_eq_ediv_of_nonneg _ (show (0 : Int) ≤ 85 by decide), Int.fdiv_eq_ediv_of_nonneg _ (show (0 : Int) ≤ 1 by decide), Int.fmod_eq_emod_of_nonneg _ (show (0 : Int) ≤ 85 by decide), Int.ediv_one]
theorem dig_in (y : Int) : 33 ≤ 33 + y % 85 ∧ 33 + y % 85 ≤ 117 := by omega
theorem k34 (z : Int) : z / 614125 / 85 = z / 52200625 := Int.ediv_ediv_of_nonneg (by decide)
theorem k23 (z : Int) : z / 7225 / 85 = z / 614125 := Int.ediv_ediv_of_nonneg (by decide)
theorem k12 (z : Int) : z / 85 / 85 = z / 7225 := Int.ediv_ediv_of_nonneg (by decide)
theorem up_to (z m : Int) (hm : 0 < m) : z ≤ z / m * m + (m - 1) ∧ z / m * m + (m - 1) < z + m := by
  have h1 := Int.emod_add_mul_ediv z m
  have h2 := Int.emod_nonneg z (Int.ne_of_gt hm)
  have h3 := Int.emod_lt_of_pos z hm
  rw [Int.mul_comm] at h1
  omega
theorem lead (z : Int) (h0 : 0 ≤ z) (h1 : z < 4294967296) : z / 52200625 % 85 = z / 52200625 := by
  have h2 : 0 ≤ z / 52200625 := Int.ediv_nonneg h0 (by decide)
  have h3 : z / 52200625 < 85 := Int.ediv_lt_of_lt_mul (by decide) (by omega)
  exact Int.emod_eq_of_lt h2 h3
theorem step85 (y q : Int) (h : y / 85 = q) : y = 85 * q + y % 85 := by
  have := Int.emod_add_mul_ediv y 85
  rw [h] at this
  omega
/-- the five digits, made of each other -/
theorem digs (z : Int) (h0 : 0 ≤ z) (h1 : z < 4294967296) : ∃ a b c d e : Int, d4 z = 33 + a ∧ d3 z = 33 + b ∧ d2 z = 33 + c ∧ d1 z = 33 + d ∧ d0 z = 33 + e ∧
    z / 614125 = 85 * a + b ∧ z / 7225 = 85 * (85 * a + b) + c ∧ z / 85 = 85 * (85 * (85 * a + b) + c) + d ∧ z = 85 * (85 * (85 * (85 * a + b) + c) + d) + e := by
  have e1 := step85 _ _ (k34 z)
  have e2 := step85 _ _ (k23 z)
  have e3 := step85 _ _ (k12 z)
  have e4 := step85 z _ rfl
  have e5 := lead z h0 h1
  refine ⟨z / 52200625 % 85, z / 614125 % 85, z / 7225 % 85, z / 85 % 85, z % 85, rfl, rfl, rfl, rfl, rfl, ?_, ?_, ?_, ?_⟩
  · rw [e5]; exact e1
  · rw [e5, ← e1]; exact e2
  · rw [e5, ← e1, ← e2]; exact e3
  · rw [e5, ← e1, ← e2, ← e3]; exact e4
theorem acc_is (a b c d e : Int) : acc5 [33 + a, 33 + b, 33 + c, 33 + d, 33 + e] = 85 * (85 * (85 * (85 * a + b) + c) + d) + e := by
  show 85 * (85 * (85 * (85 * (85 * 0 + (33 + a - 33)) + (33 + b - 33)) + (33 + c - 33)) + (33 + d - 33)) + (33 + e - 33) = _
  simp only [Int.add_comm 33, Int.add_sub_cancel, Int.mul_zero, Int.zero_add]
theorem acc_z (z : Int) (h0 : 0 ≤ z) (h1 : z < 4294967296) : acc5 [d4 z, d3 z, d2 z, d1 z, d0 z] = z := by
  obtain ⟨a, b, c, d, e, q1, q2, q3, q4, q5, _, _, _, hz⟩ := digs z h0 h1
  rw [q1, q2, q3, q4, q5, acc_is, ← hz]
theorem acc_1 (z : Int) (h0 : 0 ≤ z) (h1 : z < 4294967296) : acc5 [d4 z, d3 z, 117, 117, 117] = z / 614125 * 614125 + 614124 := by
  obtain ⟨a, b, c, d, e, q1, q2, _, _, _, h, _, _, _⟩ := digs z h0 h1
  rw [q1, q2, show (117 : Int) = 33 + 84 from rfl, acc_is, h]
  omega
theorem acc_2 (z : Int) (h0 : 0 ≤ z) (h1 : z < 4294967296) : acc5 [d4 z, d3 z, d2 z, 117, 117] = z / 7225 * 7225 + 7224 := by
  obtain ⟨a, b, c, d, e, q1, q2, q3, _, _, _, h, _, _⟩ := digs z h0 h1
  rw [q1, q2, q3, show (117 : Int) = 33 + 84 from rfl, acc_is, h]
  omega
theorem acc_3 (z : Int) (h0 : 0 ≤ z) (h1 : z < 4294967296) : acc5 [d4 z, d3 z, d2 z, d1 z, 117] = z / 85 * 85 + 84 := by
  obtain ⟨a, b, c, d, e, q1, q2, q3, q4, _, _, _, h, _⟩ := digs z h0 h1
  rw [q1, q2, q3, q4, show (117 : Int) = 33 + 84 from rfl, acc_is, h]
  omega
theorem dm (q r m : Int) (h0 : 0 ≤ r) (h1 : r < m) : (m * q + r) / m = q ∧ (m * q + r) % m = r := by
  have hm : m ≠ 0 := by omega
  constructor
  · rw [Int.add_comm, Int.add_mul_ediv_left _ _ hm, Int.ediv_eq_zero_of_lt h0 h1, Int.zero_add]
  · rw [Int.add_comm, Int.add_mul_emod_self_left]; exact Int.emod_eq_of_lt h0 h1
theorem dd (y a b : Int) (ha : 0 ≤ a) : y / a / b = y / (a * b) := Int.ediv_ediv_of_nonneg ha
/-- a number between the octets' one and the next above: its upper octets -/
theorem oct_of (a b c d : Int) (ha : 0 ≤ a ∧ a < 256) (hb : 0 ≤ b ∧ b < 256) (hc : 0 ≤ c ∧ c < 256) (hd : 0 ≤ d ∧ d < 256) : oct4 (256 * (256 * (256 * (256 * 0 + a) + b) + c) + d) = [a, b, c, d] := by
  obtain ⟨u1, v1⟩ := dm (256 * (256 * (256 * 0 + a) + b) + c) d 256 hd.1 hd.2
  obtain ⟨u2, v2⟩ := dm (256 * (256 * 0 + a) + b) c 256 hc.1 hc.2
  obtain ⟨u3, v3⟩ := dm (256 * 0 + a) b 256 hb.1 hb.2
  have v4 : (256 * 0 + a) % 256 = a := (dm 0 a 256 ha.1 ha.2).2
  unfold oct4
  rw [show (16777216 : Int) = 256 * 256 * 256 from rfl, show (65536 : Int) = 256 * 256 from rfl]
  rw [← dd _ (256 * 256) 256 (by decide), ← dd _ 256 256 (by decide), u1, u2, u3, v1, v2, v3, v4]
theorem part1 (a z : Int) (ha : 0 ≤ a ∧ a < 256) (hz : z = 16777216 * a) : 0 ≤ z / 614125 * 614125 + 614124 ∧ z / 614125 * 614125 + 614124 < 4294967296 ∧ (oct4 (z / 614125 * 614125 + 614124)).take 1 = [a] := by
  have e := up_to z 614125 (by decide)
  rw [show (614125 : Int) - 1 = 614124 from rfl] at e
  generalize z / 614125 * 614125 + 614124 = y at e ⊢
  have h : y / 16777216 = a := by omega
  refine ⟨by omega, by omega, ?_⟩
  show [y / 16777216 % 256] = [a]
  rw [h, Int.emod_eq_of_lt ha.1 ha.2]
theorem part2 (a b z : Int) (ha : 0 ≤ a ∧ a < 256) (hb : 0 ≤ b ∧ b < 256) (hz : z = 65536 * (256 * a + b)) : 0 ≤ z / 7225 * 7225 + 7224 ∧ z / 7225 * 7225 + 7224 < 4294967296 ∧ (oct4 (z / 7225 * 7225 + 7224)).take 2 = [a, b] := by
  have e := up_to z 7225 (by decide)
  rw [show (7225 : Int) - 1 = 7224 from rfl] at e
  generalize z / 7225 * 7225 + 7224 = y at e ⊢
  have h : y / 65536 = 256 * a + b := by omega
  obtain ⟨u, v⟩ := dm a b 256 hb.1 hb.2
  refine ⟨by omega, by omega, ?_⟩
  show [y / 16777216 % 256, y / 65536 % 256] = [a, b]
  rw [show (16777216 : Int) = 65536 * 256 from rfl, ← dd y 65536 256 (by decide), h, u, v, Int.emod_eq_of_lt ha.1 ha.2]
theorem part3 (a b c z : Int) (ha : 0 ≤ a ∧ a < 256) (hb : 0 ≤ b ∧ b < 256) (hc : 0 ≤ c ∧ c < 256) (hz : z = 256 * (256 * (256 * a + b) + c)) : 0 ≤ z / 85 * 85 + 84 ∧ z / 85 * 85 + 84 < 4294967296 ∧ (oct4 (z / 85 * 85 + 84)).take 3 = [a, b, c] := by
  have e := up_to z 85 (by decide)
  rw [show (85 : Int) - 1 = 84 from rfl] at e
  generalize z / 85 * 85 + 84 = y at e ⊢
  have h : y / 256 = 256 * (256 * a + b) + c := by omega
  obtain ⟨u, v⟩ := dm (256 * a + b) c 256 hc.1 hc.2
  obtain ⟨u2, v2⟩ := dm a b 256 hb.1 hb.2
  refine ⟨by omega, by omega, ?_⟩
  show [y / 16777216 % 256, y / 65536 % 256, y / 256 % 256] = [a, b, c]
  rw [show (16777216 : Int) = 256 * 256 * 256 from rfl, show (65536 : Int) = 256 * 256 from rfl, ← dd y (256 * 256) 256 (by decide), ← dd y 256 256 (by decide), h, u, v, u2, v2, Int.emod_eq_of_lt ha.1 ha.2]
/-- a whole group -/
theorem group4 (bs : List (Array UInt8)) (a b c d : Int) (ha : 0 ≤ a ∧ a < 256) (hb : 0 ≤ b ∧ b < 256) (hc : 0 ≤ c ∧ c < 256) (hd : 0 ≤ d ∧ d < 256) :
    ∃ x, (wrPiece [a, b, c, d]).foldl dstep (bs, []) = (bs ++ [x], []) ∧ KBw.bInts x = [a, b, c, d] ∧ Good (bs, []) (wrPiece [a, b, c, d]) ∧ ∀ y ∈ wrPiece [a, b, c, d], meansB y = true := by
  obtain ⟨z, hz⟩ : ∃ z, z = sum4 [a, b, c, d] := ⟨_, rfl⟩
  have hzz : z = 256 * (256 * (256 * (256 * 0 + a) + b) + c) + d := hz
  have h0 : 0 ≤ z := by omega
  have h1 : z < 4294967296 := by omega
  unfold wrPiece
  rw [← hz, wrOut_eq]
  by_cases q : z = 0 ∧ ([a, b, c, d] : List Int).length = 4
  · rw [if_pos q]
    refine ⟨#[0, 0, 0, 0], ?_, ?_, ?_, ?_⟩
    · simp [dstep]
    · have : a = 0 ∧ b = 0 ∧ c = 0 ∧ d = 0 := by omega
      obtain ⟨rfl, rfl, rfl, rfl⟩ := this
      rfl
    · exact good_cons (fun _ => rfl) (fun _ q => absurd q (by decide)) (good_nil _)
    · intro y hy
      obtain rfl := List.mem_singleton.mp hy
      decide
  · rw [if_neg q]
    have e : [d4 z, d3 z, d2 z, d1 z, d0 z].take (([a, b, c, d] : List Int).length + 1) = [d4 z, d3 z, d2 z, d1 z, d0 z] := rfl
    rw [e]
    refine ⟨_, five_go bs _ _ _ _ _ (dig_in _) (dig_in _) (dig_in _) (dig_in _) (dig_in _), ?_, five_good bs _ _ _ _ _ (dig_in _) (dig_in _) (dig_in _) (dig_in _) (dig_in _) ?_, ?_⟩
    · rw [acc_z z h0 h1, ints_bytes4 z h0 h1]
      rw [hzz]
      exact oct_of a b c d ha hb hc hd
    · rw [acc_z z h0 h1]; exact h1
    · intro y hy
      refine meansB_iff.mpr (.inl ?_)
      simp only [List.mem_cons, List.not_mem_nil, or_false] at hy
      rcases hy with rfl | rfl | rfl | rfl | rfl <;> exact dig_in _
/-- what is written of the rest of a row, and the four signs behind it -/
def tailOf : List Int → List Int := fun l => if l.length = 0 then [] else wrPiece l
theorem tail_all (bs : List (Array UInt8)) (l : List Int) (hl : l.length < 4) (hr : ∀ y ∈ l, 0 ≤ y ∧ y < 256) :
    ∃ xs, (tailOf l ++ [117, 117, 117, 117]).foldl dstep (bs, []) = (bs ++ xs, List.replicate (if l.length = 0 then 4 else l.length) 117) ∧ (KBw.bInts (joinB xs)).take ((KBw.bInts (joinB xs)).length - (4 - (if l.length = 0 then 4 else l.length))) = l ∧ (4 - (if l.length = 0 then 4 else l.length)) ≤ (KBw.bInts (joinB xs)).length ∧ Good (bs, []) (tailOf l ++ [117, 117, 117, 117]) ∧ ∀ y ∈ tailOf l, meansB y = true := by
  have u1 : ∀ (b : List (Array UInt8)) (cs : List Int), cs.length < 4 → dstep (b, cs) 117 = (b, cs ++ [117]) := fun b cs h => by
    unfold dstep
    rw [if_pos (by decide), if_neg (by dsimp only; omega)]
  have g1 : ∀ (b : List (Array UInt8)) (cs ks : List Int), cs.length < 4 → Good (b, cs ++ [117]) ks → Good (b, cs) (117 :: ks) := fun b cs ks h k => by
    refine good_cons (fun q => absurd q (by decide)) (fun _ _ q => absurd q (by dsimp only; omega)) ?_
    rw [u1 b cs h]
    exact k
  have fin : ∀ (n : Nat) (a b c d e z z0 : Int), 0 < n → n < 4 → l.length = n → acc5 [a, b, c, d, e] = z → 0 ≤ z → z < 4294967296 → (oct4 z).take n = l → (33 ≤ a ∧ a ≤ 117) → (33 ≤ b ∧ b ≤ 117) → (33 ≤ c ∧ c ≤ 117) → (33 ≤ d ∧ d ≤ 117) → (33 ≤ e ∧ e ≤ 117) →
      ∃ xs, ([a, b, c, d, e] ++ List.replicate n 117).foldl dstep (bs, []) = (bs ++ xs, List.replicate (if l.length = 0 then 4 else l.length) 117) ∧ (KBw.bInts (joinB xs)).take ((KBw.bInts (joinB xs)).length - (4 - (if l.length = 0 then 4 else l.length))) = l ∧ (4 - (if l.length = 0 then 4 else l.length)) ≤ (KBw.bInts (joinB xs)).length ∧ Good (bs, []) ([a, b, c, d, e] ++ List.replicate n 117) := by
    intro n a b c d e z z0 n0 n4 hn hz h0 h1 ho ha hb hc hd he
    refine ⟨[Builtin.Struct.intBytes true 4 z], ?_, ?_, ?_, ?_⟩
    · rw [List.foldl_append, five_go bs a b c d e ha hb hc hd he, hz, hn, if_neg (by omega)]
      match n, n0, n4 with
      | 1, _, _ => rfl
      | 2, _, _ => rfl
      | 3, _, _ => rfl
    · rw [joinB_one, ints_bytes4 z h0 h1, hn, if_neg (by omega), ← ho]
      show (oct4 z).take (4 - (4 - n)) = _
      rw [show 4 - (4 - n) = n by omega]
    · rw [joinB_one, ints_bytes4 z h0 h1, hn, if_neg (by omega)]
      show 4 - n ≤ 4
      omega
    · refine good_app (five_good bs a b c d e ha hb hc hd he (by rw [hz]; exact h1)) ?_
      rw [five_go bs a b c d e ha hb hc hd he]
      match n, n0, n4 with
      | 1, _, _ => exact g1 _ _ _ (by decide) (good_nil _)
      | 2, _, _ => exact g1 _ _ _ (by decide) (g1 _ _ _ (by decide) (good_nil _))
      | 3, _, _ => exact g1 _ _ _ (by decide) (g1 _ _ _ (by decide) (g1 _ _ _ (by decide) (good_nil _)))
  have u : (33 : Int) ≤ 117 ∧ (117 : Int) ≤ 117 := by decide
  have acc : ∀ a b c d e : Int, acc5 [a, b, c, d, e] = 85 * (85 * (85 * (85 * (85 * 0 + (a - 33)) + (b - 33)) + (c - 33)) + (d - 33)) + (e - 33) := fun _ _ _ _ _ => rfl
  match l, hl, hr with
  | [], _, _ =>
    refine ⟨[], ?_, rfl, Nat.le_refl _, ?_, fun y hy => nomatch hy⟩
    · rw [List.append_nil]; rfl
    · exact g1 _ _ _ (by decide) (g1 _ _ _ (by decide) (g1 _ _ _ (by decide) (g1 _ _ _ (by decide) (good_nil _))))
  | [a], _, hr =>
    have ha := hr a (by simp)
    obtain ⟨z, hz⟩ : ∃ z, z = sum4 [a] := ⟨_, rfl⟩
    have hzz : z = 256 * (256 * (256 * (256 * 0 + a) + 0) + 0) + 0 := hz
    have hz2 : z = 16777216 * a := by rw [hzz]; omega
    have Z : 0 ≤ z ∧ z < 4294967296 := by constructor <;> omega
    have P1 := part1 a z ha hz2
    have et : tailOf [a] = [d4 z, d3 z] := by
      show wrPiece [a] = _
      unfold wrPiece
      rw [← hz, wrOut_eq, if_neg (by simp)]
      rfl
    rw [et]
    obtain ⟨xs, x1, x2, x3, x4⟩ := fin 1 (d4 z) (d3 z) 117 117 117 (z / 614125 * 614125 + 614124) 0 (by decide) (by decide) rfl (acc_1 z Z.1 Z.2) P1.1 P1.2.1 P1.2.2 (dig_in _) (dig_in _) u u u
    refine ⟨xs, x1, x2, x3, x4, fun y hy => meansB_iff.mpr (.inl ?_)⟩
    simp only [List.mem_cons, List.not_mem_nil, or_false] at hy
    rcases hy with rfl | rfl <;> exact dig_in _
  | [a, b], _, hr =>
    have ha := hr a (by simp)
    have hb := hr b (by simp)
    obtain ⟨z, hz⟩ : ∃ z, z = sum4 [a, b] := ⟨_, rfl⟩
    have hzz : z = 256 * (256 * (256 * (256 * 0 + a) + b) + 0) + 0 := hz
    have hz2 : z = 65536 * (256 * a + b) := by rw [hzz]; omega
    have Z : 0 ≤ z ∧ z < 4294967296 := by constructor <;> omega
    have P2 := part2 a b z ha hb hz2
    have et : tailOf [a, b] = [d4 z, d3 z, d2 z] := by
      show wrPiece [a, b] = _
      unfold wrPiece
      rw [← hz, wrOut_eq, if_neg (by simp)]
      rfl
    rw [et]
    obtain ⟨xs, x1, x2, x3, x4⟩ := fin 2 (d4 z) (d3 z) (d2 z) 117 117 (z / 7225 * 7225 + 7224) 0 (by decide) (by decide) rfl (acc_2 z Z.1 Z.2) P2.1 P2.2.1 P2.2.2 (dig_in _) (dig_in _) (dig_in _) u u
    refine ⟨xs, x1, x2, x3, x4, fun y hy => meansB_iff.mpr (.inl ?_)⟩
    simp only [List.mem_cons, List.not_mem_nil, or_false] at hy
    rcases hy with rfl | rfl | rfl <;> exact dig_in _
  | [a, b, c], _, hr =>
    have ha := hr a (by simp)
    have hb := hr b (by simp)
    have hc := hr c (by simp)
    obtain ⟨z, hz⟩ : ∃ z, z = sum4 [a, b, c] := ⟨_, rfl⟩
    have hzz : z = 256 * (256 * (256 * (256 * 0 + a) + b) + c) + 0 := hz
    have hz2 : z = 256 * (256 * (256 * a + b) + c) := by rw [hzz]; omega
    have Z : 0 ≤ z ∧ z < 4294967296 := by constructor <;> omega
    have P3 := part3 a b c z ha hb hc hz2
    have et : tailOf [a, b, c] = [d4 z, d3 z, d2 z, d1 z] := by
      show wrPiece [a, b, c] = _
      unfold wrPiece
      rw [← hz, wrOut_eq, if_neg (by simp)]
      rfl
    rw [et]
    obtain ⟨xs, x1, x2, x3, x4⟩ := fin 3 (d4 z) (d3 z) (d2 z) (d1 z) 117 (z / 85 * 85 + 84) 0 (by decide) (by decide) rfl (acc_3 z Z.1 Z.2) P3.1 P3.2.1 P3.2.2 (dig_in _) (dig_in _) (dig_in _) (dig_in _) u
    refine ⟨xs, x1, x2, x3, x4, fun y hy => meansB_iff.mpr (.inl ?_)⟩
    simp only [List.mem_cons, List.not_mem_nil, or_false] at hy
    rcases hy with rfl | rfl | rfl | rfl <;> exact dig_in _
  | _ :: _ :: _ :: _ :: _, hl, _ => exact absurd hl (by simp)
end Mine
end
section -- Pure3w
open PySem PySem.W PyProof.Rows
set_option maxRecDepth 100000
namespace Mine
def uuuu : List Int := [117, 117, 117, 117]
structure WritAll (bs : List (Array UInt8)) (w l : List Int) (xs : List (Array UInt8)) (r : Nat) : Prop where
  run : (w ++ [117, 117, 117, 117]).foldl dstep (bs, []) = (bs ++ xs, List.replicate r 117)
  out : (KBw.bInts (joinB xs)).take ((KBw.bInts (joinB xs)).length - (4 - r)) = l
  len : 4 - r ≤ (KBw.bInts (joinB xs)).length
  good : Good (bs, []) (w ++ [117, 117, 117, 117])
  means : ∀ y ∈ w, meansB y = true
theorem writ_four (a b c d : Int) (l : List Int) : writ (a :: b :: c :: d :: l) = wrPiece [a, b, c, d] ++ writ l := by
  unfold writ
  have : turnsOf (a :: b :: c :: d :: l).length = turnsOf l.length + 1 := by unfold turnsOf; simp only [List.length_cons]; omega
  rw [this]
  rfl
theorem writ_few (l : List Int) (h : l.length < 4) : writ l = tailOf l := by
  match l, h with
  | [], _ => rfl
  | [a], _ => unfold writ tailOf; rw [if_neg (by simp), show turnsOf ([a] : List Int).length = 1 from by unfold turnsOf; simp]; exact List.append_nil (wrPiece [a])
  | [a, b], _ => unfold writ tailOf; rw [if_neg (by simp), show turnsOf ([a, b] : List Int).length = 1 from by unfold turnsOf; simp]; exact List.append_nil (wrPiece [a, b])
  | [a, b, c], _ => unfold writ tailOf; rw [if_neg (by simp), show turnsOf ([a, b, c] : List Int).length = 1 from by unfold turnsOf; simp]; exact List.append_nil (wrPiece [a, b, c])
  | _ :: _ :: _ :: _ :: _, hl => exact absurd hl (by simp)
theorem writ_all (l : List Int) : (∀ y ∈ l, 0 ≤ y ∧ y < 256) → ∀ bs, ∃ xs r, WritAll bs (writ l) l xs r := by
  match l with
  | a :: b :: c :: d :: l =>
    intro hr bs
    obtain ⟨x, g1, g2, g3, g4⟩ := group4 bs a b c d (hr _ (by simp)) (hr _ (by simp)) (hr _ (by simp)) (hr _ (by simp))
    obtain ⟨xs, r, W⟩ := writ_all l (fun y hy => hr y (by simp [hy])) (bs ++ [x])
    refine ⟨x :: xs, r, ?_, ?_, ?_, ?_, ?_⟩
    · rw [writ_four, List.append_assoc, List.foldl_append, g1, W.run, List.append_assoc]
      rfl
    · have e : KBw.bInts (joinB (x :: xs)) = [a, b, c, d] ++ KBw.bInts (joinB xs) := by
        have := joinB_app [x] xs
        rw [joinB_one, g2] at this
        exact this
      have hl := W.len
      have ho := W.out
      rw [e, List.length_append]
      rw [show ([a, b, c, d] : List Int).length + (KBw.bInts (joinB xs)).length - (4 - r) = ([a, b, c, d] : List Int).length + ((KBw.bInts (joinB xs)).length - (4 - r)) by omega]
      rw [List.take_append, List.take_of_length_le (by omega)]
      rw [show ([a, b, c, d] : List Int).length + ((KBw.bInts (joinB xs)).length - (4 - r)) - ([a, b, c, d] : List Int).length = (KBw.bInts (joinB xs)).length - (4 - r) by omega, ho]
      rfl
    · have e : KBw.bInts (joinB (x :: xs)) = [a, b, c, d] ++ KBw.bInts (joinB xs) := by
        have := joinB_app [x] xs
        rw [joinB_one, g2] at this
        exact this
      have hl := W.len
      rw [e, List.length_append]
      omega
    · rw [writ_four, List.append_assoc]
      refine good_app g3 ?_
      rw [g1]
      exact W.good
    · intro y hy
      rw [writ_four] at hy
      exact (List.mem_append.mp hy).elim (g4 y) (W.means y)
  | [] =>
    intro hr bs
    obtain ⟨xs, x1, x2, x3, x4, x5⟩ := tail_all bs [] (by simp) hr
    exact ⟨xs, _, by rw [writ_few _ (by simp)]; exact x1, x2, x3, by rw [writ_few _ (by simp)]; exact x4, by rw [writ_few _ (by simp)]; exact x5⟩
  | [a] =>
    intro hr bs
    obtain ⟨xs, x1, x2, x3, x4, x5⟩ := tail_all bs [a] (by simp) hr
    exact ⟨xs, _, by rw [writ_few _ (by simp)]; exact x1, x2, x3, by rw [writ_few _ (by simp)]; exact x4, by rw [writ_few _ (by simp)]; exact x5⟩
  | [a, b] =>
    intro hr bs
    obtain ⟨xs, x1, x2, x3, x4, x5⟩ := tail_all bs [a, b] (by simp) hr
    exact ⟨xs, _, by rw [writ_few _ (by simp)]; exact x1, x2, x3, by rw [writ_few _ (by simp)]; exact x4, by rw [writ_few _ (by simp)]; exact x5⟩
  | [a, b, c] =>
    intro hr bs
    obtain ⟨xs, x1, x2, x3, x4, x5⟩ := tail_all bs [a, b, c] (by simp) hr
    exact ⟨xs, _, by rw [writ_few _ (by simp)]; exact x1, x2, x3, by rw [writ_few _ (by simp)]; exact x4, by rw [writ_few _ (by simp)]; exact x5⟩
theorem sgn_no (k : Int) (h0 : 0 ≤ k) (h1 : k < 170) : meansB (sgn k) = false ∧ 0 ≤ sgn k ∧ sgn k < 256 := by
  rw [meansB_no]
  unfold sgn
  split
  · omega
  · split <;> omega
theorem sgn_in (x : Int) : meansB (sgn ((x.fdiv 2).fmod 170)) = false ∧ 0 ≤ sgn ((x.fdiv 2).fmod 170) ∧ sgn ((x.fdiv 2).fmod 170) < 256 := by
  refine sgn_no _ ?_ ?_
  · rw [Int.fmod_eq_emod_of_nonneg _ (by decide)]; omega
  · rw [Int.fmod_eq_emod_of_nonneg _ (by decide)]; omega
theorem putIn_sig (page : List Int) (x : Int) : (putIn page x).filter meansB = page.filter meansB := by
  unfold putIn
  split
  · rw [List.filter_append, List.filter_cons_of_neg (by rw [(sgn_in x).1]; decide), ← List.filter_append, List.take_append_drop]
  · rfl
theorem putIn_lenP (page : List Int) (x : Int) : (putIn page x).length ≤ page.length + 1 := by
  unfold putIn
  split
  · rw [List.length_append, List.length_cons, List.length_take, List.length_drop]; omega
  · omega
theorem putIn_in (page : List Int) (x : Int) (h : ∀ y ∈ page, 0 ≤ y ∧ y < 256) : ∀ y ∈ putIn page x, 0 ≤ y ∧ y < 256 := by
  unfold putIn
  split
  · intro y hy
    rcases List.mem_append.mp hy with hy | hy
    · exact h y (List.mem_of_mem_take hy)
    · rcases List.mem_cons.mp hy with rfl | hy
      · exact (sgn_in x).2
      · exact h y (List.mem_of_mem_drop hy)
  · exact h
theorem pageOf_sig (ns : List Int) : ∀ page, (pageOf page ns).filter meansB = page.filter meansB := by
  induction ns with
  | nil => intro page; rfl
  | cons x ns ih => intro page; exact (ih (putIn page x)).trans (putIn_sig page x)
theorem pageOf_lenP (ns : List Int) : ∀ page, (pageOf page ns).length ≤ page.length + ns.length := by
  induction ns with
  | nil => intro page; exact Nat.le_refl _
  | cons x ns ih =>
    intro page
    have h1 : (pageOf (putIn page x) ns).length ≤ (putIn page x).length + ns.length := ih (putIn page x)
    have h2 := putIn_lenP page x
    show (pageOf (putIn page x) ns).length ≤ _
    rw [List.length_cons]
    omega
theorem pageOf_in (ns : List Int) : ∀ page, (∀ y ∈ page, 0 ≤ y ∧ y < 256) → ∀ y ∈ pageOf page ns, 0 ≤ y ∧ y < 256 := by
  induction ns with
  | nil => intro page h; exact h
  | cons x ns ih => intro page h; exact ih (putIn page x) (putIn_in page x h)
theorem means_in {y : Int} (h : meansB y = true) : 0 ≤ y ∧ y < 256 := by
  have := meansB_iff.mp h
  omega
/-- the page: what it gives -/
theorem page_all (row ns : List Int) (hr : ∀ y ∈ row, 0 ≤ y ∧ y < 256) :
    DGood (pageOf (writ row) ns ++ [117, 117, 117, 117]) ∧ doutI (pageOf (writ row) ns ++ [117, 117, 117, 117]) = row ∧ (∀ y ∈ pageOf (writ row) ns, 0 ≤ y ∧ y < 256) := by
  obtain ⟨xs, r, W⟩ := writ_all row hr []
  have e : (pageOf (writ row) ns ++ [117, 117, 117, 117]).filter meansB = writ row ++ [117, 117, 117, 117] := by
    rw [List.filter_append, pageOf_sig, List.filter_eq_self.mpr W.means]
    rfl
  refine ⟨?_, ?_, ?_⟩
  · refine dgood_of ?_
    rw [e]
    exact W.good
  · have e2 : drun (pageOf (writ row) ns ++ [117, 117, 117, 117]) = (xs, List.replicate r 117) := by
      rw [← drun_sig, e]
      exact W.run
    unfold doutI
    rw [e2, List.length_replicate]
    exact W.out
  · exact pageOf_in ns _ fun y hy => means_in (W.means y hy)
end Mine
end
section -- Pure4w
open PySem PySem.W PyProof.Rows
set_option maxRecDepth 100000
namespace Mine
theorem mn_means (c : Int) : means_nothingB c = !meansB c := by
  unfold means_nothingB meansB
  rw [Bool.eq_iff_iff]
  simp only [decide_eq_true_eq, Bool.not_eq_true', Bool.or_eq_false_iff, Bool.and_eq_false_iff, decide_eq_false_iff_not]
  omega
/-- an octet that is due: it means nothing and is not of the kind -/
def owedB (mem : List Int) (c : Int) : Bool := means_nothingB c && !(mem.any fun x => x == c)
structure DueInv (mem pre due : List Int) : Prop where
  all : ∀ y ∈ pre, owedB mem y = true → y ∈ due
  each : ∀ i (h : i < due.length), ∃ p q, pre = p ++ due[i] :: q ∧ (∀ y ∈ p, owedB mem y = true → y ∈ due.take i) ∧ owedB mem due[i] = true ∧ due[i] ∉ due.take i
theorem any_mem (l : List Int) (c : Int) : (l.any fun x => x == c) = true ↔ c ∈ l := by
  rw [List.any_eq_true]
  constructor
  · rintro ⟨x, hx, e⟩
    rw [beq_iff_eq] at e
    exact e ▸ hx
  · exact fun h => ⟨c, h, by simp⟩
theorem dueInv_step {mem pre due : List Int} (h : DueInv mem pre due) (c : Int) : DueInv mem (pre ++ [c]) (dueIn mem due c) := by
  unfold dueIn
  have keep : ∀ i (h : i < due.length), ∃ p q, pre ++ [c] = p ++ due[i] :: q ∧ (∀ y ∈ p, owedB mem y = true → y ∈ due.take i) ∧ owedB mem due[i] = true ∧ due[i] ∉ due.take i := fun i hi => by
    obtain ⟨p, q, e, h2, h3, h4⟩ := h.each i hi
    exact ⟨p, q ++ [c], by rw [e, List.append_assoc, List.cons_append], h2, h3, h4⟩
  by_cases hc : (means_nothingB c && !(mem.any fun x => x == c) && !(due.any fun x => x == c)) = true
  · rw [if_pos hc]
    rw [Bool.and_eq_true] at hc
    have hn : c ∉ due := fun q => by
      have := (any_mem due c).mpr q
      rw [this] at hc
      exact absurd hc.2 (by decide)
    refine ⟨fun y hy hu => ?_, fun i hi => ?_⟩
    · rcases List.mem_append.mp hy with hy | hy
      · exact List.mem_append_left _ (h.all y hy hu)
      · exact List.mem_append_right _ hy
    · by_cases hlt : i < due.length
      · obtain ⟨p, q, e, h2, h3, h4⟩ := keep i hlt
        have e1 : (due ++ [c])[i] = due[i] := List.getElem_append_left hlt
        have e2 : (due ++ [c]).take i = due.take i := List.take_append_of_le_length (by omega)
        rw [e1, e2]
        exact ⟨p, q, e, h2, h3, h4⟩
      · rw [List.length_append, List.length_singleton] at hi
        obtain rfl : i = due.length := by omega
        have e1 : (due ++ [c])[due.length] = c := by simp
        have e2 : (due ++ [c]).take due.length = due := by simp
        rw [e1, e2]
        exact ⟨pre, [], rfl, h.all, hc.1, hn⟩
  · rw [if_neg hc]
    refine ⟨fun y hy hu => ?_, keep⟩
    rcases List.mem_append.mp hy with hy | hy
    · exact h.all y hy hu
    · obtain rfl := List.mem_singleton.mp hy
      refine (any_mem due y).mp ?_
      unfold owedB at hu
      rw [hu, Bool.true_and] at hc
      simpa using hc
theorem dueInv_all (mem page : List Int) : ∀ pre due, DueInv mem pre due → DueInv mem (pre ++ page) (page.foldl (dueIn mem) due) := by
  induction page with
  | nil => intro pre due h; rw [List.append_nil]; exact h
  | cons c page ih =>
    intro pre due h
    have := ih (pre ++ [c]) _ (dueInv_step h c)
    rw [List.append_assoc] at this
    exact this
theorem dueInv_of (mem page : List Int) : DueInv mem page (dueOf mem page) :=
  dueInv_all mem page [] [] ⟨fun y h => absurd h List.not_mem_nil, fun i h => absurd h (Nat.not_lt_zero _)⟩
theorem first_same {P : Int → Prop} : ∀ {p p' q q' : List Int} {x x' : Int}, p ++ x :: q = p' ++ x' :: q' → (∀ y ∈ p, P y) → (∀ y ∈ p', P y) → ¬ P x → ¬ P x' → x = x'
  | [], [], _, _, _, _, e, _, _, _, _ => (List.cons.inj e).1
  | [], y :: p', _, _, x, _, e, _, h, n, _ => by
    obtain ⟨rfl, _⟩ := List.cons.inj e
    exact absurd (h _ (List.mem_cons_self ..)) n
  | y :: p, [], _, _, _, x', e, h, _, _, n => by
    obtain ⟨rfl, _⟩ := List.cons.inj e
    exact absurd (h _ (List.mem_cons_self ..)) n
  | y :: p, y' :: p', _, _, _, _, e, h, h', n, n' =>
    first_same (List.cons.inj e).2 (fun z hz => h z (List.mem_cons_of_mem _ hz)) (fun z hz => h' z (List.mem_cons_of_mem _ hz)) n n'
section
variable {mem page : List Int} {kind : Int → Bool}
/-- what the tale says at its i-th place -/
theorem told_at (hk : ∀ c ∈ page, means_nothingB c = true → kind c = (mem.any fun x => x == c)) (i : Nat) (c : Int) (hc : c ∈ page) :
    (meansB c = true ∨ (page.filter kind ++ (dueOf mem page).take i).contains c = true) ↔ (owedB mem c = true → c ∈ (dueOf mem page).take i) := by
  unfold owedB
  rw [mn_means, List.contains_iff_mem, List.mem_append, List.mem_filter]
  cases hm : meansB c with
  | true => simp
  | false =>
    have hkc := hk c hc (by rw [mn_means, hm]; rfl)
    rw [hkc]
    cases hq : (mem.any fun x => x == c) with
    | true => simp [hc]
    | false => simp
theorem told_early (hk : ∀ c ∈ page, means_nothingB c = true → kind c = (mem.any fun x => x == c)) {i : Nat} (hi : i < (dueOf mem page).length) {v : Value}
    (h : ToldOut page (page.filter kind ++ (dueOf mem page).take i) v) : ∃ u, v = .str (foundC (dueOf mem page)[i]) u := by
  obtain ⟨p, q, e, h2, h3, h4⟩ := (dueInv_of mem page).each i hi
  have hmem : ∀ d, page = p ++ d :: q → d ∈ page := fun d e => by rw [e]; simp
  have hin : (dueOf mem page)[i] ∈ page := hmem _ e
  have hno : ¬ (meansB (dueOf mem page)[i] = true ∨ (page.filter kind ++ (dueOf mem page).take i).contains (dueOf mem page)[i] = true) := fun z => h4 ((told_at hk i _ hin).mp z h3)
  rcases h with ⟨r, u, _, _, hall⟩ | ⟨x, pre, post, u, e', t1, t2, t3, rfl⟩
  · exact absurd (hall _ hin) hno
  · refine ⟨u, ?_⟩
    have hsame := first_same (P := fun c => meansB c = true ∨ (page.filter kind ++ (dueOf mem page).take i).contains c = true) (e.symm.trans e')
      (fun y hy => (told_at hk i y (by rw [e]; exact List.mem_append_left _ hy)).mpr (h2 y hy)) t1 hno (fun z => z.elim (by rw [t2]; exact fun w => nomatch w) (by rw [t3]; exact fun w => nomatch w))
    rw [hsame]
theorem told_last (hk : ∀ c ∈ page, means_nothingB c = true → kind c = (mem.any fun x => x == c)) {v : Value}
    (h : ToldOut page (page.filter kind ++ (dueOf mem page).take (dueOf mem page).length) v) : ∃ r u, v = .bytes r u ∧ KBw.bInts r = doutI (page ++ [117, 117, 117, 117]) := by
  rcases h with ⟨r, u, h1, h2, _⟩ | ⟨x, pre, post, u, e', t1, t2, t3, rfl⟩
  · exact ⟨r, u, h1, h2⟩
  · have hin : x ∈ page := by rw [e']; simp
    have := (told_at hk (dueOf mem page).length x hin).mpr fun hu => by rw [List.take_length]; exact (dueInv_of mem page).all x hin hu
    rw [t2, t3] at this
    exact absurd this (by decide)
end
inductive FoundAre : List Value → List Int → Prop
  | nil : FoundAre [] []
  | cons (x : Int) (t : Tok) {vs xs} : FoundAre vs xs → FoundAre (.str (foundC x) t :: vs) (x :: xs)
theorem found_snoc {vs xs} (h : FoundAre vs xs) (x : Int) (t : Tok) : FoundAre (vs ++ [.str (foundC x) t]) (xs ++ [x]) := by
  induction h with
  | nil => exact .cons x t .nil
  | cons y u _ ih => exact .cons y u ih
theorem tales_found {mem page : List Int} {kind : Int → Bool} (hk : ∀ c ∈ page, means_nothingB c = true → kind c = (mem.any fun x => x == c)) {i : Nat} {ys : List Value}
    (h : Tales page (page.filter kind) (dueOf mem page) i ys) : i ≤ (dueOf mem page).length → FoundAre ys ((dueOf mem page).take i) := by
  induction h with
  | nil => intro _; exact .nil
  | @snoc i ys v _ hv ih =>
    intro hi
    obtain ⟨u, rfl⟩ := told_early hk (by omega) hv
    have := found_snoc (ih (by omega)) (dueOf mem page)[i] u
    rwa [List.take_append_getElem] at this
theorem tales_out {mem page : List Int} {kind : Int → Bool} (hk : ∀ c ∈ page, means_nothingB c = true → kind c = (mem.any fun x => x == c)) {ys : List Value}
    (h : Tales page (page.filter kind) (dueOf mem page) ((dueOf mem page).length + 1) ys) : ∃ vs r u, ys = vs ++ [.bytes r u] ∧ FoundAre vs (dueOf mem page) ∧ KBw.bInts r = doutI (page ++ [117, 117, 117, 117]) := by
  cases h with
  | snoc h hv =>
    obtain ⟨r, u, rfl, hr⟩ := told_last hk hv
    refine ⟨_, r, u, rfl, ?_, hr⟩
    have := tales_found hk h (Nat.le_refl _)
    rwa [List.take_length] at this
/-- the default's own -/
def strangeB (c : Int) : Bool := means_nothingB c && (c == 12 || !(c == 9 || c == 10 || c == 11 || c == 12 || c == 13 || c == 32))
end Mine
end
section -- Seg10a
open PySem PySem.W PyProof.Rows PySem.Calls
set_option maxRecDepth 100000
set_option maxHeartbeats 4000000
namespace Mine
local macro_rules | `(tactic| walk_at "callWith") => `(tactic| ((with_reducible show wpAny _ _ (callWith _ (Value.builtin _) (_ :: _) _ _) _ _ _); refine callWith_method1 ?_))
def ifTest : Stmt → PySem.Expr
  | .If t _ _ _ => t
  | _ => default
def cmpOne : PySem.Expr → PySem.Expr
  | .Compare _ _ [e] _ => e
  | _ => default
def binLeft : PySem.Expr → PySem.Expr
  | .BinOp l _ _ _ => l
  | _ => default
def wantComp : PySem.Expr := binLeft (cmpOne (ifTest (stmtAt lawBody 10)))
abbrev wantCl (L : Addr) : List (Str × Addr) := [(Str.ofString "words", L + 1 + 1 + 1 + 1 + 1)]
theorem want_turn (w : World) (mg mb : Str → Option Value) (mean : ExcName → Option Value) (h₀ : Heap) (L a : Addr) (cd : Value) (m : Str → Option Value) (s : Shared) (us ys : List Value) (S : List (Addr × Obj) → Prop) (Fin : List Value → List (Addr × Obj) → Prop) (V U A M P R D : Addr) (oV oUl oA oM oPl oR oD oW oU oS oK oP : Obj) (k i : Nat) (c : Int) (t tw : Tok)
    (X : (hd.heap_39 w.params).In h₀) (T : TopM mean mg mb h₀) (hoW : oW.data = .cell (some (.str wordsS tw))) (hS : S [(V, oV), (U, oUl), (A, oA), (M, oM), (P, oPl), (R, oR), (D, oD), (L + 1 + 1 + 1 + 1 + 1, oW), (L + 1 + 1 + 1 + 1, oU), (L + 1 + 1 + 1, oS), (L + 1 + 1, oK), (L + 1, oP)]) (h0 : 0 ≤ c) (h1 : c < 256) (hv : ∀ v, us.toArray[i]? = some v → v = .int c t)
    (ih : ∀ u, LCg.CompRest PRG w (lawA L a cd) h₀ L m (lawEnv L a cd) (compElt wantComp) (Str.ofString "c") (compScope wantComp) (wantCl L) s S (fun i v => us.toArray[i]? = some v) Fin k (i + 1) (ys ++ [.str (foundC c) u]) [(V, oV), (U, oUl), (A, oA), (M, oM), (P, oPl), (R, oR), (D, oD), (L + 1 + 1 + 1 + 1 + 1, oW), (L + 1 + 1 + 1 + 1, oU), (L + 1 + 1 + 1, oS), (L + 1 + 1, oK), (L + 1, oP)]) :
    LCg.CompRest PRG w (lawA L a cd) h₀ L m (lawEnv L a cd) (compElt wantComp) (Str.ofString "c") (compScope wantComp) (wantCl L) s S (fun i v => us.toArray[i]? = some v) Fin (k + 1) i ys [(V, oV), (U, oUl), (A, oA), (M, oM), (P, oPl), (R, oR), (D, oD), (L + 1 + 1 + 1 + 1 + 1, oW), (L + 1 + 1 + 1 + 1, oU), (L + 1 + 1 + 1, oS), (L + 1 + 1, oK), (L + 1, oP)] := by
  refine LCg.CompRest.succ ?_
  intro v I' oI' C' oC' D' m' h' tk' E' hv' hC' hx' F' N' off' ne'
  obtain rfl := hv v hv'
  dsimp only [lawEnv, lawBody, lawScope, lawDef, stmtAt, defBody, defScope, wantComp, binLeft, cmpOne, ifTest, compElt, compScope, PySem.Challenge.pw_kq0072_01, PRG, lawA, wantCl] at ih ⊢
  revert X
  k_fill
  intro X
  k_steps
  rename Fr _ _ _ _ => hF
  rename News _ _ _ _ => hN
  exact LCg.CompEnd.intro hF hN _ (fun p h => h) off' hS (ih _)
theorem want_turns (w : World) (mg mb : Str → Option Value) (mean : ExcName → Option Value) (h₀ : Heap) (L a : Addr) (cd : Value) (m : Str → Option Value) (s : Shared) (us : List Value) (due : List Int) (S : List (Addr × Obj) → Prop) (Fin : List Value → List (Addr × Obj) → Prop) (V U A M P R D : Addr) (oV oUl oA oM oPl oR oD oW oU oS oK oP : Obj) (tw : Tok)
    (X : (hd.heap_39 w.params).In h₀) (T : TopM mean mg mb h₀) (hoW : oW.data = .cell (some (.str wordsS tw))) (hS : S [(V, oV), (U, oUl), (A, oA), (M, oM), (P, oPl), (R, oR), (D, oD), (L + 1 + 1 + 1 + 1 + 1, oW), (L + 1 + 1 + 1 + 1, oU), (L + 1 + 1 + 1, oS), (L + 1 + 1, oK), (L + 1, oP)]) (hI : IntsAre us due) (hdue : KBa.In due)
    (hfin : ∀ ys, FoundAre ys due → Fin ys [(V, oV), (U, oUl), (A, oA), (M, oM), (P, oPl), (R, oR), (D, oD), (L + 1 + 1 + 1 + 1 + 1, oW), (L + 1 + 1 + 1 + 1, oU), (L + 1 + 1 + 1, oS), (L + 1 + 1, oK), (L + 1, oP)]) :
    ∀ k i ys, i + k = us.length → FoundAre ys (due.take i) →
    LCg.CompRest PRG w (lawA L a cd) h₀ L m (lawEnv L a cd) (compElt wantComp) (Str.ofString "c") (compScope wantComp) (wantCl L) s S (fun i v => us.toArray[i]? = some v) Fin k i ys [(V, oV), (U, oUl), (A, oA), (M, oM), (P, oPl), (R, oR), (D, oD), (L + 1 + 1 + 1 + 1 + 1, oW), (L + 1 + 1 + 1 + 1, oU), (L + 1 + 1 + 1, oS), (L + 1 + 1, oK), (L + 1, oP)] := by
  intro k
  induction k with
  | zero =>
    intro i ys hi hy
    refine LCg.CompRest.zero (hfin ys ?_)
    have : due.length ≤ i := by rw [← intsAre_len hI, ← hi]; exact Nat.le_refl _
    rwa [List.take_of_length_le this] at hy
  | succ k ih =>
    intro i ys hi hy
    have hlt : i < us.length := by omega
    obtain ⟨c, t, hv, hc⟩ := ints_at hI (List.getElem?_eq_getElem hlt)
    have hcm := hdue c (List.mem_of_getElem? hc)
    have hv2 : ∀ v, us.toArray[i]? = some v → v = .int c t := fun v e => by
      rw [List.getElem?_toArray, List.getElem?_eq_getElem hlt] at e
      rw [← Option.some.inj e, hv]
    exact want_turn w mg mb mean h₀ L a cd m s us ys S Fin V U A M P R D oV oUl oA oM oPl oR oD oW oU oS oK oP k i c t tw X T hoW hS hcm.1 hcm.2 hv2 fun u => ih (i + 1) _ (by omega) (by rw [take_snoc hc]; exact found_snoc hy c u)
end Mine
end
section -- SegNe
open PySem PySem.W PyProof.Rows PySem.Calls
set_option maxRecDepth 100000
namespace Mine
section
variable {A : Around} {s : Shared}
theorem eqAt_bytes (b c : Array UInt8) (t u : Tok) : SeqAt.EqAt A s (.bytes b t) (.bytes c u) (b.toList == c.toList) := fun prog w E Q h => by
  unfold eqBool
  refine wpAny_holding ?_
  refine wpAny_ite_split (fun hab => ?_) (fun _ => ?_)
  · have e : Value.bytes b t = Value.bytes c u := eq_of_beq hab
    injection e with e1 _
    subst e1
    exact wpAny_bind (wpAny_rule (wpAny_pure (by simpa using h)))
  · exact wpAny_bind (richCompare_gives (op := .Eq) (T := "bytes") rfl rfl FB.slot_bytes_eq FB.entry_bytes_eq (FB.args_bytes_eq_2 _ _) (gives_bytes_eq b c t u) (fun x => nomatch x) (wpAny_truthy_bool h))
theorem ints_inj {b c : Array UInt8} (h : KBw.bInts b = KBw.bInts c) : b = c := by
  apply Array.ext'
  unfold KBw.bInts at h
  exact List.map_inj_right (fun x y e => UInt8.toNat_inj.mp (Int.ofNat.inj e)) |>.mp h
theorem eqs_found {vs ys : List Value} {xs : List Int} {b c : Array UInt8} {t u : Tok} (hv : FoundAre vs xs) : FoundAre ys xs → b = c →
    (vs ++ [Value.bytes b t]).length = (ys ++ [Value.bytes c u]).length ∧ ∀ j (h1 : j < (vs ++ [Value.bytes b t]).length) (h2 : j < (ys ++ [Value.bytes c u]).length), SeqAt.EqAt A s (vs ++ [Value.bytes b t])[j] (ys ++ [Value.bytes c u])[j] true := by
  induction hv generalizing ys with
  | nil =>
    intro hy e
    cases hy
    refine ⟨rfl, fun j h1 h2 => ?_⟩
    have : j = 0 := by
      have : j < 1 := h1
      omega
    subst this
    have := eqAt_bytes (A := A) (s := s) b c t u
    rw [e] at this ⊢
    rw [beq_self_eq_true] at this
    exact this
  | @cons x t1 vs xs hv ih =>
    intro hy e
    cases hy with
    | cons _ t2 hy =>
      obtain ⟨hl, h⟩ := ih hy e
      refine ⟨by rw [List.cons_append, List.cons_append, List.length_cons, List.length_cons, hl], fun j h1 h2 => ?_⟩
      cases j with
      | zero =>
        have := SeqAt.EqAt.str_str (A := A) (s := s) (foundC x) t1 (foundC x) t2
        rw [beq_self_eq_true] at this
        exact this
      | succ j => exact h j (Nat.lt_of_succ_lt_succ h1) (Nat.lt_of_succ_lt_succ h2)
theorem ne_found {prog : Program} {w : World} {E : Value → Shared → Prop} {Q : Value → Shared → Prop} {a d : Addr} {vs ys : List Value} {xs row : List Int} {b c : Array UInt8} {t u : Tok} (ha : s.heap.IsList a (vs ++ [Value.bytes b t]).toArray) (hd : s.heap.IsList d (ys ++ [Value.bytes c u]).toArray)
    (hv : FoundAre vs xs) (hy : FoundAre ys xs) (hb : KBw.bInts b = row) (hc : KBw.bInts c = row) (hu : A.units < cLine) (h : Q (.bool false) s) : wpAny (model prog w) A (compareOp .NotEq (.ref a) (.ref d)) Q E s := by
  obtain ⟨hl, he⟩ := eqs_found (A := A.in1) (s := s) (t := t) (u := u) hv hy (ints_inj (hb.trans hc.symm))
  refine SeqAt.RcNeAt.lists (e := fun _ => true) ha hd (by rw [List.size_toArray, List.size_toArray]; exact hl) hu (fun j h1 h2 => ?_) prog w E Q ?_
  · rw [List.getElem_toArray, List.getElem_toArray]
    exact he j _ _
  · have e : (List.range (vs ++ [Value.bytes b t]).toArray.size).all (fun _ => true) = true := by simp
    rw [e]
    exact h
end
end Mine
end
section -- Seg10
open PySem PySem.W PyProof.Rows PySem.Calls
set_option maxRecDepth 100000
set_option maxHeartbeats 4000000
namespace Mine
local macro_rules | `(tactic| walk_at "callWith") => `(tactic| ((with_reducible show wpAny _ _ (callWith _ (Value.builtin _) (_ :: _) _ _) _ _ _); refine callWith_method1 ?_))
local macro_rules | `(tactic| walk_at "eval ListComp") => `(tactic| (k_here; k_dflt (refine LCg.ListComp_U (F₀ := by k_asm) (by with_unfolding_all rfl) (by decide) (by rfl) (by decide) (by rfl) ?_)))
local macro_rules | `(tactic| walk_at "CompSrc") => `(tactic| (k_here; refine HoldOn.go ?_))
local macro_rules | `(tactic| walk_at "call type:bytes") => `(tactic| (k_here; (with_reducible show wpAny _ _ (call (Value.type "bytes") [Value.ref _]) _ _ _); k_dflt (refine' KBa.make_K ?F ?N ?h ?l ?i ?r ?n ?_; (case F => k_asm); (case N => k_asm); (case h => rfl); (case l => exact News.isList (by k_asm) (by k_mem)); (case i => assumption); (case r => assumption); (case n => (try simp only [List.length_append]); omega); k_whole); intro h' t' k' F' N' i'))
local macro_rules | `(tactic| walk_at "binaryOp Add ref ref") => `(tactic| (k_here; (with_reducible show wpAny _ _ (binaryOp _ (Value.ref _) (Value.ref _)) _ _ _); k_dflt (refine' add_lists ?F ?N ?a ?b ?_ ?z; (case F => k_asm); (case N => k_asm); (case a => exact News.isList (by k_asm) (by k_mem)); (case b => exact News.isList (by k_asm) (by k_mem)); (case z => (simp only [sizeLine_eq, List.length_cons, List.length_nil]; omega)); k_whole); intro h' F' N'))
local macro_rules | `(tactic| walk_at "compareOp NotEq ref ref") => `(tactic| (k_here; refine HoldOn.go ?_))
theorem found_len {vs : List Value} {xs : List Int} (h : FoundAre vs xs) : vs.length = xs.length := by
  induction h with
  | nil => rfl
  | cons _ _ _ ih => rw [List.length_cons, List.length_cons, ih]
theorem seg10 (w : World) (mg mb : Str → Option Value) (mean : ExcName → Option Value) (h₀ : Heap) (L a : Addr) (cd : Value) (s : Shared) (Q : Flow → Shared → Prop) (E₂ : Value → Shared → Prop) (mo : Str → Option Value) (V R D P M A U : Addr) (oUl oA oM oPl oD oP oK oS oU oW : Obj) (vs us rs : List Value) (row due : List Int) (r : Array UInt8) (ur tw : Tok) (kv ku kr : Nat) (mc mx mk : Option Value) (rest : List Stmt)
    (X : (hd.heap_39 w.params).In h₀) (T : TopM mean mg mb h₀) (hoW : oW.data = .cell (some (.str wordsS tw))) (hoU : oU.data = .cell (some (.ref U)))
    (hIu : IntsAre us due) (hdue : KBa.In due) (hul : due.length ≤ 200) (hIr : IntsAre rs row) (hrow : KBa.In row) (hrl : row.length ≤ 200) (hvs : FoundAre vs due) (hr : KBw.bInts r = row)
    (F : Fr h₀ L s.heap (lawMap9 R D M V mc mx mk mo)) (N : News h₀ L s.heap [(V, listOf (vs ++ [Value.bytes r ur]).toArray kv), (U, listOf us.toArray ku), (A, oA), (M, oM), (P, oPl), (R, listOf rs.toArray kr), (D, oD), (L + 1 + 1 + 1 + 1 + 1, oW), (L + 1 + 1 + 1 + 1, oU), (L + 1 + 1 + 1, oS), (L + 1 + 1, oK), (L + 1, oP)])
    (hc : ∀ h' tk, Fr h₀ L h' (lawMap9 R D M V mc mx mk mo) →
      News h₀ L h' [(V, listOf (vs ++ [Value.bytes r ur]).toArray kv), (U, listOf us.toArray ku), (A, oA), (M, oM), (P, oPl), (R, listOf rs.toArray kr), (D, oD), (L + 1 + 1 + 1 + 1 + 1, oW), (L + 1 + 1 + 1 + 1, oU), (L + 1 + 1 + 1, oS), (L + 1 + 1, oK), (L + 1, oP)] →
      wpAny (model PySem.Challenge.rw_kq0072_01.row.prog w) (lawA L a cd) (execs rest (lawEnv L a cd)) Q (LE w L a cd E₂) { s with heap := h', toks := tk }) :
    wpAny (model PySem.Challenge.rw_kq0072_01.row.prog w) (lawA L a cd) (execs (stmtAt lawBody 10 :: rest) (lawEnv L a cd)) Q (LE w L a cd E₂) s := by
  have pt := @want_turns w mg mb mean h₀ L a cd
  dsimp only [LE, lawA, lawEnv, lawBody, lawScope, lawDef, stmtAt, defBody, defScope, PySem.Challenge.pw_kq0072_01, wantComp, binLeft, cmpOne, ifTest, compElt, compScope, PRG, wantCl] at F pt hc ⊢
  revert X
  k_fill
  intro X
  k_steps
  refine HoldOn.mk ?_
  refine LCg.CompSrc.ledger rfl F N (List.mem_cons_of_mem _ (List.mem_cons_self ..)) (by rw [List.size_toArray, intsAre_len hIu, sizeLine_eq]; omega) ?_
  intro g'
  refine pt _ _ us due _ _ V U A M P R D _ _ _ _ _ _ _ oW oU oS oK oP tw X T hoW ?hS hIu hdue ?fin _ 0 [] (Nat.zero_add _) .nil
  case hS => exact .inr ⟨_, List.mem_cons_of_mem _ (List.mem_cons_self ..), rfl, _, rfl⟩
  case fin =>
    intro ys hys
    unfold LCg.FinE
    intro W h2 tk2 F2 N2 o1
    clear F N
    revert X
    k_fill
    intro X
    have hyl : ys.length ≤ 200 := by rw [found_len hys]; exact hul
    k_steps
    refine HoldOn.mk ?_
    rename News _ _ _ _ => hN
    rename Fr _ _ _ _ => hF
    have ha := (hN _ (List.mem_cons_of_mem _ (List.mem_cons_of_mem _ (List.mem_cons_of_mem _ (List.mem_cons_self ..))))).1
    have hd := (hN _ (List.mem_cons_self ..)).1
    refine ne_found (vs := vs) (ys := ys) (b := r) (t := ur) ⟨_, ha, rfl, _, rfl⟩ ⟨_, hd, rfl, _, rfl⟩ hvs hys hr (KBa.ints_make hrow) (Nat.le_of_ble_eq_true rfl) ?_
    clear ha hd
    k_steps
    exact hc _ _ hF (fun p hp => hN p (List.mem_cons_of_mem _ (List.mem_cons_of_mem _ (List.mem_cons_of_mem _ hp))))
end Mine
end
section -- Seg11a
open PySem PySem.W PyProof.Rows PySem.Calls
set_option maxRecDepth 100000
set_option maxHeartbeats 4000000
namespace Mine
local macro_rules | `(tactic| walk_at "callWith") => `(tactic| ((with_reducible show wpAny _ _ (callWith _ (Value.builtin _) (_ :: _) _ _) _ _ _); refine callWith_method1 ?_))
def strangeC : Int → Bool := fun c => means_nothingB c && (c == 12 || !isspaceB c)
local macro_rules | `(tactic| walk_at "call ref") => `(tactic| (k_here; (with_reducible show wpAny _ _ (call (Value.ref 142) [Value.int _ _] _) _ _ _); k_dflt (refine' call_isspace _ _ _ _ _ _ _ _ _ _ _ _ _ _ ?k1 ?k2 ?k3 ?k4 ?k5 ?_; (case k1 => k_asm); (case k2 => k_asm); (case k3 => k_asm); (case k4 => assumption); (case k5 => assumption); k_whole); intro h' tk' F' keep'; (rename News _ _ _ _ => N0'); have N1' := News.grown N0' keep'))
local macro_rules | `(tactic| walk_at "call ref") => `(tactic| (k_here; (with_reducible show wpAny _ _ (call (Value.ref 189) [Value.int _ _] _) _ _ _); k_dflt (refine' call_means_nothing _ _ _ _ _ _ _ _ _ _ _ _ _ _ ?k1 ?k2 ?k3 ?k4 ?k5 ?_; (case k1 => k_asm); (case k2 => k_asm); (case k3 => k_asm); (case k4 => assumption); (case k5 => assumption); k_whole); intro h' tk' F' keep'; (rename News _ _ _ _ => N0'); have N1' := News.grown N0' keep'))
theorem strange_y1 {c : Int} (h1 : means_nothingB c = true) (h2 : c = 12) : strangeC c = true := by
  unfold strangeC; rw [h1, h2]; rfl
theorem strange_n {c : Int} (h2 : c ≠ 12) (h3 : isspaceB c = true) : ¬ strangeC c = true := by
  unfold strangeC; rw [h3]; simp [h2]
theorem strange_y2 {c : Int} (h1 : means_nothingB c = true) (h3 : isspaceB c = false) : strangeC c = true := by
  unfold strangeC; rw [h1, h3]; simp
theorem strange_n2 {c : Int} (h1 : means_nothingB c = false) : ¬ strangeC c = true := by
  unfold strangeC; rw [h1]; simp
theorem strange_turn (w : World) (mg mb : Str → Option Value) (mean : ExcName → Option Value) (h₀ : Heap) (L a : Addr) (cd : Value) (m : Str → Option Value) (s : Shared) (ps ys : List Value) (S : List (Addr × Obj) → Prop) (Fin : List Value → List (Addr × Obj) → Prop) (V U A M P R D : Addr) (oV oUl oA oM oPl oR oD oW oU oS oK oP : Obj) (k i : Nat) (c : Int) (t : Tok)
    (X : (hd.heap_39 w.params).In h₀) (T : TopM mean mg mb h₀) (hS : S [(V, oV), (U, oUl), (A, oA), (M, oM), (P, oPl), (R, oR), (D, oD), (L + 1 + 1 + 1 + 1 + 1, oW), (L + 1 + 1 + 1 + 1, oU), (L + 1 + 1 + 1, oS), (L + 1 + 1, oK), (L + 1, oP)]) (h0 : 0 ≤ c) (h1 : c < 256) (hv : ∀ v, ps.toArray[i]? = some v → v = .int c t)
    (ih : LCt.CompRestT PRG w (lawA L a cd) h₀ L m (lawEnv L a cd) (compTest (asgVal (stmtAt lawBody 11))) (compElt (asgVal (stmtAt lawBody 11))) (Str.ofString "c") (compScope (asgVal (stmtAt lawBody 11))) [] s S (fun i v => ps.toArray[i]? = some v) Fin k (i + 1) (if strangeC c = true then ys ++ [.int c t] else ys) [(V, oV), (U, oUl), (A, oA), (M, oM), (P, oPl), (R, oR), (D, oD), (L + 1 + 1 + 1 + 1 + 1, oW), (L + 1 + 1 + 1 + 1, oU), (L + 1 + 1 + 1, oS), (L + 1 + 1, oK), (L + 1, oP)]) :
    LCt.CompRestT PRG w (lawA L a cd) h₀ L m (lawEnv L a cd) (compTest (asgVal (stmtAt lawBody 11))) (compElt (asgVal (stmtAt lawBody 11))) (Str.ofString "c") (compScope (asgVal (stmtAt lawBody 11))) [] s S (fun i v => ps.toArray[i]? = some v) Fin (k + 1) i ys [(V, oV), (U, oUl), (A, oA), (M, oM), (P, oPl), (R, oR), (D, oD), (L + 1 + 1 + 1 + 1 + 1, oW), (L + 1 + 1 + 1 + 1, oU), (L + 1 + 1 + 1, oS), (L + 1 + 1, oK), (L + 1, oP)] := by
  refine LCt.CompRestT.succ ?_
  intro v I' oI' C' oC' D' m' h' tk' E' hv' hC' hx' F' N' off' ne'
  obtain rfl := hv v hv'
  dsimp only [lawEnv, lawBody, lawScope, lawDef, stmtAt, defBody, defScope, asgVal, compTest, compElt, compIfs, compScope, PySem.Challenge.pw_kq0072_01, PRG, lawA] at ih ⊢
  revert X
  k_fill
  intro X
  k_steps
  all_goals (rename Fr _ _ _ _ => hF; rename News _ _ _ _ => hN; refine LCg.CompEnd.intro hF hN _ (fun p h => h) off' hS ?_)
  all_goals first
    | (rw [if_pos (strange_y1 (by assumption) (by assumption))] at ih; exact ih)
    | (rw [if_neg (strange_n (by assumption) (by assumption))] at ih; exact ih)
    | (rw [if_pos (strange_y2 (by assumption) (by assumption))] at ih; exact ih)
    | (rw [if_neg (strange_n2 (by assumption))] at ih; exact ih)
theorem strange_turns (w : World) (mg mb : Str → Option Value) (mean : ExcName → Option Value) (h₀ : Heap) (L a : Addr) (cd : Value) (m : Str → Option Value) (s : Shared) (ps : List Value) (page : List Int) (S : List (Addr × Obj) → Prop) (Fin : List Value → List (Addr × Obj) → Prop) (V U A M P R D : Addr) (oV oUl oA oM oPl oR oD oW oU oS oK oP : Obj)
    (X : (hd.heap_39 w.params).In h₀) (T : TopM mean mg mb h₀) (hS : S [(V, oV), (U, oUl), (A, oA), (M, oM), (P, oPl), (R, oR), (D, oD), (L + 1 + 1 + 1 + 1 + 1, oW), (L + 1 + 1 + 1 + 1, oU), (L + 1 + 1 + 1, oS), (L + 1 + 1, oK), (L + 1, oP)]) (hI : IntsAre ps page) (hpage : KBa.In page)
    (hfin : ∀ ys, IntsAre ys (page.filter strangeC) → Fin ys [(V, oV), (U, oUl), (A, oA), (M, oM), (P, oPl), (R, oR), (D, oD), (L + 1 + 1 + 1 + 1 + 1, oW), (L + 1 + 1 + 1 + 1, oU), (L + 1 + 1 + 1, oS), (L + 1 + 1, oK), (L + 1, oP)]) :
    ∀ k i ys, i + k = ps.length → IntsAre ys ((page.take i).filter strangeC) →
    LCt.CompRestT PRG w (lawA L a cd) h₀ L m (lawEnv L a cd) (compTest (asgVal (stmtAt lawBody 11))) (compElt (asgVal (stmtAt lawBody 11))) (Str.ofString "c") (compScope (asgVal (stmtAt lawBody 11))) [] s S (fun i v => ps.toArray[i]? = some v) Fin k i ys [(V, oV), (U, oUl), (A, oA), (M, oM), (P, oPl), (R, oR), (D, oD), (L + 1 + 1 + 1 + 1 + 1, oW), (L + 1 + 1 + 1 + 1, oU), (L + 1 + 1 + 1, oS), (L + 1 + 1, oK), (L + 1, oP)] := by
  intro k
  induction k with
  | zero =>
    intro i ys hi hy
    refine LCt.CompRestT.zero (hfin ys ?_)
    have : page.length ≤ i := by rw [← intsAre_len hI, ← hi]; exact Nat.le_refl _
    rwa [List.take_of_length_le this] at hy
  | succ k ih =>
    intro i ys hi hy
    have hlt : i < ps.length := by omega
    obtain ⟨c, t, hv, hc⟩ := ints_at hI (List.getElem?_eq_getElem hlt)
    have hcm := hpage c (List.mem_of_getElem? hc)
    have hv2 : ∀ v, ps.toArray[i]? = some v → v = .int c t := fun v e => by
      rw [List.getElem?_toArray, List.getElem?_eq_getElem hlt] at e
      rw [← Option.some.inj e, hv]
    exact strange_turn w mg mb mean h₀ L a cd m s ps ys S Fin V U A M P R D oV oUl oA oM oPl oR oD oW oU oS oK oP k i c t X T hS hcm.1 hcm.2 hv2 (ih (i + 1) _ (by omega) (by
      rw [take_snoc hc, List.filter_append]
      by_cases hb : strangeC c = true
      · rw [if_pos hb, List.filter_cons_of_pos hb]; exact ints_snoc hy
      · rw [if_neg hb, List.filter_cons_of_neg hb]; simpa using hy))
end Mine
end
section -- Seg11
open PySem PySem.W PyProof.Rows PySem.Calls
set_option maxRecDepth 100000
set_option maxHeartbeats 4000000
namespace Mine
local macro_rules | `(tactic| walk_at "no such node 0") => `(tactic| fail)
local macro_rules | `(tactic| walk_at "callWith") => `(tactic| ((with_reducible show wpAny _ _ (callWith _ (Value.builtin _) (_ :: _) _ _) _ _ _); refine callWith_method1 ?_))
local macro_rules | `(tactic| walk_at "exec Assign cons ListComp") => `(tactic| (k_here; k_dflt (refine LCt.Assign_ListComp_T (F₀ := by k_asm) (by rfl) (by with_unfolding_all rfl) (by with_unfolding_all rfl) (by decide) (by rfl) (by decide) (by rfl) (by rfl) (by rfl) ?_)))
local macro_rules | `(tactic| walk_at "CompSrcT") => `(tactic| (k_here; refine HoldOn.go ?_))
abbrev lawMap11 (R D M V Z : Addr) (mc mx mk : Option Value) (mo : Str → Option Value) : Str → Option Value := fun y => if y = Str.ofString "strange" then some (.ref Z) else lawMap9 R D M V mc mx mk mo y
theorem seg11 (w : World) (mg mb : Str → Option Value) (mean : ExcName → Option Value) (h₀ : Heap) (L a : Addr) (cd : Value) (s : Shared) (Q : Flow → Shared → Prop) (E₂ : Value → Shared → Prop) (mo : Str → Option Value) (V R D P M A U : Addr) (oV oUl oA oM oR oD oP oK oS oU oW : Obj) (ps : List Value) (page : List Int) (kp : Nat) (mc mx mk : Option Value) (rest : List Stmt)
    (X : (hd.heap_39 w.params).In h₀) (T : TopM mean mg mb h₀) (hoP : oP.data = .cell (some (.ref P)))
    (hI : IntsAre ps page) (hpage : KBa.In page) (hpl : page.length ≤ 200)
    (F : Fr h₀ L s.heap (lawMap9 R D M V mc mx mk mo)) (N : News h₀ L s.heap [(V, oV), (U, oUl), (A, oA), (M, oM), (P, listOf ps.toArray kp), (R, oR), (D, oD), (L + 1 + 1 + 1 + 1 + 1, oW), (L + 1 + 1 + 1 + 1, oU), (L + 1 + 1 + 1, oS), (L + 1 + 1, oK), (L + 1, oP)])
    (hc : ∀ h' tk Z zs k, IntsAre zs (page.filter strangeC) → Fr h₀ L h' (lawMap11 R D M V Z mc mx mk mo) →
      News h₀ L h' [(Z, listOf zs.toArray k), (V, oV), (U, oUl), (A, oA), (M, oM), (P, listOf ps.toArray kp), (R, oR), (D, oD), (L + 1 + 1 + 1 + 1 + 1, oW), (L + 1 + 1 + 1 + 1, oU), (L + 1 + 1 + 1, oS), (L + 1 + 1, oK), (L + 1, oP)] →
      wpAny (model PySem.Challenge.rw_kq0072_01.row.prog w) (lawA L a cd) (execs rest (lawEnv L a cd)) Q (LE w L a cd E₂) { s with heap := h', toks := tk }) :
    wpAny (model PySem.Challenge.rw_kq0072_01.row.prog w) (lawA L a cd) (execs (stmtAt lawBody 11 :: rest) (lawEnv L a cd)) Q (LE w L a cd E₂) s := by
  have pt := @strange_turns w mg mb mean h₀ L a cd
  dsimp only [LE, lawA, lawEnv, lawBody, lawScope, lawDef, stmtAt, defBody, defScope, PySem.Challenge.pw_kq0072_01, asgVal, compTest, compElt, compIfs, compScope, PRG] at F pt hc ⊢
  revert X
  k_fill
  intro X
  k_steps
  refine HoldOn.mk ?_
  refine LCt.CompSrcT.ledger rfl F N (List.mem_cons_of_mem _ (List.mem_cons_of_mem _ (List.mem_cons_of_mem _ (List.mem_cons_of_mem _ (List.mem_cons_self ..))))) (by rw [List.size_toArray, intsAre_len hI, sizeLine_eq]; omega) ?_
  intro g'
  refine pt _ _ ps page _ _ V U A M P R D _ _ _ _ _ _ _ oW oU oS oK oP X T ?hS hI hpage ?fin _ 0 [] (Nat.zero_add _) .nil
  case hS => exact .inr ⟨_, List.mem_cons_of_mem _ (List.mem_cons_of_mem _ (List.mem_cons_of_mem _ (List.mem_cons_of_mem _ (List.mem_cons_self ..)))), rfl, _, rfl⟩
  case fin =>
    intro zs hzs
    unfold LCg.FinA
    intro Z h2 tk2 F2 N2 o1
    exact hc _ _ Z zs _ hzs F2 N2
end Mine
end
section -- Seg12
open PySem PySem.W PyProof.Rows PySem.Calls
set_option maxRecDepth 100000
set_option maxHeartbeats 4000000
namespace Mine
local macro_rules | `(tactic| walk_at "callWith") => `(tactic| ((with_reducible show wpAny _ _ (callWith _ (Value.builtin _) (_ :: _) _ _) _ _ _); refine callWith_method1 ?_))
theorem strange_told (c : Int) : (meansB c = true ∨ gsD.contains c = true) ↔ ¬ strangeC c = true := by
  unfold strangeC isspaceB
  rw [mn_means, List.contains_iff_mem]
  cases hm : meansB c with
  | true => simp
  | false =>
    simp only [gsD, List.mem_cons, List.not_mem_nil, or_false, Bool.not_false, Bool.true_and, Bool.or_eq_true, beq_iff_eq, Bool.not_eq_true', Bool.or_eq_false_iff, decide_eq_false_iff_not, decide_eq_true_eq]
    constructor
    · rintro (h | h)
      · cases h
      · omega
    · intro h
      right
      omega
theorem strange_out {page : List Int} {v : Value} (h : ToldOut page gsD v) : (∃ x xs u, page.filter strangeC = x :: xs ∧ x ∈ page ∧ v = .str (foundC x) u) ∨ (∃ r u, page.filter strangeC = [] ∧ v = .bytes r u ∧ KBw.bInts r = doutI (page ++ [117, 117, 117, 117])) := by
  rcases h with ⟨r, u, h1, h2, h3⟩ | ⟨x, pre, post, u, e, t1, t2, t3, rfl⟩
  · exact .inr ⟨r, u, List.filter_eq_nil_iff.mpr fun c hc => (strange_told c).mp (h3 c hc), h1, h2⟩
  · refine .inl ⟨x, post.filter strangeC, u, ?_, by rw [e]; simp, rfl⟩
    have hx : strangeC x = true := by
      cases q : strangeC x with
      | true => rfl
      | false =>
        have := (strange_told x).mpr (by rw [q]; decide)
        rw [t2, t3] at this
        exact absurd this (by decide)
    rw [e, List.filter_append, List.filter_eq_nil_iff.mpr fun c hc => (strange_told c).mp (t1 c hc), List.nil_append, List.filter_cons_of_pos hx]
local macro_rules | `(tactic| walk_at "call type:bytes") => `(tactic| (k_here; (with_reducible show wpAny _ _ (call (Value.type "bytes") [Value.ref _]) _ _ _); k_dflt (refine' KBa.make_K ?F ?N ?h ?l ?i ?r ?n ?_; (case F => k_asm); (case N => k_asm); (case h => rfl); (case l => exact News.isList (by k_asm) (by k_mem)); (case i => assumption); (case r => assumption); (case n => (try simp only [List.length_append]); omega); k_whole); intro h' t' k' F' N' i'))
theorem in_of {l : List Int} {x : Int} (h : KBa.In l) (hx : x ∈ l) : 0 ≤ x ∧ x < 256 := h x hx
local macro_rules | `(tactic| walk_at "call ref") => `(tactic| (k_here; (with_reducible show wpAny _ _ (call (Value.ref 196) [Value.bytes _ _, Value.none] _) _ _ _); k_dflt (refine' tell_none _ _ _ _ _ _ _ _ _ _ _ _ _ _ _ ?F ?X ?T ?g1 ?g2 ?gd ?_; (case F => k_asm); (case X => k_asm); (case T => k_asm); (case g1 => (refine KBa.ints_make ?_; assumption)); (case g2 => omega); (case gd => assumption); k_whole); intro h' tk' v' F' keep' out'; (rename News _ _ _ _ => N0'); have N1' := news_keepBut N0' keep'; (rcases strange_out out' with ⟨x', xs', u', hx', hxp', he'⟩ | ⟨r', u', hx', he', hr'⟩); (all_goals (clear out'; subst he'; rename IntsAre _ (List.filter _ _) => hz'; rw [hx'] at hz')); (obtain ⟨h0', h1'⟩ := in_of (by assumption) hxp')))
theorem getD_here (x : Int) (xs : List Int) (d : Int) : (x :: xs).getD (Int.toNat 0) d = x := rfl
local macro_rules | `(tactic| walk_at "call builtin:chr") => `(tactic| (k_here; (with_reducible show wpAny _ _ (call (Value.builtin "chr") [Value.int (List.getD (_ :: _) _ _) _]) _ _ _); simp only [getD_here]))
local macro_rules | `(tactic| walk_at "compareOp NotEq str bytes") => `(tactic| (exfalso; (rename decide (_ :: _ = []) = true => hdec); exact absurd (of_decide_eq_true hdec) (List.cons_ne_nil _ _)))
theorem seg12 (w : World) (mg mb : Str → Option Value) (mean : ExcName → Option Value) (h₀ : Heap) (L a : Addr) (cd : Value) (s : Shared) (Q : Flow → Shared → Prop) (E₂ : Value → Shared → Prop) (mo : Str → Option Value) (Z V R D P M A U : Addr) (oV oUl oA oM oD oP oK oS oU oW : Obj) (zs ps rs : List Value) (page row : List Int) (kz kp kr : Nat) (tw : Tok) (mc mx mk : Option Value) (rest : List Stmt)
    (X : (hd.heap_39 w.params).In h₀) (T : TopM mean mg mb h₀) (hoP : oP.data = .cell (some (.ref P))) (hoW : oW.data = .cell (some (.str wordsS tw)))
    (hI : IntsAre ps page) (hpage : KBa.In page) (hpl : page.length ≤ 200) (hz : IntsAre zs (page.filter strangeC)) (hIr : IntsAre rs row) (hrow : KBa.In row) (hrl : row.length ≤ 200) (hgood : DGood (page ++ [117, 117, 117, 117])) (hdo : doutI (page ++ [117, 117, 117, 117]) = row)
    (F : Fr h₀ L s.heap (lawMap11 R D M V Z mc mx mk mo)) (N : News h₀ L s.heap [(Z, listOf zs.toArray kz), (V, oV), (U, oUl), (A, oA), (M, oM), (P, listOf ps.toArray kp), (R, listOf rs.toArray kr), (D, oD), (L + 1 + 1 + 1 + 1 + 1, oW), (L + 1 + 1 + 1 + 1, oU), (L + 1 + 1 + 1, oS), (L + 1 + 1, oK), (L + 1, oP)])
    (hc : ∀ h' tk, Fr h₀ L h' (lawMap11 R D M V Z mc mx mk mo) →
      News h₀ L h' [(Z, listOf zs.toArray kz), (V, oV), (U, oUl), (A, oA), (M, oM), (P, listOf ps.toArray kp), (R, listOf rs.toArray kr), (D, oD), (L + 1 + 1 + 1 + 1 + 1, oW), (L + 1 + 1 + 1 + 1, oU), (L + 1 + 1 + 1, oS), (L + 1 + 1, oK), (L + 1, oP)] →
      wpAny (model PySem.Challenge.rw_kq0072_01.row.prog w) (lawA L a cd) (execs rest (lawEnv L a cd)) Q (LE w L a cd E₂) { s with heap := h', toks := tk }) :
    wpAny (model PySem.Challenge.rw_kq0072_01.row.prog w) (lawA L a cd) (execs (stmtAt lawBody 12 :: rest) (lawEnv L a cd)) Q (LE w L a cd E₂) s := by
  dsimp only [LE, lawA, lawEnv, lawBody, lawScope, lawDef, stmtAt, defBody, defScope, PySem.Challenge.pw_kq0072_01, lawMap11, lawMap9, lawMap7, lawMap4', lawMap3'] at F hc ⊢
  revert X
  k_fill
  intro X
  k_steps
  all_goals first
    | (exfalso; rename (foundC _ != _) = true => hx9; exact absurd ((bne_self_eq_false _).symm.trans hx9) (by decide))
    | (exfalso; rename (Array.toList _ != _) = true => hx9; rename KBw.bInts _ = doutI _ => hr9; have e9 := ints_inj (hr9.trans (hdo.trans (KBa.ints_make hrow).symm)); rw [e9] at hx9; exact absurd ((bne_self_eq_false _).symm.trans hx9) (by decide))
    | (rename Fr _ _ _ _ => hF; rename News _ _ _ _ => hN; exact hc _ _ hF (fun p hp => hN p (List.mem_cons_of_mem _ hp)))
end Mine
end
section -- Seg13a
open PySem PySem.W PyProof.Rows PySem.Calls
set_option maxRecDepth 100000
set_option maxHeartbeats 4000000
namespace Mine
local macro_rules | `(tactic| walk_at "callWith") => `(tactic| ((with_reducible show wpAny _ _ (callWith _ (Value.builtin _) (_ :: _) _ _) _ _ _); refine callWith_method1 ?_))
def argOne : PySem.Expr → PySem.Expr
  | .Call _ (e :: _) _ _ => e
  | _ => default
def textComp : PySem.Expr := argOne (argOne (asgVal (stmtAt lawBody 13)))
def one (c : Int) : Str := Str.mk #[c.toNat]
theorem text_turn (w : World) (mg mb : Str → Option Value) (mean : ExcName → Option Value) (h₀ : Heap) (L a : Addr) (cd : Value) (m : Str → Option Value) (s : Shared) (us ys : List Value) (S : List (Addr × Obj) → Prop) (Fin : List Value → List (Addr × Obj) → Prop) (Z V U A M P R D : Addr) (oZ oV oUl oA oM oPl oR oD oW oU oS oK oP : Obj) (k i : Nat) (c : Int) (t : Tok)
    (X : (hd.heap_39 w.params).In h₀) (T : TopM mean mg mb h₀) (hS : S [(Z, oZ), (V, oV), (U, oUl), (A, oA), (M, oM), (P, oPl), (R, oR), (D, oD), (L + 1 + 1 + 1 + 1 + 1, oW), (L + 1 + 1 + 1 + 1, oU), (L + 1 + 1 + 1, oS), (L + 1 + 1, oK), (L + 1, oP)]) (h0 : 0 ≤ c) (h1 : c < 256) (hv : ∀ v, us.toArray[i]? = some v → v = .int c t)
    (ih : ∀ u, LCg.CompRest PRG w (lawA L a cd) h₀ L m (lawEnv L a cd) (compElt textComp) (Str.ofString "c") (compScope textComp) [] s S (fun i v => us.toArray[i]? = some v) Fin k (i + 1) (ys ++ [.str (Str.mk #[c.toNat]) u]) [(Z, oZ), (V, oV), (U, oUl), (A, oA), (M, oM), (P, oPl), (R, oR), (D, oD), (L + 1 + 1 + 1 + 1 + 1, oW), (L + 1 + 1 + 1 + 1, oU), (L + 1 + 1 + 1, oS), (L + 1 + 1, oK), (L + 1, oP)]) :
    LCg.CompRest PRG w (lawA L a cd) h₀ L m (lawEnv L a cd) (compElt textComp) (Str.ofString "c") (compScope textComp) [] s S (fun i v => us.toArray[i]? = some v) Fin (k + 1) i ys [(Z, oZ), (V, oV), (U, oUl), (A, oA), (M, oM), (P, oPl), (R, oR), (D, oD), (L + 1 + 1 + 1 + 1 + 1, oW), (L + 1 + 1 + 1 + 1, oU), (L + 1 + 1 + 1, oS), (L + 1 + 1, oK), (L + 1, oP)] := by
  refine LCg.CompRest.succ ?_
  intro v I' oI' C' oC' D' m' h' tk' E' hv' hC' hx' F' N' off' ne'
  obtain rfl := hv v hv'
  dsimp only [lawEnv, lawBody, lawScope, lawDef, stmtAt, defBody, defScope, textComp, argOne, asgVal, compElt, compScope, PySem.Challenge.pw_kq0072_01, PRG, lawA] at ih ⊢
  revert X
  k_fill
  intro X
  k_steps
  rename Fr _ _ _ _ => hF
  rename News _ _ _ _ => hN
  exact LCg.CompEnd.intro hF hN _ (fun p h => h) off' hS (ih _)
theorem text_turns (w : World) (mg mb : Str → Option Value) (mean : ExcName → Option Value) (h₀ : Heap) (L a : Addr) (cd : Value) (m : Str → Option Value) (s : Shared) (us : List Value) (due : List Int) (S : List (Addr × Obj) → Prop) (Fin : List Value → List (Addr × Obj) → Prop) (Z V U A M P R D : Addr) (oZ oV oUl oA oM oPl oR oD oW oU oS oK oP : Obj)
    (X : (hd.heap_39 w.params).In h₀) (T : TopM mean mg mb h₀) (hS : S [(Z, oZ), (V, oV), (U, oUl), (A, oA), (M, oM), (P, oPl), (R, oR), (D, oD), (L + 1 + 1 + 1 + 1 + 1, oW), (L + 1 + 1 + 1 + 1, oU), (L + 1 + 1 + 1, oS), (L + 1 + 1, oK), (L + 1, oP)]) (hI : IntsAre us due) (hdue : KBa.In due)
    (hfin : ∀ ys, StrsAre ys (due.map one) → Fin ys [(Z, oZ), (V, oV), (U, oUl), (A, oA), (M, oM), (P, oPl), (R, oR), (D, oD), (L + 1 + 1 + 1 + 1 + 1, oW), (L + 1 + 1 + 1 + 1, oU), (L + 1 + 1 + 1, oS), (L + 1 + 1, oK), (L + 1, oP)]) :
    ∀ k i ys, i + k = us.length → StrsAre ys ((due.take i).map one) →
    LCg.CompRest PRG w (lawA L a cd) h₀ L m (lawEnv L a cd) (compElt textComp) (Str.ofString "c") (compScope textComp) [] s S (fun i v => us.toArray[i]? = some v) Fin k i ys [(Z, oZ), (V, oV), (U, oUl), (A, oA), (M, oM), (P, oPl), (R, oR), (D, oD), (L + 1 + 1 + 1 + 1 + 1, oW), (L + 1 + 1 + 1 + 1, oU), (L + 1 + 1 + 1, oS), (L + 1 + 1, oK), (L + 1, oP)] := by
  intro k
  induction k with
  | zero =>
    intro i ys hi hy
    refine LCg.CompRest.zero (hfin ys ?_)
    have : due.length ≤ i := by rw [← intsAre_len hI, ← hi]; exact Nat.le_refl _
    rwa [List.take_of_length_le this] at hy
  | succ k ih =>
    intro i ys hi hy
    have hlt : i < us.length := by omega
    obtain ⟨c, t, hv, hc⟩ := ints_at hI (List.getElem?_eq_getElem hlt)
    have hcm := hdue c (List.mem_of_getElem? hc)
    have hv2 : ∀ v, us.toArray[i]? = some v → v = .int c t := fun v e => by
      rw [List.getElem?_toArray, List.getElem?_eq_getElem hlt] at e
      rw [← Option.some.inj e, hv]
    exact text_turn w mg mb mean h₀ L a cd m s us ys S Fin Z V U A M P R D oZ oV oUl oA oM oPl oR oD oW oU oS oK oP k i c t X T hS hcm.1 hcm.2 hv2 fun u => ih (i + 1) _ (by omega) (by rw [take_snoc hc]; rw [List.map_append]; exact kct_snoc hy)
end Mine
end
section -- TextC
open PySem PySem.W PyProof.Rows PySem.Calls
set_option maxRecDepth 100000
set_option maxHeartbeats 4000000
namespace Mine
open Builtin
theorem ue_mro : mroOf (.type "UnicodeEncodeError") = pure [.type "UnicodeEncodeError", .type "UnicodeError", .type "ValueError", .type "Exception", .type "BaseException", .type "object"] := by rw [mroOf_type]; kernel_rfl
theorem ue_lookup_new : typeLookup (.type "UnicodeEncodeError") "__new__" = pure (some (.builtin "UnicodeEncodeError.__new__")) := by rw [typeLookup_type, builtinLookup_eq_fast]; kernel_rfl
theorem ue_slot_init : Slot "UnicodeEncodeError" "__init__" "UnicodeEncodeError.__init__" :=
  .of (owner := "UnicodeEncodeError") (n := "__init__") (by rw [typeLookup_type, builtinLookup_eq_fast]; kernel_rfl) (by decide +kernel) (by decide +kernel) (by decide +kernel)
    (by first | exact .inl (by decide +kernel) | exact .inr (by decide +kernel)) (by rw [isSubtype_type]; kernel_rfl)
theorem ue_called : TypeCalled "UnicodeEncodeError" "UnicodeEncodeError.__new__" "UnicodeEncodeError.__init__" :=
  ⟨by decide +kernel, by decide +kernel, ⟨_, _, ue_mro⟩, madeBy_type ue_mro ue_lookup_new (by decide +kernel), by decide +kernel, by rw [isSubtype_type]; kernel_rfl, ue_slot_init⟩
theorem ue_typeCall (args : Args) : checkTypeCall "UnicodeEncodeError" args = pure () := by kernel_rfl
theorem ue_newOk (rest : List Value) : checkBuiltinCall "UnicodeEncodeError.__new__" ⟨.type "UnicodeEncodeError" :: rest, []⟩ = pure () := by kernel_rfl
theorem ue_entry_init : entryFor table "UnicodeEncodeError.__init__" = some Builtin.«UnicodeEncodeError.__init__» := by exact entryFor_of_tree (by kernel_rfl)
theorem ue_new : ExcNewFacts "UnicodeEncodeError" "UnicodeEncodeError.__new__" :=
  ⟨by decide +kernel, by decide +kernel, entryFor_alias (id' := "BaseException.__new__") (by rw [fastTable_eq_tree]; kernel_rfl) (by first | rfl | decide +kernel) (by decide +kernel) (by rw [fastTable_eq_tree]; kernel_rfl), by rw [isSubtype_type]; kernel_rfl, by rw [isSubtype_type]; kernel_rfl, by rw [isSubtype_type]; kernel_rfl, by kernel_rfl⟩
theorem ue_args_init (v a b c d e : Value) : argsOk "UnicodeEncodeError.__init__" ⟨[v, a, b, c, d, e], []⟩ := by unfold argsOk; kernel_rfl
open UnicodeEncodeError in
theorem ue_members6 {M : Model} {A : Around} {E : Value → Shared → Prop} {s : Shared} {e : Addr} {o : Obj} {a0 a1 a2 a3 a4 a5 : Value} {Q : Members → Shared → Prop} (ho : s.heap.get? e = some o) (hd : o.data = .fields #[a0, a1, a2, a3, a4, a5]) (h : Q {} s) :
    wpAny M A (members (.ref e)) Q E s := by
  unfold members
  refine wpAny_bind (wpAny_fieldsOf ho hd ?_)
  exact wpAny_pure h
open UnicodeEncodeError in
theorem ue_members11 {M : Model} {A : Around} {E : Value → Shared → Prop} {s : Shared} {e : Addr} {o : Obj} {a0 a1 a2 a3 a4 a5 en ob re : Value} {i j : Int} {ti tj : Tok} {Q : Members → Shared → Prop} (ho : s.heap.get? e = some o) (hd : o.data = .fields #[a0, a1, a2, a3, a4, a5, en, ob, .int i ti, .int j tj, re]) (h : Q ⟨en, ob, i, j, re⟩ s) :
    wpAny M A (members (.ref e)) Q E s := by
  unfold members
  refine wpAny_bind (wpAny_fieldsOf ho hd ?_)
  exact wpAny_pure h
open UnicodeEncodeError in
theorem ue_set {M : Model} {A : Around} {E : Value → Shared → Prop} {s : Shared} {e : Addr} {o : Obj} {a0 a1 a2 a3 a4 a5 : Value} {r : Array Value} {m : Members} {Q : Unit → Shared → Prop} (ho : s.heap.get? e = some o) (hd : o.data = .fields (#[a0, a1, a2, a3, a4, a5] ++ r))
    (h : ∀ h', h'.get? e = some { o with data := .fields #[a0, a1, a2, a3, a4, a5, m.encoding, m.object, rawInt m.start, rawInt m.stop, m.reason] } → (∀ b, b ≠ e → h'.get? b = s.heap.get? b) → Q () { s with heap := h' }) :
    wpAny M A (setMembers (.ref e) m) Q E s := by
  obtain ⟨c, d, dt, sl⟩ := o
  simp only at hd
  subst hd
  have e1 : ((#[a0, a1, a2, a3, a4, a5] ++ r).extract 0 6 ++ #[m.encoding, m.object, rawInt m.start, rawInt m.stop, m.reason]) = #[a0, a1, a2, a3, a4, a5, m.encoding, m.object, rawInt m.start, rawInt m.stop, m.reason] := by
    apply Array.ext'
    simp
  unfold setMembers
  dsimp only
  refine wpAny_updateFields ho rfl ?_ (by rw [e1, sizeLine_eq]; exact Nat.le_of_ble_eq_true rfl)
  refine h _ ?_ fun b hb => Heap.get?_update_other _ _ (Ne.symm hb)
  rw [Heap.get?_update_self _ ho rfl]
  simp only [Obj.mapFields]
  rw [e1]
end Mine
end
section -- TextD
open PySem PySem.W PyProof.Rows PySem.Calls
set_option maxRecDepth 100000
set_option maxHeartbeats 4000000
namespace Mine
open Builtin Builtin.UnicodeEncodeError
/-- a new exception with members of its own: what it must be to be noted and caught -/
structure NewUni (h h' : Heap) (e : Addr) (cls : String) : Prop where
  keeps : ∀ b o, h.get? b = some o → h'.get? b = some o
  new : h.get? e = none
  there : ∃ oe vs a0, h'.get? e = some oe ∧ oe.cls = .type cls ∧ oe.data = .fields vs ∧ vs[0]? = some a0 ∧ vs[1]? = some .none ∧ vs[2]? = some .none
section
variable {prog : Program} {w : World} {A : Around} {E : Value → Shared → Prop} {s : Shared}
theorem ue_set0 {M : Model} {e : Addr} {o : Obj} {a0 a1 a2 a3 a4 a5 v : Value} {Q : Unit → Shared → Prop} (ho : s.heap.get? e = some o) (hd : o.data = .fields #[a0, a1, a2, a3, a4, a5])
    (h : ∀ h', h'.get? e = some { o with data := .fields #[v, a1, a2, a3, a4, a5] } → (∀ b, b ≠ e → h'.get? b = s.heap.get? b) → Q () { s with heap := h' }) :
    wpAny M A (setField (.ref e) 0 v) Q E s := by
  obtain ⟨c, d, dt, sl⟩ := o
  simp only at hd
  subst hd
  exact wpAny_setField ho rfl (Nat.zero_lt_succ _) (h _ (Heap.get?_update_self _ ho rfl) fun b hb => Heap.get?_update_other _ _ (Ne.symm hb))
theorem ue_strArg {M : Model} {id : String} {n : Nat} {x : Str} {t : Tok} {Q : Unit → Shared → Prop} (h : Q () s) : wpAny M A (strArgument id n (.str x t)) Q E s := by
  unfold strArgument
  refine wpAny_bind (wpAny_of_eq (a := some x) rfl ?_)
  rw [if_neg (by simp)]
  exact wpAny_pure h
theorem ue_sizeArg {M : Model} {id : String} {i : Int} {t : Tok} {Q : Int → Shared → Prop} (h0 : 0 ≤ i) (h1 : i < 5000) (h : Q i s) : wpAny M A (sizeArgument id (.int i t)) Q E s := by
  unfold sizeArgument
  refine wpAny_bind (wpAny_of_eq (rfl : asIndex (.int i t) = pure i) ?_)
  rw [if_neg (by simp only [Bool.or_eq_true, decide_eq_true_eq]; omega)]
  exact wpAny_pure h
theorem ue_init {e : Addr} {o : Obj} {a0 : Value} {x y z : Str} {i j : Int} {t1 t2 t3 t4 t5 : Tok} {Q : Fin → Shared → Prop} (ho : s.heap.get? e = some o) (hc : o.cls = .type "UnicodeEncodeError") (hd : o.data = .fields #[a0, .none, .none, .none, .bool false, .none])
    (hi : 0 ≤ i) (hi' : i < 5000) (hj : 0 ≤ j) (hj' : j < 5000)
    (h : ∀ h' oe vs b0, h'.get? e = some oe → oe.cls = .type "UnicodeEncodeError" → oe.data = .fields vs → vs[0]? = some b0 → vs[1]? = some .none → vs[2]? = some .none → (∀ b o', b ≠ e → s.heap.get? b = some o' → h'.get? b = some o') → Q (.done (.ret .none)) { s with heap := h' }) :
    wpAny (model prog w) A («UnicodeEncodeError.__init__» ⟨[.ref e, .str x t1, .str y t2, .int i t3, .int j t4, .str z t5], []⟩) Q E s := by
  obtain ⟨c, d, dt, sl⟩ := o
  simp only at hc hd
  subst hc hd
  unfold «UnicodeEncodeError.__init__» beginInit
  dsimp only
  refine wpAny_bind (wpAny_bind (wpAny_field ho rfl (x := a0) rfl ?_))
  refine wpAny_bind (wpAny_newObj_type ?_)
  have ho1 := Heap.get?_push_of_some (h := s.heap) { cls := .type "tuple", data := .seq [Value.str x t1, Value.str y t2, Value.int i t3, Value.int j t4, Value.str z t5].toArray } ho
  refine wpAny_bind (ue_set0 ho1 rfl fun h2 ho2 k2 => ?_)
  refine wpAny_bind (wpAny_letGo ?_)
  rw [if_pos (show ((5 : Nat) == 5) = true from rfl)]
  refine wpAny_bind (ue_members6 ho2 rfl ?_)
  refine wpAny_bind (ue_set (r := #[]) ho2 rfl fun h3 ho3 k3 => ?_)
  refine wpAny_bind (wpAny_letGo ?_)
  refine wpAny_bind (ue_members11 ho3 rfl ?_)
  refine wpAny_bind (ue_set (r := #[_, _, _, _, _]) ho3 rfl fun h4 ho4 k4 => ?_)
  refine wpAny_bind (wpAny_letGo ?_)
  refine wpAny_bind (ue_members11 ho4 rfl ?_)
  refine wpAny_bind (ue_set (r := #[_, _, _, _, _]) ho4 rfl fun h5 ho5 k5 => ?_)
  refine wpAny_bind (wpAny_letGo ?_)
  rw [if_neg (by simp)]
  refine wpAny_pure ?_
  dsimp only
  refine wpAny_bind (ue_strArg ?_)
  refine wpAny_bind (ue_strArg ?_)
  refine wpAny_bind ?_
  unfold initRange
  refine wpAny_bind (ue_sizeArg hi hi' ?_)
  refine wpAny_bind (ue_members11 ho5 rfl ?_)
  refine wpAny_bind (ue_set (r := #[_, _, _, _, _]) ho5 rfl fun h6 ho6 k6 => ?_)
  refine wpAny_bind (ue_sizeArg hj hj' ?_)
  refine wpAny_bind (ue_members11 ho6 rfl ?_)
  refine ue_set (r := #[_, _, _, _, _]) ho6 rfl fun h7 ho7 k7 => ?_
  refine wpAny_bind (ue_strArg ?_)
  refine wpAny_bind (ue_members11 ho7 rfl ?_)
  refine wpAny_bind (ue_set (r := #[_, _, _, _, _]) ho7 rfl fun h8 ho8 k8 => ?_)
  refine wpAny_pure ?_
  refine h h8 _ _ _ ho8 rfl rfl rfl rfl rfl fun b o' hb hbo => ?_
  have hb1 := Heap.get?_push_of_some (h := s.heap) { cls := .type "tuple", data := .seq [Value.str x t1, Value.str y t2, Value.int i t3, Value.int j t4, Value.str z t5].toArray } hbo
  exact (k8 b hb).trans ((k7 b hb).trans ((k6 b hb).trans ((k5 b hb).trans ((k4 b hb).trans ((k3 b hb).trans ((k2 b hb).trans hb1))))))
theorem call_ue {x y z : Str} {i j : Int} {t1 t2 t3 t4 t5 : Tok} {Q : Value → Shared → Prop} (hi : 0 ≤ i) (hi' : i < 5000) (hj : 0 ≤ j) (hj' : j < 5000)
    (h : ∀ h' e, NewUni s.heap h' e "UnicodeEncodeError" → Q (.ref e) { s with heap := h' }) :
    wpAny (model prog w) A (call (.type "UnicodeEncodeError") [.str x t1, .str y t2, .int i t3, .int j t4, .str z t5]) Q E s := by
  refine callType_codes (Q₁ := fun obj s₁ => obj = .ref (s.heap.objs.size + 1) ∧ s₁ = { s with heap := (s.heap.push { cls := .type "tuple", data := .seq [Value.str x t1, Value.str y t2, Value.int i t3, Value.int j t4, Value.str z t5].toArray }).push { cls := .type "UnicodeEncodeError", data := .fields #[.ref s.heap.objs.size, .none, .none, .none, .bool false, .none] } }) ue_called (ue_typeCall _) ue_entry_init ?_ ?_
  · refine codeAny_call_builtin_code (Code.quiet_builtin _ (by decide +kernel)) (wpAny_of_eq (ue_newOk _) ?_)
    exact codeAny_exc_new ue_new ⟨rfl, rfl⟩
  · rintro obj s₁ ⟨rfl, rfl⟩
    have ho : ((s.heap.push { cls := .type "tuple", data := .seq [Value.str x t1, Value.str y t2, Value.int i t3, Value.int j t4, Value.str z t5].toArray }).push { cls := .type "UnicodeEncodeError", data := .fields #[.ref s.heap.objs.size, .none, .none, .none, .bool false, .none] }).get? (s.heap.objs.size + 1) = some { cls := .type "UnicodeEncodeError", data := .fields #[.ref s.heap.objs.size, .none, .none, .none, .bool false, .none] } := Heap.get?_push_at (by simp only [Heap.size_push]) rfl
    refine ⟨⟨_, ho, rfl⟩, ue_args_init _ _ _ _ _ _, ?_⟩
    refine ue_init ho rfl rfl hi hi' hj hj' fun h' oe vs b0 g1 g2 g3 g4 g5 g7 g6 => ?_
    refine ⟨rfl, h h' _ ⟨fun b o hb => ?_, Heap.get?_none_of_le (Nat.le_succ _), oe, vs, b0, g1, g2, g3, g4, g5, g7⟩⟩
    exact g6 b o (Nat.ne_of_lt (Nat.lt_succ_of_lt (Heap.lt_size hb))) (Heap.get?_push_of_some _ (Heap.get?_push_of_some _ hb))
end
end Mine
end
section -- TextA1
open PySem PySem.W PyProof.Rows PySem.Calls PyProof.V
set_option maxRecDepth 100000
set_option maxHeartbeats 4000000
namespace Mine
open Builtin Builtin._codecs
theorem enc_tree (x : Str) (t u : Tok) : «str.encode» ⟨[.str x t, .str (Str.ofString "ascii") u], []⟩ = (do ret (← encodeRoad "str.encode" (.str x t) x (Str.ofString "ascii") none)) := by
  first | rfl | kernel_rfl
theorem enc_road (self : Value) (x : Str) : encodeRoad "str.encode" self x (Str.ofString "ascii") none = (do mkBytes (← encodeNarrow "str.encode" asciiCodec none self x)) := by
  first | rfl | (unfold encodeRoad; rfl)
section
variable {M : Model} {A : Around} {E : Value → Shared → Prop} {s : Shared}
theorem enc_fold (l : Array Nat) (o : Array UInt8) : Array.foldl (fun acc y => acc ++ (asciiCodec.bytesOf y).toArray) o l = o ++ l.map fun c => c.toUInt8 := by
  have g : ∀ (l : List Nat) (o : Array UInt8), l.foldl (fun acc y => acc ++ (asciiCodec.bytesOf y).toArray) o = o ++ (l.map fun c => c.toUInt8).toArray := by
    intro l
    induction l with
    | nil => intro o; simp
    | cons c l ih =>
      intro o
      rw [List.foldl_cons, ih]
      show o ++ #[c.toUInt8] ++ _ = _
      simp
  rw [← Array.foldl_toList, g]
  apply Array.ext'
  simp
theorem idx_le (p : Nat → Bool) (a : Array Nat) (d : Nat) (hd : d ≤ a.size) : (Array.findIdx? p a).getD d ≤ a.size := by
  cases h : Array.findIdx? p a with
  | none => exact hd
  | some k =>
    obtain ⟨h1, _⟩ := Array.findIdx?_eq_some_iff_findIdx_eq.mp h
    exact Nat.le_of_lt h1
theorem enc_ok {self : Value} {x : Str} {Q : Array UInt8 → Shared → Prop} (hl : x.length ≤ 4096) (h0 : 0 < x.length) (ha : ∀ c ∈ x.cps, c < 128) (h : Q (x.cps.map fun c => c.toUInt8) s) :
    wpAny M A (encodeNarrow "str.encode" asciiCodec none self x) Q E s := by
  unfold encodeNarrow
  dsimp only
  rw [KPc.range_list]
  obtain ⟨n, hn⟩ : ∃ n, x.length = n + 1 := ⟨x.length - 1, by omega⟩
  rw [hn]
  have e1 : List.range' 0 (n + 1) 1 = 0 :: List.range' 1 n 1 := rfl
  rw [e1]
  have hs : x.cps.size = n + 1 := hn
  have hc : x.cps[0]? = some x.cps[0] := Array.getElem?_eq_getElem (by omega)
  have hb : asciiCodec.bad x.cps[0] = false := by
    show decide (x.cps[0] ≥ 128) = false
    rw [decide_eq_false_iff_not]
    have := ha _ (Array.getElem_mem (i := 0) (by omega))
    omega
  have hx : x.cps.extract 0 = x.cps := by simp
  have hf : Array.findIdx? asciiCodec.bad x.cps = none := by
    rw [Array.findIdx?_eq_none_iff]
    intro c hcm
    show decide (c ≥ 128) = false
    rw [decide_eq_false_iff_not]
    have := ha c hcm
    omega
  have hfold : Array.foldl (fun acc y => acc ++ (asciiCodec.bytesOf y).toArray) #[] x.cps = x.cps.map fun c => c.toUInt8 := by
    rw [enc_fold, Array.empty_append]
  refine wpAny_bind (KPc.turn ?_)
  dsimp only
  rw [if_neg (show ¬ ((#[] : Array UInt8).size > sizeLine) from Nat.not_lt_zero _), hc]
  dsimp only
  rw [if_pos (by rw [hb]; rfl), hx, hf]
  refine wpAny_pure ?_
  dsimp only
  rw [Option.getD_none, Array.extract_size, hfold, Nat.zero_add]
  cases n with
  | zero =>
    show wpAny M A (pure _) _ _ _
    refine wpAny_pure ?_
    exact wpAny_pure h
  | succ n =>
    have e2 : List.range' 1 (n + 1) 1 = 1 :: List.range' 2 n 1 := rfl
    rw [e2]
    refine KPc.turn ?_
    dsimp only
    rw [if_neg (by rw [Array.size_map, sizeLine_eq]; omega), Array.getElem?_eq_none (Nat.le_refl _)]
    refine wpAny_pure ?_
    exact wpAny_pure h
theorem enc_bad {self : Value} {x : Str} {Q : Array UInt8 → Shared → Prop} (hl : x.length ≤ 4096) {c : Nat} (hm : c ∈ x.cps) (hge : 128 ≤ c)
    (h : ∀ (α : Type) (Q' : α → Shared → Prop) (i j : Nat), i ≤ j → j ≤ 4096 → wpAny M A (raiseEncodeFault (α := α) {} "ascii" self i j "ordinal not in range(128)") Q' E s) :
    wpAny M A (encodeNarrow "str.encode" asciiCodec none self x) Q E s := by
  have es : ((none : Option Str).getD (Str.ofString "strict")).toString = "strict" := by decide +kernel
  unfold encodeNarrow
  dsimp only
  rw [KPc.range_list]
  have h0 : 0 < x.cps.size := Array.size_pos_of_mem hm
  obtain ⟨n, hn⟩ : ∃ n, x.length = n + 1 := ⟨x.length - 1, by show x.cps.size = x.cps.size - 1 + 1; omega⟩
  rw [hn]
  have e1 : List.range' 0 (n + 1) 1 = 0 :: List.range' 1 n 1 := rfl
  rw [e1]
  have hs : x.cps.size = n + 1 := hn
  have hc : x.cps[0]? = some x.cps[0] := Array.getElem?_eq_getElem (by omega)
  have hx : x.cps.extract 0 = x.cps := by simp
  refine wpAny_bind (KPc.turn ?_)
  dsimp only
  rw [if_neg (show ¬ ((#[] : Array UInt8).size > sizeLine) from Nat.not_lt_zero _), hc]
  dsimp only
  cases hb : asciiCodec.bad x.cps[0] with
  | true =>
    rw [if_neg (by decide)]
    refine wpAny_bind (wpAny_rule ?_)
    simp only [es]
    split
    · rename_i heq
      exact absurd ((heq.symm.trans (by kernel_rfl) : some _ = none)) (fun q => nomatch q)
    · rw [if_pos (by decide +kernel)]
      refine wpAny_bind (h _ _ _ _ (Nat.le_add_right _ _) ?_)
      have := idx_le (fun y => !asciiCodec.bad y) x.cps (x.cps.size - 0) (by omega)
      rw [hx, Nat.zero_add]
      have hl' : x.cps.size ≤ 4096 := hl
      omega
  | false =>
    obtain ⟨k, hk⟩ : ∃ k, Array.findIdx? asciiCodec.bad x.cps = some k := by
      cases q : Array.findIdx? asciiCodec.bad x.cps with
      | some k => exact ⟨k, rfl⟩
      | none =>
        have := Array.findIdx?_eq_none_iff.mp q c hm
        have h2 : asciiCodec.bad c = true := decide_eq_true hge
        rw [h2] at this
        cases this
    obtain ⟨hk1, hk2⟩ := Array.findIdx?_eq_some_iff_findIdx_eq.mp hk
    have hbk : asciiCodec.bad x.cps[k] = true := by
      subst hk2
      exact Array.findIdx_getElem
    have hk0 : k ≠ 0 := fun e => by
      subst e
      rw [hb] at hbk
      cases hbk
    rw [if_pos (by decide)]
    refine wpAny_pure ?_
    dsimp only
    rw [hx, hk, Option.getD_some, enc_fold, Nat.zero_add, Array.empty_append]
    obtain ⟨n', rfl⟩ : ∃ n', n = n' + 1 := ⟨n - 1, by omega⟩
    have e2 : List.range' 1 (n' + 1) 1 = 1 :: List.range' 2 n' 1 := rfl
    rw [e2]
    refine KPc.turn ?_
    dsimp only
    have hck : x.cps[k]? = some x.cps[k] := Array.getElem?_eq_getElem hk1
    have hl' : x.cps.size ≤ 4096 := hl
    have hex : (x.cps.extract k).size = x.cps.size - k := by simp
    rw [if_neg (by rw [Array.size_map, Array.size_extract, sizeLine_eq]; omega), hck]
    dsimp only
    rw [if_neg (by rw [hbk]; decide)]
    refine wpAny_bind (wpAny_rule ?_)
    simp only [es]
    split
    · rename_i heq
      exact absurd ((heq.symm.trans (by kernel_rfl) : some _ = none)) (fun q => nomatch q)
    · rw [if_pos (by decide +kernel)]
      refine wpAny_bind (h _ _ _ _ (Nat.le_add_right _ _) ?_)
      have := idx_le (fun y => !asciiCodec.bad y) (x.cps.extract k) (x.cps.size - k) (by omega)
      rw [hex] at this
      omega
end
end Mine
end
section -- TextE
open PySem PySem.W PyProof.Rows PySem.Calls
set_option maxRecDepth 100000
set_option maxHeartbeats 4000000
namespace Mine
open Builtin Builtin._codecs
section
variable {prog : Program} {w : World} {A : Around} {E : Value → Shared → Prop} {s : Shared}
theorem fault_ue {α : Type} {x : Str} {t : Tok} {i j : Nat} {Q : α → Shared → Prop} (hh : A.handled = none) (hij : i ≤ j) (hj : j ≤ 4096)
    (h : ∀ h' e tk, NewUni s.heap h' e "UnicodeEncodeError" → E (.ref e) { s with heap := h', toks := tk }) :
    wpAny (model prog w) A (raiseEncodeFault (α := α) {} "ascii" (.str x t) i j "ordinal not in range(128)") Q E s := by
  unfold raiseEncodeFault
  refine wpAny_bind ?_
  show wpAny _ _ (do call (.type "UnicodeEncodeError") [← mkStr ("ascii" : String), ← pure (.str x t), ← mkInt i, ← mkInt j, ← mkStr ("ordinal not in range(128)" : String)]) _ _ _
  refine wpAny_bind (wpAny_mkStr ?_ (by decide +kernel))
  refine wpAny_bind (wpAny_pure ?_)
  refine wpAny_bind (wpAny_mkInt ?_)
  refine wpAny_bind (wpAny_mkInt ?_)
  refine wpAny_bind (wpAny_mkStr ?_ (by decide +kernel))
  refine call_ue (by omega) (by omega) (by omega) (by omega) fun h' e N => ?_
  exact wpAny_raiseNew_none hh (h h' e _ N)
theorem encode_bad {x : Str} {t u : Tok} {c : Nat} {Q : Value → Shared → Prop} (hh : A.handled = none) (hl : x.length ≤ 4096) (hm : c ∈ x.cps) (hge : 128 ≤ c)
    (h : ∀ h' e tk, NewUni s.heap h' e "UnicodeEncodeError" → E (.ref e) { s with heap := h', toks := tk }) :
    wpAny (model prog w) A (call (.builtin "str.encode") [.str x t, .str (Str.ofString "ascii") u]) Q E s := by
  refine wpAny_call (codeAny_call_builtin F.slot_str_encode.plain F.entry_str_encode (F.slot_str_encode.check _ _ _ _ _ _ _ _ (typeIs_str s x t) (F.args_str_encode_2 _ _) ?_))
  rw [enc_tree, enc_road]
  refine wpAny_bind (wpAny_bind (enc_bad hl hm hge fun α Q' i j hij hj => ?_))
  exact fault_ue hh hij hj h
theorem encode_ok {x : Str} {t u : Tok} {Q : Value → Shared → Prop} (hl : x.length ≤ 4096) (h0 : 0 < x.length) (ha : ∀ c ∈ x.cps, c < 128)
    (h : ∀ t' k, Q (.bytes (x.cps.map fun c => c.toUInt8) t') { s with toks := k }) :
    wpAny (model prog w) A (call (.builtin "str.encode") [.str x t, .str (Str.ofString "ascii") u]) Q E s := by
  refine wpAny_call (codeAny_call_builtin F.slot_str_encode.plain F.entry_str_encode (F.slot_str_encode.check _ _ _ _ _ _ _ _ (typeIs_str s x t) (F.args_str_encode_2 _ _) ?_))
  rw [enc_tree, enc_road]
  refine wpAny_bind (wpAny_bind (enc_ok hl h0 ha ?_))
  refine wpAny_mkBytes ?_ (by rw [Array.size_map, sizeLine_eq]; have : x.cps.size ≤ 4096 := hl; omega)
  exact wpAny_pure (h _ _)
end
theorem encode_method {M : Model} {A : Around} {E : Value → Shared → Prop} {s : Shared} {x : Str} {t : Tok} {pl : Sem Bool} {Q : Value × List Value → Shared → Prop} (h : Q (.builtin "str.encode", [.str x t]) s) : wpAny M A (getMethod (.str x t) (Str.ofString "encode") pl) Q E s :=
  getMethod_builtin (typeIs_str s x t) F.plainAttrs_str F.slot_str_encode F.type_str_encode (fun _ e => nomatch e) h
end Mine
end
section -- TextF
open PySem PySem.W PyProof.Rows PySem.Calls
set_option maxRecDepth 100000
set_option maxHeartbeats 4000000
namespace Mine
open Builtin
theorem uc_entry : entryFor table "proto.unchain" = some Builtin.«proto.unchain» := by exact entryFor_of_tree (by kernel_rfl)
section
variable {prog : Program} {w : World} {A : Around} {E : Value → Shared → Prop} {s : Shared} {env : Env}
theorem unchain_none {e1 : Addr} {o1 : Obj} {vs1 : Array Value} {v : Value} {Q : Value → Shared → Prop} (h1 : s.heap.get? e1 = some o1) (hd : o1.data = .fields vs1) (h2 : vs1[2]? = some .none) (h : Q .none s) :
    wpAny (model prog w) A (runValue (.builtin "proto.unchain" ⟨[v, .ref e1, .ref e1, .bool false], []⟩)) Q E s := by
  refine wpAny_runValue (codeAny_builtin uc_entry ?_)
  unfold «proto.unchain»
  dsimp only
  refine wpAny_bind (wpAny_field h1 hd h2 ?_)
  rw [if_pos (show (Value.none == Value.none) = true from by simp)]
  first | exact wpAny_pure h | (refine wpAny_bind (wpAny_pure ?_); exact wpAny_pure h)
theorem raiseNew_handled {α : Type} {e e1 : Addr} {cls : Value} {a0 : Value} {o1 : Obj} {vs1 : Array Value} {Q : α → Shared → Prop} (hh : A.handled = some (.ref e1)) (he : s.heap.get? e = some { cls := cls, data := .fields #[a0, .none, .none, .none, .bool false, .none] }) (hne : e1 ≠ e)
    (h1 : s.heap.get? e1 = some o1) (hd : o1.data = .fields vs1) (h2 : vs1[2]? = some .none)
    (h : ∀ h', h'.get? e = some { cls := cls, data := .fields #[a0, .none, .ref e1, .none, .bool false, .none] } → (∀ b, b ≠ e → h'.get? b = s.heap.get? b) → E (.ref e) { s with heap := h' }) :
    wpAny (model prog w) A (raiseNew (.ref e) : Sem α) Q E s := by
  unfold raiseNew
  refine wpAny_bind (wpAny_handled ?_)
  rw [hh]
  dsimp only
  rw [if_pos (show (Value.ref e1 != Value.ref e) = true from by simp [hne])]
  refine wpAny_bind (wpAny_holding (unchain_none h1 hd h2 ?_))
  refine wpAny_bind ?_
  show wpAny _ _ (setField (.ref e) 2 (.ref e1)) _ _ _
  refine wpAny_setField he rfl (Nat.le_of_ble_eq_true rfl) ?_
  refine wpAny_throw (h _ (Heap.get?_update_self _ he rfl) fun b hb => Heap.get?_update_other _ _ (Ne.symm hb))
theorem raiseStmt_handled {cls : String} (FR : ExcRaiseFacts cls) {e1 : Addr} {x : Sem Value} {Q : Flow → Shared → Prop} (hh : A.handled = some (.ref e1))
    (h : wpAny (model prog w) A x (fun v s₁ => ∃ e t o1 vs1, v = .ref e ∧ s₁.heap.get? e = some { cls := .type cls, data := .fields #[.ref t, .none, .none, .none, .bool false, .none] } ∧ e1 ≠ e ∧ s₁.heap.get? e1 = some o1 ∧ o1.data = .fields vs1 ∧ vs1[2]? = some .none ∧
      ∀ h', h'.get? e = some { cls := .type cls, data := .fields #[.ref t, .none, .ref e1, .none, .bool false, .none] } → (∀ b, b ≠ e → h'.get? b = s₁.heap.get? b) → E (.ref e) { s₁ with heap := h' }) E s) :
    wpAny (model prog w) A (raiseStmt env (some x) none) Q E s := by
  unfold raiseStmt
  refine wpAny_bind (wpAny_mono h (fun v s₁ h₁ => ?_) fun _ _ x => x)
  obtain ⟨e, t, o1, vs1, rfl, he, hne, g1, g2, g3, hE⟩ := h₁
  obtain ⟨hp, g, d, tk, os⟩ := s₁
  have hsub := FR.isExc
  have hmeta := FR.plainMeta
  repeat (first | refine wpAny_loadPart he ?_ | wp_step)
  exact raiseNew_handled hh he hne g1 g2 g3 hE
end
end Mine
end
section -- TextG
open PySem PySem.W PyProof.Rows PySem.Calls
set_option maxRecDepth 100000
set_option maxHeartbeats 4000000
namespace Mine
section
variable {M : Model} {A : Around} {E : Value → Shared → Prop} {s : Shared}
/-- a new exception is noted in the frame where it came up; the other frames may be there -/
theorem note_uni {base : Heap} {env : Env} {outer : List Env} {L e : Addr} {oe : Obj} {vs : Array Value} {Q : Unit → Shared → Prop}
    (hfr : A.frames = some (env :: outer)) (hl : s.heap.FunFrames base (env :: outer)) (hf : env.frame = some L)
    (he : s.heap.get? e = some oe) (hd : oe.data = .fields vs) (h1 : vs[1]? = some .none) (hkb : base.StaysIn s.heap) (hen : base.get? e = none)
    (h : ∀ h' T oT ts, h'.get? e = some (oe.mapFields (·.setIfInBounds 1 (.ref T))) → T ≠ e → s.heap.get? T = none → h'.get? T = some oT → oT.data = .fields ts → 3 < ts.size →
      base.StaysIn h' → h'.FunFrames base (env :: outer) → s.heap.UpToSlots h' → Q () { s with heap := h' }) :
    wpAny M A (noteFrame (.ref e) env) Q E s := by
  have hsz : 1 < vs.size := (Array.getElem?_eq_some_iff.mp h1).1
  have noframe : e ∉ (env :: outer).filterMap (·.frame) := fun hm => by
    obtain ⟨_, o, ho, hnf⟩ := hl.mem hm
    rw [he] at ho
    obtain rfl := Option.some.inj ho
    exact hnf vs hd
  unfold noteFrame
  simp only [hf]
  refine wpAny_bind (wpAny_field he hd h1 ?_)
  rw [if_neg (by decide)]
  refine wpAny_bind (wpAny_frameOf_fun hfr hl hf fun g hg => ?_)
  refine wpAny_bind (wpAny_entryPlaceOf fun pl hpl => ?_)
  unfold EntryCells.newEntry newFields
  refine wpAny_bind (wpAny_newObj_type ?_ (hpl.sizeOk5 _ _ _ _ _))
  have hge : g.get? e = some oe := (hg.2.1 e noframe).trans he
  refine wpAny_setField (Heap.get?_push_of_some _ hge) hd hsz ?_
  have hTn : s.heap.get? g.objs.size = none := by
    cases q : s.heap.get? g.objs.size with
    | none => rfl
    | some o =>
      obtain ⟨sl, h2⟩ := hg.2.2 _ _ q
      exact absurd (Heap.lt_size h2) (Nat.lt_irrefl _)
  have hTe : g.objs.size ≠ e := Nat.ne_of_gt (Heap.lt_size hge)
  have pushed : ∀ b o, g.get? b = some o → b ≠ e → ((g.push { cls := .type "traceback", dict := none, data := .fields ([Value.none, .ref L, .none, rawInt L, .none] ++ (if pl.isEmpty then List.replicate 6 Value.none else pl)).toArray }).update e (Obj.mapFields (·.setIfInBounds 1 (Value.ref g.objs.size)))).get? b = some o := fun b o hb hbe =>
    (Heap.get?_update_other _ _ (Ne.symm hbe)).trans (Heap.get?_push_of_some _ hb)
  have hslots : s.heap.UpToSlots ((g.push { cls := .type "traceback", dict := none, data := .fields ([Value.none, .ref L, .none, rawInt L, .none] ++ (if pl.isEmpty then List.replicate 6 Value.none else pl)).toArray }).update e (Obj.mapFields (·.setIfInBounds 1 (Value.ref g.objs.size)))) := fun b o hb hnf => by
    obtain ⟨sl, h2⟩ := hg.2.2 _ _ hb
    exact ⟨sl, pushed b _ h2 fun q => by rw [q, he] at hb; obtain rfl := Option.some.inj hb; exact hnf vs hd⟩
  refine h _ g.objs.size _ _ (Heap.get?_update_self _ (Heap.get?_push_of_some _ hge) (Obj.isFreed_of_fields (Obj.data_mapFields hd _))) hTe hTn ((Heap.get?_update_other _ _ (Ne.symm hTe)).trans (Heap.get?_push_size g rfl)) rfl ?_ ?_ ?_ hslots
  · simp only [List.size_toArray, List.length_append, List.length_cons, List.length_nil]; omega
  · intro b o hb
    have hb2 := hkb b o hb
    refine pushed b o ((hg.2.1 b fun hm => ?_).trans hb2) fun q => ?_
    · rw [(hl.mem hm).1] at hb; cases hb
    · rw [q, hen] at hb; cases hb
  · exact hl.of_keeps fun b o hb hnf => by
      obtain ⟨sl, h2⟩ := hslots b o hb hnf
      exact ⟨_, h2, rfl⟩
structure Uni (base h0 : Heap) (l : List Env) (e T : Addr) (X : String) (h : Heap) : Prop where
  exc : ∃ o vs, h.get? e = some o ∧ o.cls = .type X ∧ o.data = .fields vs ∧ vs[1]? = some (.ref T) ∧ vs[2]? = some .none
  trace : ∃ oT ts, h.get? T = some oT ∧ oT.data = .fields ts ∧ 3 < ts.size
  ne : T ≠ e
  fresh : base.get? T = none
  stays : base.StaysIn h
  frames : h.FunFrames base l
  up : h0.UpToSlots h
theorem flight_uni {base h0 : Heap} {l : List Env} {e T : Addr} {X : String} {Q : Unit → Shared → Prop} (U : Uni base h0 l e T X s.heap)
    (h : ∀ h', Uni base h0 l e T X h' → Q () { s with heap := h' }) : wpAny M A (setFlight (.ref e) none) Q E s := by
  obtain ⟨⟨o, vs, e1, e2, e3, e4, e5⟩, ⟨oT, ts, t1, t2, t3⟩, ne, fresh, stays, frames, up⟩ := U
  refine wpAny_setFlight_none e1 e3 e4 t1 t2 t3 (h _ ?_)
  have other : ∀ b, b ≠ T → (s.heap.update T (Obj.mapFields (·.setIfInBounds 3 Value.none))).get? b = s.heap.get? b := fun b hb => Heap.get?_update_other _ _ (Ne.symm hb)
  have slots : ∀ b o, s.heap.get? b = some o → (∀ vs, o.data ≠ .fields vs) → (s.heap.update T (Obj.mapFields (·.setIfInBounds 3 Value.none))).get? b = some o := fun b o hb hnf =>
    (other b fun q => by rw [q, t1] at hb; obtain rfl := Option.some.inj hb; exact hnf ts t2).trans hb
  refine ⟨⟨o, vs, (other e (Ne.symm ne)).trans e1, e2, e3, e4, e5⟩, ⟨_, _, Heap.get?_update_self _ t1 (Obj.isFreed_of_fields (Obj.data_mapFields t2 _)), Obj.data_mapFields t2 _, by simpa using t3⟩, ne, fresh, fun b o hb => ?_, ?_, fun b o hb hnf => ?_⟩
  · exact (other b fun q => by rw [q, fresh] at hb; cases hb).trans (stays b o hb)
  · exact frames.of_keeps fun b o hb hnf => ⟨o, slots b o hb hnf, rfl⟩
  · obtain ⟨sl, h2⟩ := up b o hb hnf
    exact ⟨sl, slots b _ h2 hnf⟩
end
section
variable {prog : Program} {w : World} {A₀ : Around} {E : Value → Shared → Prop} {s' : Shared} {base g h : Heap} {outer : List Env} {L a e : Addr} {m : Str → Option Value} {name : Str} {scope : Scope} {cd : Value}
  {b₀ : Stmt} {suite : List Stmt} {pos np : Pos} {rest : List ExceptHandler} {Q : Flow → Shared → Prop} {p : Program} {loose : List Str} {mg mb : Str → Option Value} {x : Str} {X : String}
theorem caught_uni (K : Below A₀ base outer g) (F : Fr g L h m) (hx : NewUni h s'.heap e X) (hsz : base.objs.size ≤ g.objs.size) (T : TopRead p loose mg mb base) (hv : bootBuiltins x = some (.type X))
    (hexc : isSubtype (.type X) (.type "BaseException") = pure true) (hnt : isSubtype (.type ((Manifest.find? X).elim "type" fun y => y.metatype)) (.type "tuple") = pure false) (hsub : isSubtype (.type X) (.type X) = pure true)
    (k : ∀ h' T', Uni base s'.heap (envOf name scope L a cd :: outer) e T' X h' → Fr base L h' m →
      wpAny (model prog w) ((A₀.deeper (envOf name scope L a cd)).mark (some (.ref e))) (execs (b₀ :: suite) (envOf name scope L a cd)) Q E { s' with heap := h' })
    (h1 : x ∉ startupNames := by decide +kernel) (h2 : x ∉ loose := by decide +kernel) (h3 : x ∉ (recsOf p).map (·.name) := by decide +kernel) (h4 : x ∉ (litsOf p).map (·.1) := by decide +kernel) (h4c : x ∉ (clssOf p loose).map (·.name) := by decide +kernel) (hn : x ≠ "__name__" := by decide +kernel)
    (hk : scope.kind = .function := by rfl) (hxk : (envOf name scope L a cd).kindOf x = some .globalImplicit := by rfl) (hd : (x == ("__debug__" : Str)) = false := by decide)
    (hE : PassesOwnAt (model prog w) ((A₀.deeper (envOf name scope L a cd)).mark (some (.ref e))) (A₀.deeper (envOf name scope L a cd)) (envOf name scope L a cd) E := by passes_own) :
    wpAny (model prog w) (A₀.deeper (envOf name scope L a cd)) (noteFrame (.ref e) (envOf name scope L a cd))
      (fun _ s₂ => wpAny (model prog w) (A₀.deeper (envOf name scope L a cd)) (setFlight (.ref e) none) (fun _ s₃ =>
        wpAny (model prog w) (A₀.deeper (envOf name scope L a cd)) (handleBy (.ref e) (envOf name scope L a cd) (.ExceptHandler (some (.Name x np)) none (b₀ :: suite) pos :: rest)) Q E s₃) E s₂) E s' := by
  have K' := K.push (name := name) (a := a) (cd := cd) F hk
  obtain ⟨oe, vs, a0, e1, e2, e3, e4, e5, e6⟩ := hx.there
  have hst : base.StaysIn s'.heap := fun b o q => hx.keeps b o (K'.stays b o q)
  have hen : base.get? e = none := by
    cases q : base.get? e with
    | none => rfl
    | some o => have := K'.stays e o q; rw [hx.new] at this; cases this
  have hsz1 : 1 < vs.size := (Array.getElem?_eq_some_iff.mp e5).1
  have frOf : ∀ h', base.StaysIn h' → s'.heap.UpToSlots h' → Fr base L h' m := fun h' k1 k2 => ⟨((Heap.UpToSlots.of_keeps hx.keeps).trans k2).ns F.ns, k1, Nat.le_trans hsz F.above⟩
  refine note_uni K'.stack (K'.frames.of_keeps fun b o hb _ => ⟨o, hx.keeps b o hb, rfl⟩) rfl e1 e3 e5 hst hen fun h₁ T' oT ts g1 g2 g3 g4 g5 g6 g7 g8 g9 => ?_
  have hT0 : base.get? T' = none := by
    cases q : base.get? T' with
    | none => rfl
    | some o => have := hst T' o q; rw [g3] at this; cases this
  have U : Uni base s'.heap (envOf name scope L a cd :: outer) e T' X h₁ := by
    refine ⟨⟨_, _, g1, (Obj.cls_mapFields _ _).trans e2, Obj.data_mapFields e3 _, ?_, ?_⟩, ⟨oT, ts, g4, g5, g6⟩, g2, hT0, g7, g8, g9⟩
    · simp [Array.getElem?_setIfInBounds, hsz1]
    · rw [Array.getElem?_setIfInBounds_ne (by decide)]; exact e6
  refine flight_uni (s := { s' with heap := h₁ }) U fun h₂ U₂ => ?_
  obtain ⟨o2, vs2, y1, y2, _⟩ := U₂.exc
  refine wpAny_handleBy_builtin (X := X) (T := X) (b := true) hexc hnt hsub (ld_builtin_at (frOf h₂ U₂.stays U₂.up) T.g (T.free x h1 h2 h3 h4 h4c) T.b ((T.builtins x hn).trans hv) ⟨rfl, ⟨o2, y1, y2⟩, ?_⟩ hk hxk hd)
  rw [if_pos rfl]
  refine flight_uni (s := { s' with heap := h₂ }) U₂ fun h₃ U₃ => ?_
  exact wpAny_passesOwnAt hE (k h₃ T' U₃ (frOf h₃ U₃.stays U₃.up))
end
end Mine
end
section -- TextH
open PySem PySem.W PyProof.Rows PySem.Calls
set_option maxRecDepth 100000
set_option maxHeartbeats 4000000
namespace Mine
structure RaisedIn (h h' : Heap) (e t : Addr) (cls : String) (e1 : Addr) (vs : List Value) : Prop where
  keeps : ∀ b o, h.get? b = some o → h'.get? b = some o
  new : h.get? e = none
  there : h'.get? e = some { cls := .type cls, data := .fields #[.ref t, .none, .ref e1, .none, .bool false, .none] }
  tnew : h.get? t = none
  tup : h'.get? t = some { cls := .type "tuple", data := .seq vs.toArray }
section
variable {prog : Program} {w : World} {A : Around} {E : Value → Shared → Prop} {s : Shared} {env : Env}
theorem Raise_handled {cls newId initId : String} (FC : ExcCallFacts cls newId initId) (FR : ExcRaiseFacts cls) {x : Str} {np cpos pos : Pos} {e₀ : PySem.Expr} {rest : List PySem.Expr} {e1 : Addr} {Q : Flow → Shared → Prop} (hh : A.handled = some (.ref e1))
    (h : wpAny (model prog w) A (eval (.Name x np) env) (fun f s₁ => f = .type cls ∧ wpAny (model prog w) A (spliced (backTo cpos (starEach (e₀ :: rest) env)))
      (fun vs s₂ => vs.length ≤ sizeLine ∧ (∃ o1 vs1, s₂.heap.get? e1 = some o1 ∧ o1.data = .fields vs1 ∧ vs1[2]? = some .none) ∧ ∀ h' e t, RaisedIn s₂.heap h' e t cls e1 vs → E (.ref e) { s₂ with heap := h' }) E s₁) E s)
    (he : starEach (e₀ :: rest) env = (false, eval e₀ env) :: starEach rest env := by rfl) (hplain : (backTo cpos (starEach rest env)).any (·.1) = false := by rfl) :
    wpAny (model prog w) A (exec (.Raise (some (.Call (.Name x np) (e₀ :: rest) [] cpos)) none pos) env) Q E s := by
  have ev : wpAny (model prog w) A (eval (.Call (.Name x np) (e₀ :: rest) [] cpos) env) (fun v s₁ => ∃ e t o1 vs1, v = .ref e ∧ s₁.heap.get? e = some { cls := .type cls, data := .fields #[.ref t, .none, .none, .none, .bool false, .none] } ∧ e1 ≠ e ∧ s₁.heap.get? e1 = some o1 ∧ o1.data = .fields vs1 ∧ vs1[2]? = some .none ∧
      ∀ h', h'.get? e = some { cls := .type cls, data := .fields #[.ref t, .none, .ref e1, .none, .bool false, .none] } → (∀ b, b ≠ e → h'.get? b = s₁.heap.get? b) → E (.ref e) { s₁ with heap := h' }) E s := by
    refine wpAny_Call_ofName (wpAny_mono h (fun f s₁ h₁ => ?_) fun _ _ y => y)
    obtain ⟨rfl, h₂⟩ := h₁
    refine callWith_excType (by rw [he]; show (false || (backTo cpos (starEach rest env)).any (·.1)) = false; rw [hplain]; rfl) ?_
    rw [he] at h₂ ⊢
    refine Calls.evalArgs_plain (wpAny_mono h₂ (fun vs s₂ h₃ => ?_) fun _ _ y => y)
    obtain ⟨hlen, ⟨o1, vs1, g1, g2, g3⟩, hE⟩ := h₃
    obtain ⟨hp, g, d, tk, os⟩ := s₂
    refine wpAny_call_exc FC (hrest := hlen) fun h' e hm => ?_
    obtain ⟨t, ht, htn, htt⟩ := hm.there
    have hne : e1 ≠ e := fun q => by
      have := hm.new
      rw [← q] at this
      rw [g1] at this
      cases this
    refine ⟨e, t, o1, vs1, rfl, ht, hne, hm.keeps _ _ g1, g2, g3, fun h'' k1 k2 => hE h'' e t ⟨fun b o hb => ?_, hm.new, k1, htn, ?_⟩⟩
    · exact (k2 b fun q => by rw [q] at hb; have := hm.new; rw [hb] at this; cases this).trans (hm.keeps b o hb)
    · exact (k2 t fun q => by rw [q] at htt; rw [ht] at htt; cases htt).trans htt
  rw [arm_exec_Raise]
  first
    | exact wpAny_bind (wpAny_standAt (raiseStmt_handled FR hh (wpAny_bind (wpAny_mono ev (fun v s₁ h₁ => wpAny_bind (wpAny_standAt (wpAny_pure h₁))) fun _ _ x => x))))
    | (simp only [evalOpt, Option.map]; exact wpAny_bind (wpAny_standAt (raiseStmt_handled FR hh (wpAny_bind (wpAny_mono ev (fun v s₁ h₁ => wpAny_bind (wpAny_standAt (wpAny_pure h₁))) fun _ _ x => x)))))
    | (show wpAny (model prog w) A (do standAt pos; raiseStmt env (some (do let v ← eval (.Call (.Name x np) (e₀ :: rest) [] cpos) env; standAt pos; pure v)) none) Q E s; exact wpAny_bind (wpAny_standAt (raiseStmt_handled FR hh (wpAny_bind (wpAny_mono ev (fun v s₁ h₁ => wpAny_bind (wpAny_standAt (wpAny_pure h₁))) fun _ _ x => x)))))
end
section
variable {M : Model} {A : Around} {E : Value → Shared → Prop} {s' : Shared} {base h : Heap} {outer : List Env} {L a e t e1 : Addr} {name : Str} {scope : Scope} {cd : Value} {cls : String} {vs : List Value} {Q : Unit → Shared → Prop}
/-- an exception that came up in a handler leaves the def -/
theorem leave_handled (hfr : A.frames = some outer) (hl : h.FunFrames base (envOf name scope L a cd :: outer)) (hst : base.StaysIn h) (hx : RaisedIn h s'.heap e t cls e1 vs)
    (hQ : ∀ h', RaisedK base outer e (.type cls) t vs [] h' → s'.heap.UpToSlots h' → Q () { s' with heap := h' }) :
    wpAny M (A.deeper (envOf name scope L a cd)) (leaving (envOf name scope L a cd) (.ref e)) Q E s' := by
  have fresh : ∀ b, h.get? b = none → base.get? b = none := fun b hb => by
    cases q : base.get? b with
    | none => rfl
    | some o => have := hst b o q; rw [hb] at this; cases this
  refine wpAny_leaving_firstW (base := base) (a0 := .ref t) (Around.frames_deeper hfr) (hl.of_keeps fun b o hb _ => ⟨o, hx.keeps b o hb, rfl⟩) rfl hx.there (fun b o q => hx.keeps b o (hst b o q)) (fresh e hx.new) rfl rfl rfl fun h' hL => ?_
  obtain ⟨k1, ⟨_, _, k2⟩, k3, k4⟩ := hL
  exact hQ h' ⟨⟨base, fun _ _ q => q, (fun _ hq => nomatch hq), ⟨k1, fresh e hx.new, k2, k3⟩, fresh t hx.tnew⟩, Heap.TupAt.of_slots ⟨_, _, hx.tup, rfl, rfl⟩ k4⟩ k4
end
end Mine
end
section -- TextB
open PySem PySem.W PyProof.Rows
set_option maxRecDepth 100000
set_option maxHeartbeats 4000000
namespace Mine
local macro_rules | `(tactic| walk_at "callWith") => `(tactic| ((with_reducible show wpAny _ _ (callWith _ (Value.builtin _) (_ :: _) _ _) _ _ _); refine callWith_method1 ?_))
structure HoldOnB (p : Prop) : Prop where
  go : p
abbrev bfdA (cn : Str) (cs : Scope) (L a : Addr) (ccd : Value) (cl : List (Str × Addr)) (outer : List Env) : Around := ktrTop 352 306 (some []) cn cs L a ccd cl outer
local macro_rules | `(tactic| walk_at "getMethod str") => `(tactic| (k_here; (with_reducible show wpAny _ _ (getMethod (Value.str _ _) (PySem.Str.ofString "encode") _) _ _ _); (refine encode_method ?_)))
local macro_rules | `(tactic| walk_at "call builtin:str.encode") => `(tactic| (k_here; refine HoldOnB.go ?_))
theorem Raise_handledB {prog : Program} {w : World} {A : Around} {E : Value → Shared → Prop} {s : Shared} {env : Env} {cls newId initId : String} (FC : ExcCallFacts cls newId initId) (FR : ExcRaiseFacts cls) {x : Str} {np cpos pos : Pos} {e₀ : PySem.Expr} {rest : List PySem.Expr} {e1 : Addr} {Q : Flow → Shared → Prop} (hh : A.handled = some (.ref e1))
    (h : wpAny (model prog w) A (eval (.Name x np) env) (fun f s₁ => f = .type cls ∧ wpAny (model prog w) A (spliced (backTo cpos (starEach (e₀ :: rest) env)))
      (fun vs s₂ => HoldOnB (vs.length ≤ sizeLine ∧ (∃ o1 vs1, s₂.heap.get? e1 = some o1 ∧ o1.data = .fields vs1 ∧ vs1[2]? = some .none) ∧ ∀ h' e t, RaisedIn s₂.heap h' e t cls e1 vs → E (.ref e) { s₂ with heap := h' })) E s₁) E s)
    (he : starEach (e₀ :: rest) env = (false, eval e₀ env) :: starEach rest env := by rfl) (hplain : (backTo cpos (starEach rest env)).any (·.1) = false := by rfl) :
    wpAny (model prog w) A (exec (.Raise (some (.Call (.Name x np) (e₀ :: rest) [] cpos)) none pos) env) Q E s :=
  Raise_handled FC FR hh (wpAny_mono h (fun _ _ y => ⟨y.1, wpAny_mono y.2 (fun _ _ z => z.go) fun _ _ z => z⟩) fun _ _ z => z) he hplain
local macro_rules | `(tactic| walk_at "exec Raise some none") => `(tactic| (k_here; (refine Raise_handledB PySem.F.excCall_ValueError PySem.F.excRaise_ValueError rfl ?_)))
theorem bfd_bad (w : World) (mg mb : Str → Option Value) (mean : ExcName → Option Value) (cn : Str) (cs : Scope) (L a : Addr) (ccd : Value) (cl : List (Str × Addr)) (outer : List Env) (A₀ : Around) (base h₀ : Heap) (m : Str → Option Value) (s : Shared) (Q E : Value → Shared → Prop)
    (x : Str) (t : Tok)
    (B : Below A₀ base outer h₀) (F : Fr h₀ L s.heap m) (X : (hd.heap_39 w.params).In h₀)
    (T : Top hd.view_39 (looseW hd.view_39 [Str.ofString "bytes_types", Str.ofString "a85decode"]) mean mg mb h₀) (hk : cs.kind = .function) (XB : (hd.heap_39 w.params).In base) (TB : Top hd.view_39 (looseW hd.view_39 [Str.ofString "bytes_types", Str.ofString "a85decode"]) mean mg mb base) (hbs : base.objs.size ≤ h₀.objs.size)
    (hxl : x.length ≤ 4096) {c : Nat} (hm : c ∈ x.cps) (hge : 128 ≤ c)
    (hbad : ∀ e h' tk u u' lg, RaisedK base (envX cn cs L a ccd cl :: outer) e (.type "ValueError") u [.str (Str.ofString "string argument should contain only ASCII characters") u'] lg h' → s.heap.UpToSlots h' → E (.ref e) { s with heap := h', toks := tk }) :
    wpAny (model PySem.Challenge.rw_kq0072_01.row.prog w) (bfdA cn cs L a ccd cl outer) (call (.ref 50) [.str x t] []) Q E s := by
  have N : News h₀ L s.heap [] := News.nil
  revert X
  k_fill
  intro X
  refine wpAny_call ?_
  k_dflt (refine' code_defG ?k1 ?k2 ?k3 ?k4 ?k5 ?kA ?kF ?kK ?k6 ?k7 ?k8 ?k9 ?kB ?_ ?c2 ?c3 ?c4 ?c5; (case kA => exact rfl); (case kF => exact rfl); (case kK => assumption); (case k1 => k_asm); (case k2 => k_asm); (case k3 => k_asm); (case k4 => k_asm); (case k5 => k_asm); (case k6 => k_is); (case k7 => k_is); (case k8 => ktr_room); (case k9 => first | exact BindsTo.of_eq rfl | exact binds_K (by k_in) rfl (by k_is) rfl rfl rfl); (case c5 => decide); (case kB => exact locs rfl); (case c2 => exact rfl); (case c3 => exact rfl); (case c4 => exact rfl); k_whole; intro g' L' h' FG' F' N' B' X' T' GS'; (try dsimp only); (try k_lift B'); (try k_fold))
  k_steps
  refine HoldOnB.mk ?_
  refine encode_bad rfl hxl hm hge fun h1 e1 tk1 U1 => ?_
  have hsz : base.objs.size ≤ g'.objs.size := Nat.le_trans hbs (Nat.le_trans FG'.above (Nat.le_of_lt FG'.ns.lt))
  refine caught_uni B' F' U1 hsz (topRead_of TB) PyProof.Rows.Boot.«UnicodeEncodeError» (by rw [isSubtype_type]; kernel_rfl) (by rw [isSubtype_type]; kernel_rfl) (by rw [isSubtype_type]; kernel_rfl) (fun h2 T2 V2 F2 => ?_)
  have N2 : News base L' h2 [] := News.nil
  have old := And.intro B' (And.intro U1 (And.intro V2 (And.intro GS' (And.intro F'.keep True.intro))))
  clear F' N' X' T' FG' GS' B' N F X T hsz U1 V2
  k_steps
  obtain ⟨B', U1, V2, GS', Fk, _⟩ := old
  obtain ⟨o1, vs1, y1, _, y3, _, y5⟩ := V2.exc
  refine HoldOnB.mk ⟨by rw [sizeLine_eq]; exact Nat.le_of_ble_eq_true rfl, ⟨o1, vs1, y1, y3, y5⟩, fun h9 e9 t9 R9 => ?_⟩
  refine leave_handled (s' := ⟨h9, _, _, _, _⟩) B'.stack V2.frames V2.stays R9 fun h10 R10 up => ?_
  refine hbad _ _ _ t9 _ [] R10 ?_
  refine Heap.UpToSlots.trans (Heap.UpToSlots.of_keeps fun b o q => U1.keeps b o (Fk b o (GS' b o q (fun z => nomatch z)))) ?_
  exact Heap.UpToSlots.trans V2.up (Heap.UpToSlots.trans (Heap.UpToSlots.of_keeps R9.keeps) up)
end Mine
end
section -- TextK
open PySem PySem.W PyProof.Rows
set_option maxRecDepth 100000
set_option maxHeartbeats 4000000
namespace Mine
local macro_rules | `(tactic| walk_at "callWith") => `(tactic| ((with_reducible show wpAny _ _ (callWith _ (Value.builtin _) (_ :: _) _ _) _ _ _); refine callWith_method1 ?_))
local macro_rules | `(tactic| walk_at "getMethod str") => `(tactic| (k_here; (with_reducible show wpAny _ _ (getMethod (Value.str _ _) (PySem.Str.ofString "encode") _) _ _ _); (refine encode_method ?_)))
local macro_rules | `(tactic| walk_at "call builtin:str.encode") => `(tactic| (k_here; (refine encode_ok (by assumption) (by assumption) (by assumption) ?_); intro t' k'))
theorem bfd_ok (w : World) (mg mb : Str → Option Value) (mean : ExcName → Option Value) (cn : Str) (cs : Scope) (L a : Addr) (ccd : Value) (cl : List (Str × Addr)) (outer : List Env) (A₀ : Around) (base h₀ : Heap) (m : Str → Option Value) (s : Shared) (Q E : Value → Shared → Prop)
    (x : Str) (t : Tok) (bb : Array UInt8)
    (B : Below A₀ base outer h₀) (F : Fr h₀ L s.heap m) (X : (hd.heap_39 w.params).In h₀)
    (T : Top hd.view_39 (looseW hd.view_39 [Str.ofString "bytes_types", Str.ofString "a85decode"]) mean mg mb h₀) (hk : cs.kind = .function)
    (hxl : x.length ≤ 4096) (h0 : 0 < x.length) (ha : ∀ c ∈ x.cps, c < 128) (hbb : x.cps.map (fun c => c.toUInt8) = bb)
    (hq : ∀ h' tk u, Fr h₀ L h' m → (∀ b o, s.heap.get? b = some o → h'.get? b = some o) → Q (.bytes bb u) { s with heap := h', toks := tk }) :
    wpAny (model PySem.Challenge.rw_kq0072_01.row.prog w) (bfdA cn cs L a ccd cl outer) (call (.ref 50) [.str x t] []) Q E s := by
  have N : News h₀ L s.heap [] := News.nil
  revert X
  k_fill
  intro X
  refine wpAny_call ?_
  k_dflt (refine' code_defG ?k1 ?k2 ?k3 ?k4 ?k5 ?kA ?kF ?kK ?k6 ?k7 ?k8 ?k9 ?kB ?_ ?c2 ?c3 ?c4 ?c5; (case kA => exact rfl); (case kF => exact rfl); (case kK => assumption); (case k1 => k_asm); (case k2 => k_asm); (case k3 => k_asm); (case k4 => k_asm); (case k5 => k_asm); (case k6 => k_is); (case k7 => k_is); (case k8 => ktr_room); (case k9 => first | exact BindsTo.of_eq rfl | exact binds_K (by k_in) rfl (by k_is) rfl rfl rfl); (case c5 => decide); (case kB => exact locs rfl); (case c2 => exact rfl); (case c3 => exact rfl); (case c4 => exact rfl); k_whole; intro g' L' h' FG' F' N' B' X' T' GS'; (try dsimp only); (try k_lift B'); (try k_fold))
  k_steps
  rw [hbb]
  exact hq _ _ _ (FG'.keeps F'.keep) (fun b o e => F'.keep b o (GS' b o e (fun h => nomatch h)))
end Mine
end
section -- TextL
open PySem PySem.W PyProof.Rows
set_option maxRecDepth 100000
set_option maxHeartbeats 4000000
namespace Mine
local macro_rules | `(tactic| walk_at "no such node 0") => `(tactic| fail)
local macro_rules | `(tactic| walk_at "callWith") => `(tactic| ((with_reducible show wpAny _ _ (callWith _ (Value.builtin _) (_ :: _) _ _) _ _ _); refine callWith_method1 ?_))
local macro_rules | `(tactic| walk_at "execs cons") => `(tactic| (k_here; (with_reducible show wpAny _ _ (execs (Stmt.If (Expr.Name (PySem.Str.ofString "adobe") _) _ _ _ :: _) _) _ _ _); refine HoldOnA.go ?_))
local macro_rules | `(tactic| walk_at "call ref") => `(tactic| (k_here; (with_reducible show wpAny _ _ (call (Value.ref 50) [Value.str _ _] _) _ _ _); k_dflt (refine' bfd_ok _ _ _ _ _ _ _ _ _ _ _ _ _ _ _ _ _ _ _ _ _ ?k1 ?k2 ?k3 ?k4 ?k5 ?k6 ?k7 ?k8 ?k9 ?_; (case k1 => k_asm); (case k2 => k_asm); (case k3 => k_asm); (case k4 => k_asm); (case k5 => rfl); (case k6 => assumption); (case k7 => assumption); (case k8 => assumption); (case k9 => assumption); k_whole); intro h' tk' u' F' keep'; (rename News _ _ _ _ => N0'); have N1' := News.grown N0' keep'))
theorem a85_text_ok (w : World) (mg mb : Str → Option Value) (mean : ExcName → Option Value) (cn : Str) (cs : Scope) (L a : Addr) (ccd : Value) (cl : List (Str × Addr)) (outer : List Env) (A₀ : Around) (base h₀ : Heap) (m : Str → Option Value) (s : Shared) (Q E : Value → Shared → Prop)
    (x : Str) (b gb : Array UInt8) (gs ks : List Int) (t tg : Tok)
    (B : Below A₀ base outer h₀) (F : Fr h₀ L s.heap m) (X : (hd.heap_39 w.params).In h₀)
    (T : Top hd.view_39 (looseW hd.view_39 [Str.ofString "bytes_types", Str.ofString "a85decode"]) mean mg mb h₀) (hk : cs.kind = .function)
    (hxl : x.length ≤ 4096) (hx0 : 0 < x.length) (hxa : ∀ c ∈ x.cps, c < 128) (hxb : x.cps.map (fun c => c.toUInt8) = b) (hgs : KBw.bInts gb = gs) (hgl : gs.length ≤ 900) (hks : KBw.bInts b = ks) (hkl : ks.length ≤ 900) (hgood : DGood (ks ++ [117, 117, 117, 117]))
    (hret : ∀ h' tk u r, (∀ x o, s.heap.get? x = some o → h'.get? x = some o) → (∀ y ∈ ks, meansB y = true ∨ gs.contains y = true) → KBw.bInts r = doutI (ks ++ [117, 117, 117, 117]) → Q (.bytes r u) { s with heap := h', toks := tk })
    (hbad : ∀ e h' tk u u' lg x pre post, ks = pre ++ x :: post → (∀ y ∈ pre, meansB y = true ∨ gs.contains y = true) → meansB x = false → gs.contains x = false →
      RaisedK base (envX cn cs L a ccd cl :: outer) e (.type "ValueError") u [.str (foundC x) u'] lg h' → s.heap.UpToSlots h' → E (.ref e) { s with heap := h', toks := tk }) :
    wpAny (model PySem.Challenge.rw_kq0072_01.row.prog w) (a85A cn cs L a ccd cl outer) (call (.ref 58) [.str x t] [(Str.ofString "ignorechars", .bytes gb tg)]) Q E s := by
  have N : News h₀ L s.heap [] := News.nil
  revert X
  k_fill
  intro X
  refine wpAny_call ?_
  k_dflt (refine' code_defG ?k1 ?k2 ?k3 ?k4 ?k5 ?kA ?kF ?kK ?k6 ?k7 ?k8 ?k9 ?kB ?_ ?c2 ?c3 ?c4 ?c5; (case kA => exact rfl); (case kF => exact rfl); (case kK => assumption); (case k1 => k_asm); (case k2 => k_asm); (case k3 => k_asm); (case k4 => k_asm); (case k5 => k_asm); (case k6 => k_is); (case k7 => k_is); (case k8 => ktr_room); (case k9 => (refine' kp_binds ?kx ?ke; (case kx => k_in); (case ke => exact fun _ => rfl))); (case c5 => decide); (case kB => exact locs rfl); (case c2 => exact rfl); (case c3 => exact rfl); (case c4 => exact rfl); k_whole; intro g' L' h' FG' F' N' B' X' T' GS'; (try dsimp only); (try k_lift B'); (try k_fold))
  k_steps
  refine HoldOnA.mk ?_
  have tl := @a85_tail
  dsimp only [a85Env, a85Rest, a85Scope, a85Def, stmtAt, defBody, defScope, PySem.Challenge.pw_kq0072_01, List.drop] at tl
  rename News _ _ _ _ => kN
  rename Fr g' L' _ _ => kF
  refine tl w mg mb mean cn cs L a ccd cl outer base g' L' _ _ _ _ b _ gs ks _ _ B' (fr_congr kF (mapT_of (b := b) rfl rfl rfl rfl)) (fun p hp => nomatch hp) X' T' hk hgs hgl hks hkl hgood ?zret ?zbad
  case zret =>
    intro h1 tk1 u r m1 F1 k2 k3
    exact leaveK_ F1 (news' := []) (fun p hp => nomatch hp) (fun _ _ => hret _ _ u r (fun x o e => F1.keep _ _ (GS' x o e (fun h => nomatch h))) k2 k3)
  case zbad =>
    intro e h1 tk1 u u1 lg x pre post e6 h3 h4 h5 R U
    refine hbad _ _ _ _ _ _ x pre post e6 h3 h4 h5 R ?_
    exact Heap.UpToSlots.trans (Heap.UpToSlots.of_keeps fun b o e => GS' b o e (fun h => nomatch h)) U
end Mine
end
section -- TextM
open PySem PySem.W PyProof.Rows
set_option maxRecDepth 100000
set_option maxHeartbeats 4000000
namespace Mine
local macro_rules | `(tactic| walk_at "callWith") => `(tactic| ((with_reducible show wpAny _ _ (callWith _ (Value.builtin _) (_ :: _) _ _) _ _ _); refine callWith_method1 ?_))
theorem told_text_ok (w : World) (mg mb : Str → Option Value) (mean : ExcName → Option Value) (cn : Str) (cs : Scope) (L a : Addr) (ccd : Value) (cl : List (Str × Addr)) (h₀ : Heap) (m : Str → Option Value) (s : Shared) (Q E : Value → Shared → Prop)
    (x : Str) (b gb : Array UInt8) (gs ks : List Int) (t tg : Tok)
    (F : Fr h₀ L s.heap m) (X : (hd.heap_39 w.params).In h₀)
    (T : Top hd.view_39 (looseW hd.view_39 [Str.ofString "bytes_types", Str.ofString "a85decode"]) mean mg mb h₀) (hk : cs.kind = .function)
    (hxl : x.length ≤ 4096) (hx0 : 0 < x.length) (hxa : ∀ c ∈ x.cps, c < 128) (hxb : x.cps.map (fun c => c.toUInt8) = b) (hgs : KBw.bInts gb = gs) (hgl : gs.length ≤ 900) (hks : KBw.bInts b = ks) (hkl : ks.length ≤ 900) (hgood : DGood (ks ++ [117, 117, 117, 117]))
    (hret : ∀ h' tk v, Fr h₀ L h' m → KeepBut L s.heap h' → ToldOut ks gs v → Q v { s with heap := h', toks := tk }) :
    wpAny (model PySem.Challenge.rw_kq0072_01.row.prog w) (toldA cn cs L a ccd cl) (call (.ref 196) [.str x t, .bytes gb tg] []) Q E s := by
  revert X
  k_fill
  intro X
  refine wpAny_call ?_
  k_dflt (refine' code_defM (env := envX cn cs L a ccd cl) ?k1 ?k2 ?k3 ?kA ?kF ?kK ?k6 ?k7 ?k8 ?k9 ?kB ?_ ?c2 ?c3 ?c4 ?c5; (case kA => exact rfl); (case kF => exact rfl); (case kK => assumption); (case k1 => k_asm); (case k2 => k_asm); (case k3 => k_asm); (case k6 => k_is); (case k7 => k_is); (case k8 => ktr_room); (case k9 => first | exact BindsTo.of_eq rfl | exact binds_K (by k_in) rfl (by k_is) rfl rfl rfl); (case c5 => decide); (case kB => exact locs rfl); (case c2 => exact rfl); (case c3 => exact rfl); (case c4 => exact rfl); k_whole)
  intro b' L' h' oL hb' _ hoL hnf F' N' Bb Fs X' T' Xs Ts
  have old := And.intro Bb (And.intro Fs (And.intro Xs (And.intro Ts F)))
  clear Bb Fs Xs Ts F X T
  (try dsimp only); (try k_fold)
  k_steps
  refine a85_text_ok w mg mb mean _ _ _ _ _ _ _ _ _ _ _ _ _ _ x b gb gs ks t tg old.1 old.2.1 old.2.2.1 old.2.2.2.1 rfl hxl hx0 hxa hxb hgs hgl hks hkl hgood ?ret ?bad
  case ret =>
    intro h1 tk1 u r hkeep htold hr
    have k1 : KeepBut L s.heap h1 := fun x o _ e => hkeep x o (old.2.1.keep x o e)
    exact hret h1 tk1 _ (fr_slots old.2.2.2.2 hoL (sl := oL.slots) (hkeep L oL (old.2.1.keep L oL hoL)) k1) k1 (.inl ⟨r, u, rfl, hr, htold⟩)
  case bad =>
    intro e h1 tk1 u u' lg x pre post p1 p2 p3 p4 R U
    have hNL := N' _ (List.mem_cons_self ..)
    clear N'
    refine caught_mine rfl F' U R (topRead_of T') ?_
    intro h2 news2 tk2 F2 N2 G2 K2
    clear F'
    obtain ⟨sl, hL2⟩ := K2 L oL hNL.2.1 hNL.1 hnf
    have N3 : News b' L' h2 ((L, { oL with slots := sl }) :: news2) := fun q hq => by
      rcases List.mem_cons.mp hq with rfl | hq
      · exact ⟨hL2, hNL.2⟩
      · exact N2 q hq
    have G3 := G2.more (L, { oL with slots := sl })
    clear N2 G2 K2
    k_steps
    rename Fr _ _ _ _ => F9
    rename News _ _ _ _ => N9
    have k9 : KeepBut L s.heap _ := keepBut_hide (hb' ▸ F9.keep)
    have hL9 := (N9 (L, { oL with slots := sl }) (by k_mem)).1
    exact hret _ _ _ (fr_slots old.2.2.2.2 hoL hL9 k9) k9 (.inr ⟨x, pre, post, u', p1, p2, p3, p4, rfl⟩)
end Mine
end
section -- TextI
open PySem PySem.W PyProof.Rows
set_option maxRecDepth 100000
set_option maxHeartbeats 4000000
namespace Mine
local macro_rules | `(tactic| walk_at "callWith") => `(tactic| ((with_reducible show wpAny _ _ (callWith _ (Value.builtin _) (_ :: _) _ _) _ _ _); refine callWith_method1 ?_))
abbrev asciiS : Str := Str.ofString "string argument should contain only ASCII characters"
local macro_rules | `(tactic| walk_at "call ref") => `(tactic| (k_here; (with_reducible show wpAny _ _ (call (Value.ref 50) [Value.str _ _] _) _ _ _); refine HoldOnB.go ?_))
theorem a85_text_bad (w : World) (mg mb : Str → Option Value) (mean : ExcName → Option Value) (cn : Str) (cs : Scope) (L a : Addr) (ccd : Value) (cl : List (Str × Addr)) (outer : List Env) (A₀ : Around) (base h₀ : Heap) (m : Str → Option Value) (s : Shared) (Q E : Value → Shared → Prop)
    (x : Str) (gb : Array UInt8) (t tg : Tok)
    (B : Below A₀ base outer h₀) (F : Fr h₀ L s.heap m) (X : (hd.heap_39 w.params).In h₀)
    (T : Top hd.view_39 (looseW hd.view_39 [Str.ofString "bytes_types", Str.ofString "a85decode"]) mean mg mb h₀) (hk : cs.kind = .function) (XB : (hd.heap_39 w.params).In base) (TB : Top hd.view_39 (looseW hd.view_39 [Str.ofString "bytes_types", Str.ofString "a85decode"]) mean mg mb base) (hbs : base.objs.size ≤ h₀.objs.size)
    (hxl : x.length ≤ 4096) {c : Nat} (hm : c ∈ x.cps) (hge : 128 ≤ c)
    (hbad : ∀ e h' tk u u' lg, RaisedK base (envX cn cs L a ccd cl :: outer) e (.type "ValueError") u [.str asciiS u'] lg h' → s.heap.UpToSlots h' → E (.ref e) { s with heap := h', toks := tk }) :
    wpAny (model PySem.Challenge.rw_kq0072_01.row.prog w) (a85A cn cs L a ccd cl outer) (call (.ref 58) [.str x t] [(Str.ofString "ignorechars", .bytes gb tg)]) Q E s := by
  have N : News h₀ L s.heap [] := News.nil
  revert X
  k_fill
  intro X
  refine wpAny_call ?_
  k_dflt (refine' code_defG ?k1 ?k2 ?k3 ?k4 ?k5 ?kA ?kF ?kK ?k6 ?k7 ?k8 ?k9 ?kB ?_ ?c2 ?c3 ?c4 ?c5; (case kA => exact rfl); (case kF => exact rfl); (case kK => assumption); (case k1 => k_asm); (case k2 => k_asm); (case k3 => k_asm); (case k4 => k_asm); (case k5 => k_asm); (case k6 => k_is); (case k7 => k_is); (case k8 => ktr_room); (case k9 => (refine' kp_binds ?kx ?ke; (case kx => k_in); (case ke => exact fun _ => rfl))); (case c5 => decide); (case kB => exact locs rfl); (case c2 => exact rfl); (case c3 => exact rfl); (case c4 => exact rfl); k_whole; intro g' L' h' FG' F' N' B' X' T' GS'; (try dsimp only); (try k_lift B'); (try k_fold))
  k_steps
  refine HoldOnB.mk ?_
  have hsz : base.objs.size ≤ g'.objs.size := Nat.le_trans hbs (Nat.le_trans FG'.above (Nat.le_of_lt FG'.ns.lt))
  refine bfd_bad w mg mb mean _ _ _ _ _ _ _ _ _ _ _ _ _ _ x t B' F' X' T' rfl XB TB hsz hxl hm hge (fun e1 h1 tk1 u1 u2 lg R1 up1 => ?_)
  refine leave_onK (s' := ⟨h1, _, _, _, _⟩) B' F' R1 up1 fun h2 R2 up2 => ?_
  exact hbad _ _ _ _ _ _ R2 (Heap.UpToSlots.trans (Heap.UpToSlots.of_keeps fun b o e => GS' b o e (fun h => nomatch h)) up2)
end Mine
end
section -- TextJ
open PySem PySem.W PyProof.Rows
set_option maxRecDepth 100000
set_option maxHeartbeats 4000000
namespace Mine
local macro_rules | `(tactic| walk_at "callWith") => `(tactic| ((with_reducible show wpAny _ _ (callWith _ (Value.builtin _) (_ :: _) _ _) _ _ _); refine callWith_method1 ?_))
theorem told_text_bad (w : World) (mg mb : Str → Option Value) (mean : ExcName → Option Value) (cn : Str) (cs : Scope) (L a : Addr) (ccd : Value) (cl : List (Str × Addr)) (h₀ : Heap) (m : Str → Option Value) (s : Shared) (Q E : Value → Shared → Prop)
    (x : Str) (gb : Array UInt8) (t tg : Tok)
    (F : Fr h₀ L s.heap m) (X : (hd.heap_39 w.params).In h₀)
    (T : Top hd.view_39 (looseW hd.view_39 [Str.ofString "bytes_types", Str.ofString "a85decode"]) mean mg mb h₀) (hk : cs.kind = .function)
    (hxl : x.length ≤ 4096) {c : Nat} (hm : c ∈ x.cps) (hge : 128 ≤ c)
    (hret : ∀ h' tk u, Fr h₀ L h' m → KeepBut L s.heap h' → Q (.str asciiS u) { s with heap := h', toks := tk }) :
    wpAny (model PySem.Challenge.rw_kq0072_01.row.prog w) (toldA cn cs L a ccd cl) (call (.ref 196) [.str x t, .bytes gb tg] []) Q E s := by
  revert X
  k_fill
  intro X
  refine wpAny_call ?_
  k_dflt (refine' code_defM (env := envX cn cs L a ccd cl) ?k1 ?k2 ?k3 ?kA ?kF ?kK ?k6 ?k7 ?k8 ?k9 ?kB ?_ ?c2 ?c3 ?c4 ?c5; (case kA => exact rfl); (case kF => exact rfl); (case kK => assumption); (case k1 => k_asm); (case k2 => k_asm); (case k3 => k_asm); (case k6 => k_is); (case k7 => k_is); (case k8 => ktr_room); (case k9 => first | exact BindsTo.of_eq rfl | exact binds_K (by k_in) rfl (by k_is) rfl rfl rfl); (case c5 => decide); (case kB => exact locs rfl); (case c2 => exact rfl); (case c3 => exact rfl); (case c4 => exact rfl); k_whole)
  intro b' L' h' oL hb' _ hoL hnf F' N' Bb Fs X' T' Xs Ts
  have old := And.intro Bb (And.intro Fs (And.intro Xs (And.intro Ts F)))
  clear Bb Fs Xs Ts F X T
  (try dsimp only); (try k_fold)
  k_steps
  have XB := X'
  have TB := T'
  have hbs : b'.objs.size ≤ s.heap.objs.size := by rw [hb']; exact Nat.le_of_eq (hideAll_size _ _)
  refine a85_text_bad w mg mb mean _ _ _ _ _ _ _ _ _ _ _ _ _ _ x gb t tg old.1 old.2.1 old.2.2.1 old.2.2.2.1 rfl XB TB hbs hxl hm hge ?bad
  case bad =>
    intro e h1 tk1 u u' lg R U
    clear XB TB
    have hNL := N' _ (List.mem_cons_self ..)
    clear N'
    refine caught_mine rfl F' U R (topRead_of T') ?_
    intro h2 news2 tk2 F2 N2 G2 K2
    clear F'
    obtain ⟨sl, hL2⟩ := K2 L oL hNL.2.1 hNL.1 hnf
    have N3 : News b' L' h2 ((L, { oL with slots := sl }) :: news2) := fun q hq => by
      rcases List.mem_cons.mp hq with rfl | hq
      · exact ⟨hL2, hNL.2⟩
      · exact N2 q hq
    have G3 := G2.more (L, { oL with slots := sl })
    clear N2 G2 K2
    k_steps
    rename Fr _ _ _ _ => F9
    rename News _ _ _ _ => N9
    have k9 : KeepBut L s.heap _ := keepBut_hide (hb' ▸ F9.keep)
    have hL9 := (N9 (L, { oL with slots := sl }) (by k_mem)).1
    exact hret _ _ _ (fr_slots old.2.2.2.2 hoL hL9 k9) k9
end Mine
end
section -- TellT
open PySem PySem.W PyProof.Rows
set_option maxRecDepth 100000
namespace Mine
def TextOut (ks row : List Int) (v : Value) : Prop :=
  ((∀ c ∈ ks, isasciiB c = true) ∧ ∃ r u, v = .bytes r u ∧ KBw.bInts r = row) ∨ ((∃ c ∈ ks, isasciiB c = false) ∧ ∃ u, v = .str asciiS u)
theorem text_ints {ks : List Int} (hin : KBa.In ks) : KBw.bInts (((ks.map Int.toNat).toArray).map fun c => c.toUInt8) = ks := by
  have e : ((ks.map Int.toNat).toArray).map (fun c => c.toUInt8) = (ks.map fun c => c.toNat.toUInt8).toArray := by
    apply Array.ext'
    simp
  rw [e]
  show (ks.map fun c => c.toNat.toUInt8).map (fun c => (c.toNat : Int)) = ks
  rw [List.map_map]
  conv => rhs; rw [← List.map_id ks]
  refine List.map_congr_left fun c hc => ?_
  have := hin c hc
  show ((c.toNat.toUInt8).toNat : Int) = c
  rw [Nat.toUInt8, UInt8.toNat_ofNat']
  omega
theorem tell_text (w : World) (mg mb : Str → Option Value) (mean : ExcName → Option Value) (h₀ : Heap) (L a : Addr) (cd : Value) (m : Str → Option Value) (s : Shared) (Q E : Value → Shared → Prop) (x : Str) (gb : Array UInt8) (ks row : List Int) (t tg : Tok) (F : Fr h₀ L s.heap m) (X : (hd.heap_39 w.params).In h₀) (T : TopM mean mg mb h₀)
    (htx : x.cps = (ks.map Int.toNat).toArray) (hin : KBa.In ks) (hk0 : 0 < ks.length) (hgb : KBw.bInts gb = ks) (hkl : ks.length ≤ 900) (hgood : DGood (ks ++ [117, 117, 117, 117])) (hdo : doutI (ks ++ [117, 117, 117, 117]) = row)
    (hret : ∀ h' tk v, Fr h₀ L h' m → KeepBut L s.heap h' → TextOut ks row v → Q v { s with heap := h', toks := tk }) :
    wpAny (model PySem.Challenge.rw_kq0072_01.row.prog w) (lawA L a cd) (call (.ref 196) [.str x t, .bytes gb tg] []) Q E s := by
  have hlen : x.length = ks.length := by show x.cps.size = _; rw [htx]; simp
  by_cases ha : ∀ c ∈ ks, isasciiB c = true
  · refine at_law (told_text_ok w mg mb mean (Str.ofString "law") lawScope L a cd (lawCells L) h₀ m s Q E x _ gb ks ks t tg F X T lawKind (by omega) (by omega) (fun c hc => ?_) rfl hgb hkl (by rw [htx]; exact text_ints hin) hkl hgood fun h' tk v F' K' ho => ?_)
    · rw [htx] at hc
      obtain ⟨y, hy, rfl⟩ := List.mem_map.mp (by simpa using hc : c ∈ ks.map Int.toNat)
      have h1 := ha y hy
      unfold isasciiB at h1
      simp only [Bool.and_eq_true, decide_eq_true_eq] at h1
      omega
    · refine hret h' tk v F' K' (.inl ⟨ha, ?_⟩)
      rcases ho with ⟨r, u, h1, h2, _⟩ | ⟨y, pre, post, u, e, _, _, t3, _⟩
      · exact ⟨r, u, h1, h2.trans hdo⟩
      · have : ks.contains y = true := List.contains_iff_mem.mpr (by rw [e]; simp)
        rw [this] at t3
        cases t3
  · obtain ⟨c, hc, hn⟩ : ∃ c ∈ ks, isasciiB c = false := by
      apply Classical.byContradiction
      intro hno
      exact ha fun c hc => by
        cases q : isasciiB c with
        | true => rfl
        | false => exact absurd ⟨c, hc, q⟩ hno
    have hb := hin c hc
    refine at_law (told_text_bad w mg mb mean (Str.ofString "law") lawScope L a cd (lawCells L) h₀ m s Q E x gb t tg F X T lawKind (by omega) (c := c.toNat) ?_ ?_ fun h' tk u F' K' => ?_)
    · rw [htx]
      simpa using List.mem_map.mpr ⟨c, hc, rfl⟩
    · unfold isasciiB at hn
      simp only [Bool.and_eq_false_iff, decide_eq_false_iff_not] at hn
      omega
    · exact hret h' tk _ F' K' (.inr ⟨⟨c, hc, hn⟩, u, rfl⟩)
end Mine
end
section -- Seg13
open PySem PySem.W PyProof.Rows PySem.Calls
set_option maxRecDepth 100000
set_option maxHeartbeats 4000000
namespace Mine
local macro_rules | `(tactic| walk_at "callWith") => `(tactic| ((with_reducible show wpAny _ _ (callWith _ (Value.builtin _) (_ :: _) _ _) _ _ _); refine callWith_method1 ?_))
theorem text_cps (page : List Int) : (Txt.join (Str.ofString "") (page.map one)).cps = (page.map Int.toNat).toArray := by
  show (Builtin.Str.glued (Str.ofString "") (page.map one)).cps = _
  unfold Builtin.Str.glued
  have g : ∀ (l : List Int) (o : Array Nat), (l.map one).foldl (fun acc p => acc ++ (Str.ofString "").cps ++ p.cps) o = o ++ (l.map Int.toNat).toArray := by
    intro l
    induction l with
    | nil => intro o; simp
    | cons c l ih =>
      intro o
      rw [List.map_cons, List.foldl_cons, ih]
      have e : (Str.ofString "").cps = #[] := by decide +kernel
      rw [e]
      simp [one]
  cases page with
  | nil => rfl
  | cons c l =>
    show ((l.map one).foldl (fun acc p => acc ++ (Str.ofString "").cps ++ p.cps) (one c).cps) = _
    rw [g]
    simp [one]
theorem text_weight (page : List Int) (h : page.length ≤ 200) : ((page.map one).map (·.length)).sum + (page.map one).length ≤ 1048576 := by
  have : ((page.map one).map (·.length)).sum = page.length := by
    clear h
    induction page with
    | nil => rfl
    | cons c l ih =>
      rw [List.map_cons, List.map_cons, List.sum_cons, ih, List.length_cons]
      show 1 + l.length = _
      omega
  rw [this, List.length_map]
  omega
local macro_rules | `(tactic| walk_at "eval ListComp") => `(tactic| (k_here; k_dflt (refine LCg.ListComp_U (F₀ := by k_asm) (by with_unfolding_all rfl) (by decide) (by rfl) (by decide) (by rfl) ?_)))
local macro_rules | `(tactic| walk_at "CompSrc") => `(tactic| (k_here; refine HoldOn.go ?_))
local macro_rules | `(tactic| walk_at "call type:bytes") => `(tactic| (k_here; (with_reducible show wpAny _ _ (call (Value.type "bytes") [Value.ref _]) _ _ _); k_dflt (refine' KBa.make_K ?F ?N ?h ?l ?i ?r ?n ?_; (case F => k_asm); (case N => k_asm); (case h => rfl); (case l => exact News.isList (by k_asm) (by k_mem)); (case i => assumption); (case r => assumption); (case n => (try simp only [List.length_append]); omega); k_whole); intro h' t' k' F' N' i'))
local macro_rules | `(tactic| walk_at "call builtin:str.join") => `(tactic| (k_here; (with_reducible show wpAny _ _ (call (Value.builtin "str.join") [Value.str _ _, Value.ref _]) _ _ _); k_dflt (refine' join_listW ?l ?i ?p ?w ?_; (case l => exact News.isList (by k_asm) (by k_mem)); (case i => assumption); (case p => decide +kernel); (case w => assumption); k_whole); intro t' k'))
local macro_rules | `(tactic| walk_at "call ref") => `(tactic| (k_here; (with_reducible show wpAny _ _ (call (Value.ref 196) [Value.str _ _, Value.bytes _ _] _) _ _ _); k_dflt (refine' tell_text _ _ _ _ _ _ _ _ _ _ _ _ _ _ _ _ _ _ ?F ?X ?T ?tx ?hn ?h0 ?gb ?g2 ?gd ?dd ?_; (case F => k_asm); (case X => k_asm); (case T => k_asm); (case tx => exact text_cps _); (case hn => assumption); (case h0 => assumption); (case gb => (refine KBa.ints_make ?_; assumption)); (case g2 => omega); (case gd => assumption); (case dd => assumption); k_whole); intro h' tk' v' F' keep' out'; (rename News _ _ _ _ => N0'); have N1' := news_keepBut N0' keep'))
abbrev lawMap13 (R D M V Z : Addr) (v : Value) (mc mx mk : Option Value) (mo : Str → Option Value) : Str → Option Value := fun y => if y = Str.ofString "told" then some v else lawMap11 R D M V Z mc mx mk mo y
theorem seg13 (w : World) (mg mb : Str → Option Value) (mean : ExcName → Option Value) (h₀ : Heap) (L a : Addr) (cd : Value) (s : Shared) (Q : Flow → Shared → Prop) (E₂ : Value → Shared → Prop) (mo : Str → Option Value) (Z V R D P M A U : Addr) (oZ oV oUl oA oM oR oD oP oK oS oU oW : Obj) (ps : List Value) (page row : List Int) (kp : Nat) (mc mx mk : Option Value) (rest : List Stmt)
    (X : (hd.heap_39 w.params).In h₀) (T : TopM mean mg mb h₀) (hoP : oP.data = .cell (some (.ref P)))
    (hI : IntsAre ps page) (hpage : KBa.In page) (hpl : page.length ≤ 200) (hp0 : 0 < page.length) (hgood : DGood (page ++ [117, 117, 117, 117])) (hdo : doutI (page ++ [117, 117, 117, 117]) = row)
    (F : Fr h₀ L s.heap (lawMap11 R D M V Z mc mx mk mo)) (N : News h₀ L s.heap [(Z, oZ), (V, oV), (U, oUl), (A, oA), (M, oM), (P, listOf ps.toArray kp), (R, oR), (D, oD), (L + 1 + 1 + 1 + 1 + 1, oW), (L + 1 + 1 + 1 + 1, oU), (L + 1 + 1 + 1, oS), (L + 1 + 1, oK), (L + 1, oP)])
    (hc : ∀ h' tk v, TextOut page row v → Fr h₀ L h' (lawMap13 R D M V Z v mc mx mk mo) →
      News h₀ L h' [(Z, oZ), (V, oV), (U, oUl), (A, oA), (M, oM), (P, listOf ps.toArray kp), (R, oR), (D, oD), (L + 1 + 1 + 1 + 1 + 1, oW), (L + 1 + 1 + 1 + 1, oU), (L + 1 + 1 + 1, oS), (L + 1 + 1, oK), (L + 1, oP)] →
      wpAny (model PySem.Challenge.rw_kq0072_01.row.prog w) (lawA L a cd) (execs rest (lawEnv L a cd)) Q (LE w L a cd E₂) { s with heap := h', toks := tk }) :
    wpAny (model PySem.Challenge.rw_kq0072_01.row.prog w) (lawA L a cd) (execs (stmtAt lawBody 13 :: rest) (lawEnv L a cd)) Q (LE w L a cd E₂) s := by
  have pt := @text_turns w mg mb mean h₀ L a cd
  dsimp only [LE, lawA, lawEnv, lawBody, lawScope, lawDef, stmtAt, defBody, defScope, PySem.Challenge.pw_kq0072_01, textComp, argOne, asgVal, compElt, compScope, PRG] at F pt hc ⊢
  revert X
  k_fill
  intro X
  k_steps
  refine HoldOn.mk ?_
  refine LCg.CompSrc.ledger rfl F N (List.mem_cons_of_mem _ (List.mem_cons_of_mem _ (List.mem_cons_of_mem _ (List.mem_cons_of_mem _ (List.mem_cons_of_mem _ (List.mem_cons_self ..)))))) (by rw [List.size_toArray, intsAre_len hI, sizeLine_eq]; omega) ?_
  intro g'
  refine pt _ _ ps page _ _ Z V U A M P R D _ _ _ _ _ _ _ _ oW oU oS oK oP X T ?hS hI hpage ?fin _ 0 [] (Nat.zero_add _) .nil
  case hS => exact .inr ⟨_, List.mem_cons_of_mem _ (List.mem_cons_of_mem _ (List.mem_cons_of_mem _ (List.mem_cons_of_mem _ (List.mem_cons_of_mem _ (List.mem_cons_self ..))))), rfl, _, rfl⟩
  case fin =>
    intro ys hys
    unfold LCg.FinE
    intro W h2 tk2 F2 N2 o1
    have hwt := text_weight page hpl
    clear F N
    revert X
    k_fill
    intro X
    k_steps
    rename Fr _ _ _ _ => hF
    rename News _ _ _ _ => hN
    rename TextOut _ _ _ => ho
    exact hc _ _ _ ho hF (fun p hp => hN p (List.mem_cons_of_mem _ hp))
end Mine
end
section -- Seg14a
open PySem PySem.W PyProof.Rows PySem.Calls
set_option maxRecDepth 100000
set_option maxHeartbeats 4000000
namespace Mine
local macro_rules | `(tactic| walk_at "callWith") => `(tactic| ((with_reducible show wpAny _ _ (callWith _ (Value.builtin _) (_ :: _) _ _) _ _ _); refine callWith_method1 ?_))
def cmpLeft : PySem.Expr → PySem.Expr
  | .Compare e _ _ _ => e
  | _ => default
def highComp : PySem.Expr := cmpLeft (ifTest (stmtAt lawBody 14))
def highB : Int → Bool := fun c => !isasciiB c
theorem high_n {c : Int} (h : isasciiB c = true) : ¬ highB c = true := by unfold highB; rw [h]; decide
theorem high_y {c : Int} (h : isasciiB c = false) : highB c = true := by unfold highB; rw [h]; rfl
local macro_rules | `(tactic| walk_at "call ref") => `(tactic| (k_here; (with_reducible show wpAny _ _ (call (Value.ref 86) [Value.int _ _] _) _ _ _); k_dflt (refine' call_isascii _ _ _ _ _ _ _ _ _ _ _ _ _ _ ?k1 ?k2 ?k3 ?k4 ?k5 ?_; (case k1 => k_asm); (case k2 => k_asm); (case k3 => k_asm); (case k4 => assumption); (case k5 => assumption); k_whole); intro h' tk' F' keep'; (rename News _ _ _ _ => N0'); have N1' := News.grown N0' keep'))
theorem plain_turn (w : World) (mg mb : Str → Option Value) (mean : ExcName → Option Value) (h₀ : Heap) (L a : Addr) (cd : Value) (m : Str → Option Value) (s : Shared) (ps ys : List Value) (S : List (Addr × Obj) → Prop) (Fin : List Value → List (Addr × Obj) → Prop) (Z V U A M P R D : Addr) (oZ oV oUl oA oM oPl oR oD oW oU oS oK oP : Obj) (k i : Nat) (c : Int) (t : Tok)
    (X : (hd.heap_39 w.params).In h₀) (T : TopM mean mg mb h₀) (hS : S [(Z, oZ), (V, oV), (U, oUl), (A, oA), (M, oM), (P, oPl), (R, oR), (D, oD), (L + 1 + 1 + 1 + 1 + 1, oW), (L + 1 + 1 + 1 + 1, oU), (L + 1 + 1 + 1, oS), (L + 1 + 1, oK), (L + 1, oP)]) (h0 : 0 ≤ c) (h1 : c < 256) (hv : ∀ v, ps.toArray[i]? = some v → v = .int c t)
    (ih : LCt.CompRestT PRG w (lawA L a cd) h₀ L m (lawEnv L a cd) (compTest highComp) (compElt highComp) (Str.ofString "c") (compScope highComp) [] s S (fun i v => ps.toArray[i]? = some v) Fin k (i + 1) (if highB c = true then ys ++ [.int c t] else ys) [(Z, oZ), (V, oV), (U, oUl), (A, oA), (M, oM), (P, oPl), (R, oR), (D, oD), (L + 1 + 1 + 1 + 1 + 1, oW), (L + 1 + 1 + 1 + 1, oU), (L + 1 + 1 + 1, oS), (L + 1 + 1, oK), (L + 1, oP)]) :
    LCt.CompRestT PRG w (lawA L a cd) h₀ L m (lawEnv L a cd) (compTest highComp) (compElt highComp) (Str.ofString "c") (compScope highComp) [] s S (fun i v => ps.toArray[i]? = some v) Fin (k + 1) i ys [(Z, oZ), (V, oV), (U, oUl), (A, oA), (M, oM), (P, oPl), (R, oR), (D, oD), (L + 1 + 1 + 1 + 1 + 1, oW), (L + 1 + 1 + 1 + 1, oU), (L + 1 + 1 + 1, oS), (L + 1 + 1, oK), (L + 1, oP)] := by
  refine LCt.CompRestT.succ ?_
  intro v I' oI' C' oC' D' m' h' tk' E' hv' hC' hx' F' N' off' ne'
  obtain rfl := hv v hv'
  dsimp only [lawEnv, lawBody, lawScope, lawDef, stmtAt, defBody, defScope, highComp, cmpLeft, ifTest, compTest, compElt, compIfs, compScope, PySem.Challenge.pw_kq0072_01, PRG, lawA] at ih ⊢
  revert X
  k_fill
  intro X
  k_steps
  all_goals (rename Fr _ _ _ _ => hF; rename News _ _ _ _ => hN; refine LCg.CompEnd.intro hF hN _ (fun p h => h) off' hS ?_)
  all_goals first
    | (rw [if_neg (high_n (by assumption))] at ih; exact ih)
    | (rw [if_pos (high_y (by assumption))] at ih; exact ih)
theorem plain_turns (w : World) (mg mb : Str → Option Value) (mean : ExcName → Option Value) (h₀ : Heap) (L a : Addr) (cd : Value) (m : Str → Option Value) (s : Shared) (ps : List Value) (page : List Int) (S : List (Addr × Obj) → Prop) (Fin : List Value → List (Addr × Obj) → Prop) (Z V U A M P R D : Addr) (oZ oV oUl oA oM oPl oR oD oW oU oS oK oP : Obj)
    (X : (hd.heap_39 w.params).In h₀) (T : TopM mean mg mb h₀) (hS : S [(Z, oZ), (V, oV), (U, oUl), (A, oA), (M, oM), (P, oPl), (R, oR), (D, oD), (L + 1 + 1 + 1 + 1 + 1, oW), (L + 1 + 1 + 1 + 1, oU), (L + 1 + 1 + 1, oS), (L + 1 + 1, oK), (L + 1, oP)]) (hI : IntsAre ps page) (hpage : KBa.In page)
    (hfin : ∀ ys, IntsAre ys (page.filter highB) → Fin ys [(Z, oZ), (V, oV), (U, oUl), (A, oA), (M, oM), (P, oPl), (R, oR), (D, oD), (L + 1 + 1 + 1 + 1 + 1, oW), (L + 1 + 1 + 1 + 1, oU), (L + 1 + 1 + 1, oS), (L + 1 + 1, oK), (L + 1, oP)]) :
    ∀ k i ys, i + k = ps.length → IntsAre ys ((page.take i).filter highB) →
    LCt.CompRestT PRG w (lawA L a cd) h₀ L m (lawEnv L a cd) (compTest highComp) (compElt highComp) (Str.ofString "c") (compScope highComp) [] s S (fun i v => ps.toArray[i]? = some v) Fin k i ys [(Z, oZ), (V, oV), (U, oUl), (A, oA), (M, oM), (P, oPl), (R, oR), (D, oD), (L + 1 + 1 + 1 + 1 + 1, oW), (L + 1 + 1 + 1 + 1, oU), (L + 1 + 1 + 1, oS), (L + 1 + 1, oK), (L + 1, oP)] := by
  intro k
  induction k with
  | zero =>
    intro i ys hi hy
    refine LCt.CompRestT.zero (hfin ys ?_)
    have : page.length ≤ i := by rw [← intsAre_len hI, ← hi]; exact Nat.le_refl _
    rwa [List.take_of_length_le this] at hy
  | succ k ih =>
    intro i ys hi hy
    have hlt : i < ps.length := by omega
    obtain ⟨c, t, hv, hc⟩ := ints_at hI (List.getElem?_eq_getElem hlt)
    have hcm := hpage c (List.mem_of_getElem? hc)
    have hv2 : ∀ v, ps.toArray[i]? = some v → v = .int c t := fun v e => by
      rw [List.getElem?_toArray, List.getElem?_eq_getElem hlt] at e
      rw [← Option.some.inj e, hv]
    exact plain_turn w mg mb mean h₀ L a cd m s ps ys S Fin Z V U A M P R D oZ oV oUl oA oM oPl oR oD oW oU oS oK oP k i c t X T hS hcm.1 hcm.2 hv2 (ih (i + 1) _ (by omega) (by
      rw [take_snoc hc, List.filter_append]
      by_cases hb : highB c = true
      · rw [if_pos hb, List.filter_cons_of_pos hb]; exact ints_snoc hy
      · rw [if_neg hb, List.filter_cons_of_neg hb]; simpa using hy))
end Mine
end
section -- Seg14
open PySem PySem.W PyProof.Rows PySem.Calls
set_option maxRecDepth 100000
set_option maxHeartbeats 4000000
namespace Mine
local macro_rules | `(tactic| walk_at "callWith") => `(tactic| ((with_reducible show wpAny _ _ (callWith _ (Value.builtin _) (_ :: _) _ _) _ _ _); refine callWith_method1 ?_))
local macro_rules | `(tactic| walk_at "eval ListComp") => `(tactic| (k_here; k_dflt (refine LCt.ListComp_T (F₀ := by k_asm) (by with_unfolding_all rfl) (by decide) (by rfl) (by decide) (by rfl) ?_)))
local macro_rules | `(tactic| walk_at "CompSrcT") => `(tactic| (k_here; refine HoldOn.go ?_))
local macro_rules | `(tactic| walk_at "call type:bytes") => `(tactic| (k_here; (with_reducible show wpAny _ _ (call (Value.type "bytes") [Value.ref _]) _ _ _); k_dflt (refine' KBa.make_K ?F ?N ?h ?l ?i ?r ?n ?_; (case F => k_asm); (case N => k_asm); (case h => rfl); (case l => exact News.isList (by k_asm) (by k_mem)); (case i => assumption); (case r => assumption); (case n => (try simp only [List.length_append]); omega); k_whole); intro h' t' k' F' N' i'))
theorem seg14 (w : World) (mg mb : Str → Option Value) (mean : ExcName → Option Value) (h₀ : Heap) (L a : Addr) (cd : Value) (s : Shared) (Q : Flow → Shared → Prop) (E₂ : Value → Shared → Prop) (mo : Str → Option Value) (Z V R D P M A U : Addr) (oZ oV oUl oA oM oD oP oK oS oU oW : Obj) (ps rs : List Value) (page row : List Int) (kp kr : Nat) (v : Value) (mc mx mk : Option Value)
    (X : (hd.heap_39 w.params).In h₀) (T : TopM mean mg mb h₀) (hoP : oP.data = .cell (some (.ref P)))
    (hI : IntsAre ps page) (hpage : KBa.In page) (hpl : page.length ≤ 200) (hIr : IntsAre rs row) (hrow : KBa.In row) (hrl : row.length ≤ 200) (ho : TextOut page row v)
    (F : Fr h₀ L s.heap (lawMap13 R D M V Z v mc mx mk mo)) (N : News h₀ L s.heap [(Z, oZ), (V, oV), (U, oUl), (A, oA), (M, oM), (P, listOf ps.toArray kp), (R, listOf rs.toArray kr), (D, oD), (L + 1 + 1 + 1 + 1 + 1, oW), (L + 1 + 1 + 1 + 1, oU), (L + 1 + 1 + 1, oS), (L + 1 + 1, oK), (L + 1, oP)])
    (hq : ∀ h' tk, Fr h₀ L h' (lawMap13 R D M V Z v mc mx mk mo) → Q (.ret (.bool true)) { s with heap := h', toks := tk }) :
    wpAny (model PySem.Challenge.rw_kq0072_01.row.prog w) (lawA L a cd) (execs [stmtAt lawBody 14, stmtAt lawBody 15] (lawEnv L a cd)) Q (LE w L a cd E₂) s := by
  have pt := @plain_turns w mg mb mean h₀ L a cd
  dsimp only [LE, lawA, lawEnv, lawBody, lawScope, lawDef, stmtAt, defBody, defScope, PySem.Challenge.pw_kq0072_01, highComp, cmpLeft, ifTest, compElt, compTest, compIfs, compScope, PRG] at F pt hq ⊢
  revert X
  k_fill
  intro X
  k_steps
  refine HoldOn.mk ?_
  refine LCt.CompSrcT.ledger rfl F N (List.mem_cons_of_mem _ (List.mem_cons_of_mem _ (List.mem_cons_of_mem _ (List.mem_cons_of_mem _ (List.mem_cons_of_mem _ (List.mem_cons_self ..)))))) (by rw [List.size_toArray, intsAre_len hI, sizeLine_eq]; omega) ?_
  intro g'
  refine pt _ _ ps page _ _ Z V U A M P R D _ _ _ _ _ _ _ _ oW oU oS oK oP X T ?hS hI hpage ?fin _ 0 [] (Nat.zero_add _) .nil
  case hS => exact .inr ⟨_, List.mem_cons_of_mem _ (List.mem_cons_of_mem _ (List.mem_cons_of_mem _ (List.mem_cons_of_mem _ (List.mem_cons_of_mem _ (List.mem_cons_self ..))))), rfl, _, rfl⟩
  case fin =>
    intro ys hys
    unfold LCg.FinE
    intro W h2 tk2 F2 N2 o1
    clear F N
    rcases ho with ⟨hall, r, u, rfl, hr⟩ | ⟨⟨c, hc, hn⟩, u, rfl⟩
    · have e : page.filter highB = [] := List.filter_eq_nil_iff.mpr fun c hc => high_n (hall c hc)
      rw [e] at hys
      revert X
      k_fill
      intro X
      k_steps
      rename Fr _ _ _ _ => hF
      have e9 : r = byteArr row := ints_inj (hr.trans (KBa.ints_make hrow).symm)
      rw [e9, beq_self_eq_true]
      exact hq _ _ hF
    · obtain ⟨x, xs, e⟩ : ∃ x xs, page.filter highB = x :: xs := by
        cases q : page.filter highB with
        | nil => exact absurd (high_y hn) (List.filter_eq_nil_iff.mp q c hc)
        | cons x xs => exact ⟨x, xs, rfl⟩
      rw [e] at hys
      revert X
      k_fill
      intro X
      k_steps
      all_goals first
        | (exfalso; rename decide (_ :: _ = []) = true => hdec; exact absurd (of_decide_eq_true hdec) (List.cons_ne_nil _ _))
        | (rename Fr _ _ _ _ => hF; (show Q (Flow.ret (Value.bool (asciiS == asciiS))) _); rw [beq_self_eq_true]; exact hq _ _ hF)
end Mine
end
section -- Pure5
open PySem PySem.W PyProof.Rows
set_option maxRecDepth 100000
namespace Mine
def kindOk (j n : Nat) : Bool := !(means_nothingB (n : Int)) || (kindB j (n : Int) == (kMem j).any fun x => x == (n : Int))
theorem kind_of_ok {j : Nat} (h : (List.range 256).all (kindOk j) = true) (c : Int) (h0 : 0 ≤ c) (h1 : c < 256) (hm : means_nothingB c = true) : kindB j c = ((kMem j).any fun x => x == c) := by
  have := List.all_eq_true.mp h c.toNat (List.mem_range.mpr (by omega))
  unfold kindOk at this
  rw [Int.toNat_of_nonneg h0, hm] at this
  simpa using this
theorem kind_ok0 : (List.range 256).all (kindOk 0) = true := by decide +kernel
theorem kind_ok1 : (List.range 256).all (kindOk 1) = true := by decide +kernel
theorem kind_ok3 : (List.range 256).all (kindOk 3) = true := by decide +kernel
theorem kind_ok6 : (List.range 256).all (kindOk 6) = true := by decide +kernel
theorem kind_ok7 : (List.range 256).all (kindOk 7) = true := by decide +kernel
theorem kind_ok8 : (List.range 256).all (kindOk 8) = true := by decide +kernel
theorem kind_ok10 : (List.range 256).all (kindOk 10) = true := by decide +kernel
theorem kind_ok11 : (List.range 256).all (kindOk 11) = true := by decide +kernel
theorem kind_ok12 : (List.range 256).all (kindOk 12) = true := by decide +kernel
theorem kind_ok13 : (List.range 256).all (kindOk 13) = true := by decide +kernel
theorem kind_ok14 : (List.range 256).all (kindOk 14) = true := by decide +kernel
theorem range_any (a c : Int) (n : Nat) : (rangeInts a 1 n).any (fun x => x == c) = decide (a ≤ c ∧ c < a + n) := by
  rw [Bool.eq_iff_iff, List.any_eq_true, decide_eq_true_iff]
  constructor
  · rintro ⟨x, hx, e⟩
    have := mem_rangeInts hx
    rw [← (beq_iff_eq.mp e)]
    exact this
  · intro h
    refine ⟨c, List.mem_of_getElem? (i := (c - a).toNat) ?_, beq_iff_eq.mpr rfl⟩
    rw [rangeInts_get (by omega)]
    congr 1
    omega
theorem kind_law (j : Nat) (hj : j < 15) (c : Int) (h0 : 0 ≤ c) (h1 : c < 256) (hm : means_nothingB c = true) : kindB j c = ((kMem j).any fun x => x == c) := by
  match j, hj with
  | 0, _ => exact kind_of_ok kind_ok0 c h0 h1 hm
  | 1, _ => exact kind_of_ok kind_ok1 c h0 h1 hm
  | 2, _ =>
    show isasciiB c = (rangeInts 0 1 128).any _
    rw [range_any, Bool.eq_iff_iff, decide_eq_true_iff]
    unfold isasciiB
    simp only [Bool.and_eq_true, Bool.or_eq_true, decide_eq_true_iff]
    omega
  | 3, _ => exact kind_of_ok kind_ok3 c h0 h1 hm
  | 4, _ =>
    show iscntrlB c = (rangeInts 0 1 32 ++ [127]).any _
    rw [List.any_append, range_any, Bool.eq_iff_iff, Bool.or_eq_true, decide_eq_true_iff]
    unfold iscntrlB
    simp only [Bool.and_eq_true, Bool.or_eq_true, decide_eq_true_iff, List.any_cons, List.any_nil, Bool.or_false, beq_iff_eq]
    omega
  | 5, _ =>
    show isctrlB c = (rangeInts 0 1 32).any _
    rw [range_any, Bool.eq_iff_iff, decide_eq_true_iff]
    unfold isctrlB
    simp only [Bool.and_eq_true, Bool.or_eq_true, decide_eq_true_iff]
    omega
  | 6, _ => exact kind_of_ok kind_ok6 c h0 h1 hm
  | 7, _ => exact kind_of_ok kind_ok7 c h0 h1 hm
  | 8, _ => exact kind_of_ok kind_ok8 c h0 h1 hm
  | 9, _ =>
    show ismetaB c = (rangeInts 128 1 128).any _
    rw [range_any, Bool.eq_iff_iff, decide_eq_true_iff]
    unfold ismetaB
    simp only [Bool.and_eq_true, Bool.or_eq_true, decide_eq_true_iff]
    omega
  | 10, _ => exact kind_of_ok kind_ok10 c h0 h1 hm
  | 11, _ => exact kind_of_ok kind_ok11 c h0 h1 hm
  | 12, _ => exact kind_of_ok kind_ok12 c h0 h1 hm
  | 13, _ => exact kind_of_ok kind_ok13 c h0 h1 hm
  | 14, _ => exact kind_of_ok kind_ok14 c h0 h1 hm
  | n + 15, h => exact absurd h (by omega)
end Mine
end
section -- Seg1
open PySem PySem.W PyProof.Rows PySem.Calls
set_option maxRecDepth 100000
set_option maxHeartbeats 4000000
namespace Mine
local macro_rules | `(tactic| walk_at "callWith") => `(tactic| ((with_reducible show wpAny _ _ (callWith _ (Value.builtin _) (_ :: _) _ _) _ _ _); refine callWith_method1 ?_))
local macro_rules | `(tactic| walk_at "exec Assign cons ListComp") => `(tactic| (k_here; k_dflt (refine LCt.Assign_ListComp_T (F₀ := by k_asm) (by rfl) (by with_unfolding_all rfl) (by with_unfolding_all rfl) (by decide) (by rfl) (by decide) (by rfl) (by rfl) (by rfl) ?_)))
local macro_rules | `(tactic| walk_at "CompSrcT") => `(tactic| fail)
theorem seg1 (w : World) (mg mb : Str → Option Value) (mean : ExcName → Option Value) (h₀ : Heap) (L a : Addr) (cd : Value) (s : Shared) (Q : Flow → Shared → Prop) (E₂ : Value → Shared → Prop) (mo : Str → Option Value) (D : Addr) (ws : List Value) (ns : List Int) (kd : Nat) (oP oK oS oU oW : Obj) (rest : List Stmt)
    (X : (hd.heap_39 w.params).In h₀) (T : TopM mean mg mb h₀) (hI : IntsAre ws ns) (hl : ns.length ≤ 30) (hd1 : @LT.lt Nat _ (L + 1 + 1 + 1 + 1 + 1) D)
    (F : Fr h₀ L s.heap (fun y => if y = Str.ofString "numbers" then some (.ref D) else mo y)) (N : News h₀ L s.heap [(D, listOf ws.toArray kd), (L + 1 + 1 + 1 + 1 + 1, oW), (L + 1 + 1 + 1 + 1, oU), (L + 1 + 1 + 1, oS), (L + 1 + 1, oK), (L + 1, oP)])
    (hc : ∀ h' tk R rs k, IntsAre rs (rowOf ns) → Fr h₀ L h' (fun y => if y = Str.ofString "row" then some (.ref R) else if y = Str.ofString "numbers" then some (.ref D) else mo y) →
      News h₀ L h' [(R, listOf rs.toArray k), (D, listOf ws.toArray kd), (L + 1 + 1 + 1 + 1 + 1, oW), (L + 1 + 1 + 1 + 1, oU), (L + 1 + 1 + 1, oS), (L + 1 + 1, oK), (L + 1, oP)] →
      @Ne Nat R D → @Ne Nat R (L + 1 + 1 + 1 + 1 + 1) → @Ne Nat R (L + 1 + 1 + 1 + 1) → @Ne Nat R (L + 1 + 1 + 1) → @Ne Nat R (L + 1 + 1) → @Ne Nat R (L + 1) →
      wpAny (model PySem.Challenge.rw_kq0072_01.row.prog w) (lawA L a cd) (execs rest (lawEnv L a cd)) Q (LE w L a cd E₂) { s with heap := h', toks := tk }) :
    wpAny (model PySem.Challenge.rw_kq0072_01.row.prog w) (lawA L a cd) (execs (stmtAt lawBody 1 :: rest) (lawEnv L a cd)) Q (LE w L a cd E₂) s := by
  have pt := @row_turns w mg mb mean h₀ L a cd
  dsimp only [LE, lawA, lawEnv, lawBody, lawScope, lawDef, stmtAt, defBody, defScope, PySem.Challenge.pw_kq0072_01, asgVal, compTest, compElt, compIfs, compScope, PRG] at F pt hc ⊢
  revert X
  k_fill
  intro X
  k_steps
  refine LCt.CompSrcT.ledger rfl F N (List.mem_cons_self ..) (by rw [List.size_toArray, intsAre_len hI, sizeLine_eq]; omega) ?_
  intro g'
  refine pt _ _ _ ws ns _ _ _ X T hI ?hS ?fin _ 0 [] (Nat.zero_add _) .nil
  case hS => exact .inr ⟨_, List.mem_cons_self .., rfl, _, rfl⟩
  case fin =>
    intro rs hrs
    unfold LCg.FinA
    intro R h2 tk2 F2 N2 o1
    simp only [LCg.Off1, and_true] at o1
    obtain ⟨a0, a1, a2, a3, a4, a5⟩ := o1
    exact hc _ _ R rs _ hrs F2 N2 (Ne.symm a0) (Ne.symm a1) (Ne.symm a2) (Ne.symm a3) (Ne.symm a4) (Ne.symm a5)
end Mine
end
section -- Seg2
open PySem PySem.W PyProof.Rows
set_option maxRecDepth 100000
set_option maxHeartbeats 4000000
namespace Mine
local macro_rules | `(tactic| walk_at "callWith") => `(tactic| ((with_reducible show wpAny _ _ (callWith _ (Value.builtin _) (_ :: _) _ _) _ _ _); refine callWith_method1 ?_))
abbrev lawMap2 (R D : Addr) (mo : Str → Option Value) : Str → Option Value := fun y =>
  if y = Str.ofString "row" then some (.ref R) else if y = Str.ofString "numbers" then some (.ref D) else mo y
theorem seg2 (w : World) (mg mb : Str → Option Value) (mean : ExcName → Option Value) (h₀ : Heap) (L a : Addr) (cd : Value) (s : Shared) (Q : Flow → Shared → Prop) (E₂ : Value → Shared → Prop) (mo : Str → Option Value) (R D : Addr) (rs ws : List Value) (row ns : List Int) (kr kd : Nat) (oP oK oS oU oW : Obj) (vP : Option Value) (rest : List Stmt)
    (X : (hd.heap_39 w.params).In h₀) (T : TopM mean mg mb h₀) (hI : IntsAre rs row) (hl : row.length ≤ 30) (hrow : ∀ x ∈ row, 0 ≤ x ∧ x < 256)
    (hoP : oP.data = .cell vP) (hd1 : @LT.lt Nat _ (L + 1 + 1 + 1 + 1 + 1) D) (e0 : @Ne Nat R D) (e1 : @Ne Nat R (L + 1 + 1 + 1 + 1 + 1)) (e2 : @Ne Nat R (L + 1 + 1 + 1 + 1)) (e3 : @Ne Nat R (L + 1 + 1 + 1)) (e4 : @Ne Nat R (L + 1 + 1)) (e5 : @Ne Nat R (L + 1))
    (F : Fr h₀ L s.heap (lawMap2 R D mo)) (N : News h₀ L s.heap [(R, listOf rs.toArray kr), (D, listOf ws.toArray kd), (L + 1 + 1 + 1 + 1 + 1, oW), (L + 1 + 1 + 1 + 1, oU), (L + 1 + 1 + 1, oS), (L + 1 + 1, oK), (L + 1, oP)])
    (hc : ∀ h' tk P ps k oP', oP'.data = .cell (some (.ref P)) → IntsAre ps (writ row) → Fr h₀ L h' (lawMap2 R D mo) →
      News h₀ L h' [(P, listOf ps.toArray k), (R, listOf rs.toArray kr), (D, listOf ws.toArray kd), (L + 1 + 1 + 1 + 1 + 1, oW), (L + 1 + 1 + 1 + 1, oU), (L + 1 + 1 + 1, oS), (L + 1 + 1, oK), (L + 1, oP')] →
      @Ne Nat P R → @Ne Nat P D → @Ne Nat P (L + 1 + 1 + 1 + 1 + 1) → @Ne Nat P (L + 1 + 1 + 1 + 1) → @Ne Nat P (L + 1 + 1 + 1) → @Ne Nat P (L + 1 + 1) → @Ne Nat P (L + 1) →
      wpAny (model PySem.Challenge.rw_kq0072_01.row.prog w) (lawA L a cd) (execs rest (lawEnv L a cd)) Q (LE w L a cd E₂) { s with heap := h', toks := tk }) :
    wpAny (model PySem.Challenge.rw_kq0072_01.row.prog w) (lawA L a cd) (execs (stmtAt lawBody 2 :: rest) (lawEnv L a cd)) Q (LE w L a cd E₂) s := by
  dsimp only [LE, lawA, lawEnv, lawBody, lawScope, lawDef, stmtAt, defBody, defScope, PySem.Challenge.pw_kq0072_01, lawMap2] at F hc ⊢
  revert X
  k_fill
  intro X
  k_steps
  refine law_writing w mg mb mean h₀ L a cd _ _ _ _ R rs row F X T ⟨_, (N _ (List.mem_cons_self ..)).1, rfl, _, rfl⟩ hI hl hrow ?_
  intro h' tk P ps k F' keep hn hP hps
  have N2 := news_new N F keep hn hP
  have n0 : @Ne Nat P R := ne_new hn (N _ (by k_mem : (R, _) ∈ _)).1
  have n1 : @Ne Nat P D := ne_new hn (N _ (by k_mem : (D, _) ∈ _)).1
  have n2 : @Ne Nat P (L + 1 + 1 + 1 + 1 + 1) := ne_new hn (N _ (by k_mem : ((L + 1 + 1 + 1 + 1 + 1), _) ∈ _)).1
  have n3 : @Ne Nat P (L + 1 + 1 + 1 + 1) := ne_new hn (N _ (by k_mem : ((L + 1 + 1 + 1 + 1), _) ∈ _)).1
  have n4 : @Ne Nat P (L + 1 + 1 + 1) := ne_new hn (N _ (by k_mem : ((L + 1 + 1 + 1), _) ∈ _)).1
  have n5 : @Ne Nat P (L + 1 + 1) := ne_new hn (N _ (by k_mem : ((L + 1 + 1), _) ∈ _)).1
  have n6 : @Ne Nat P (L + 1) := ne_new hn (N _ (by k_mem : ((L + 1), _) ∈ _)).1
  clear F N keep
  k_steps
  exact hc _ _ P ps k _ (by assumption) hps (by assumption) (by assumption) n0 n1 n2 n3 n4 n5 n6
end Mine
end
section -- Law3
open PySem PySem.W PyProof.Rows PySem.Calls
set_option maxRecDepth 100000
set_option maxHeartbeats 4000000
namespace Mine
theorem rowOf_in (ns : List Int) : KBa.In (rowOf ns) := fun x hx => by
  unfold rowOf at hx
  obtain ⟨y, _, rfl⟩ := List.mem_map.mp hx
  omega
theorem rowOf_len (ns : List Int) : (rowOf ns).length ≤ ns.length := by
  unfold rowOf
  rw [List.length_map]
  exact List.length_filter_le _ _
theorem rowOf_app (a b : List Int) : rowOf (a ++ b) = rowOf a ++ rowOf b := by
  unfold rowOf
  rw [List.filter_append, List.map_append]
theorem writN_len : ∀ n l, (writN n l).length ≤ 5 * n := by
  intro n
  induction n with
  | zero => intro l; exact Nat.le_refl _
  | succ n ih =>
    intro l
    show (wrPiece (l.take 4) ++ writN n (l.drop 4)).length ≤ _
    rw [List.length_append]
    have h1 := wrPiece_len (l.take 4)
    have h2 := ih (l.drop 4)
    omega
theorem writ_len (l : List Int) (h : l.length ≤ 30) : (writ l).length ≤ 40 := by
  unfold writ
  have h1 := writN_len (turnsOf l.length) l
  have h2 : turnsOf l.length ≤ 8 := by unfold turnsOf; omega
  omega
theorem kMem_len (j : Nat) (hj : j < 15) : (kMem j).length ≤ 300 := by
  match j, hj with
  | 0, _ => decide +kernel
  | 1, _ => decide +kernel
  | 2, _ => decide +kernel
  | 3, _ => decide +kernel
  | 4, _ => decide +kernel
  | 5, _ => decide +kernel
  | 6, _ => decide +kernel
  | 7, _ => decide +kernel
  | 8, _ => decide +kernel
  | 9, _ => decide +kernel
  | 10, _ => decide +kernel
  | 11, _ => decide +kernel
  | 12, _ => decide +kernel
  | 13, _ => decide +kernel
  | 14, _ => decide +kernel
  | n + 15, h => exact absurd h (by omega)
theorem due_sub (mem page : List Int) : ∀ c ∈ dueOf mem page, c ∈ page := fun c hc => by
  obtain ⟨i, hi, rfl⟩ := List.getElem_of_mem hc
  obtain ⟨p, q, e, _⟩ := (dueInv_of mem page).each i hi
  have hmem : ∀ d, page = p ++ d :: q → d ∈ page := fun d e => by rw [e]; simp
  exact hmem _ e
theorem map_23 (R D : Addr) (mo : Str → Option Value) (y : Str) : lawMap2 R D mo y = lawMap3' R D (mo (Str.ofString "x")) (mo (Str.ofString "k")) mo y := by
  unfold lawMap2 lawMap3'
  by_cases h1 : y = Str.ofString "x"
  · subst h1; rw [if_pos rfl, if_neg (by decide +kernel), if_neg (by decide +kernel)]
  rw [if_neg h1]
  by_cases h2 : y = Str.ofString "k"
  · subst h2; rw [if_pos rfl, if_neg (by decide +kernel), if_neg (by decide +kernel)]
  rw [if_neg h2]
theorem map_47 (R D M : Addr) (mx mk : Option Value) (mo : Str → Option Value) (y : Str) : lawMap4' R D M mx mk mo y = lawMap7 R D M (lawMap4' R D M mx mk mo (Str.ofString "c")) mx mk mo y := by
  by_cases h1 : y = Str.ofString "c"
  · subst h1; exact (if_pos rfl).symm
  · exact (if_neg h1).symm
theorem law_tail : ∀ b : List Stmt, b.length = 16 → b.drop 1 = [stmtAt b 1, stmtAt b 2, stmtAt b 3, stmtAt b 4, stmtAt b 5, stmtAt b 6, stmtAt b 7, stmtAt b 8, stmtAt b 9, stmtAt b 10, stmtAt b 11, stmtAt b 12, stmtAt b 13, stmtAt b 14, stmtAt b 15] := by
  intro b hb
  match b, hb with
  | [_, _, _, _, _, _, _, _, _, _, _, _, _, _, _, _], _ => rfl
theorem law_walk (w : World) (mg mb : Str → Option Value) (mean : ExcName → Option Value) (h₀ : Heap) (L a : Addr) (cd : Value) (s : Shared) (Q : Flow → Shared → Prop) (E₂ : Value → Shared → Prop) (mo : Str → Option Value) (D : Addr) (ws : List Value) (sc : List Int) (kd : Nat) (oP oK oS oU oW : Obj) (vP vK vS vU vW : Option Value)
    (X : (hd.heap_39 w.params).In h₀) (T : TopM mean mg mb h₀) (hI : IntsAre ws ([0, 0, 0, 0, 510, 2, 19] ++ sc)) (hl : sc.length ≤ 14) (hd1 : @LT.lt Nat _ (L + 1 + 1 + 1 + 1 + 1) D)
    (hoP : oP.data = .cell vP) (hoK : oK.data = .cell vK) (hoS : oS.data = .cell vS) (hoU : oU.data = .cell vU) (hoW : oW.data = .cell vW)
    (F : Fr h₀ L s.heap (fun y => if y = Str.ofString "numbers" then some (.ref D) else mo y)) (N : News h₀ L s.heap [(D, listOf ws.toArray kd), (L + 1 + 1 + 1 + 1 + 1, oW), (L + 1 + 1 + 1 + 1, oU), (L + 1 + 1 + 1, oS), (L + 1 + 1, oK), (L + 1, oP)])
    (hq : ∀ h' tk m', Fr h₀ L h' m' → Q (.ret (.bool true)) { s with heap := h', toks := tk }) :
    wpAny (model PySem.Challenge.rw_kq0072_01.row.prog w) (lawA L a cd) (execs (lawBody.drop 1) (lawEnv L a cd)) Q (LE w L a cd E₂) s := by
  rw [law_tail lawBody (by decide +kernel)]
  obtain ⟨ns, hns⟩ : ∃ ns : List Int, ns = [0, 0, 0, 0, 510, 2, 19] ++ sc := ⟨_, rfl⟩
  rw [← hns] at hI
  have hnl : ns.length ≤ 30 := by rw [hns, List.length_append]; simp only [List.length_cons, List.length_nil]; omega
  have hnl2 : ns.length ≤ 21 := by rw [hns, List.length_append]; simp only [List.length_cons, List.length_nil]; omega
  obtain ⟨row, hrow⟩ : ∃ row, row = rowOf ns := ⟨_, rfl⟩
  have hrin : KBa.In row := hrow ▸ rowOf_in ns
  have hrl : row.length ≤ 30 := by rw [hrow]; exact Nat.le_trans (rowOf_len ns) hnl
  have hr0 : row ≠ [] := by
    rw [hrow, hns, rowOf_app]
    have e : rowOf [0, 0, 0, 0, 510, 2, 19] = [0, 0, 0, 0, 255, 1] := by decide +kernel
    rw [e]
    exact List.cons_ne_nil _ _
  have hwl := writ_len row hrl
  obtain ⟨hgood, hdo, hpin⟩ := page_all row ns hrin
  have hpl0 := pageOf_len ns (writ row)
  obtain ⟨page, hpage⟩ : ∃ page, page = pageOf (writ row) ns := ⟨_, rfl⟩
  rw [← hpage] at hgood hdo hpin hpl0
  have hpl : page.length ≤ 200 := by omega
  have hp0 : 0 < page.length := by
    cases q : page with
    | nil =>
      rw [q] at hdo
      exact absurd (hdo.symm.trans (by decide +kernel : doutI ([] ++ [117, 117, 117, 117]) = [])) hr0
    | cons x xs => exact Nat.zero_lt_succ _
  have nlt : ∀ {x y : Nat}, x < y → @Ne Nat y x := fun h e => Nat.lt_irrefl _ (e ▸ h)
  have d1 : @Ne Nat D (L + 1 + 1 + 1 + 1 + 1) := nlt hd1
  have d2 : @Ne Nat D (L + 1 + 1 + 1 + 1) := nlt (Nat.lt_trans (Nat.lt_succ_self _) hd1)
  refine seg1 w mg mb mean h₀ L a cd _ Q E₂ mo D ws ns _ _ _ _ _ _ _ X T hI hnl hd1 F N ?_
  intro h1 tk1 R rs k1 hrs F1 N1 e0 e1 e2 e3 e4 e5
  rw [← hrow] at hrs
  clear F N
  refine seg2 w mg mb mean h₀ L a cd _ Q E₂ mo R D _ _ _ ns _ _ _ _ _ _ _ _ _ X T hrs hrl hrin hoP hd1 e0 e1 e2 e3 e4 e5 F1 N1 ?_
  intro h2 tk2 P ps0 k2 oP2 hoP2 hps0 F2 N2 n0 n1 n2 n3 n4 n5 n6
  clear F1 N1
  have F2 := fr_congr F2 (fun y => (map_23 R D mo y).symm)
  refine seg3 w mg mb mean h₀ L a cd _ Q E₂ mo R D P _ _ _ ns _ _ _ _ _ _ _ _ _ _ _ _ X T hI hps0 hnl (by omega) hoP2 hd1 e0 e1 e2 e3 e4 e5 n0 n1 n2 n3 n4 n5 n6 F2 N2 ?_
  intro h3 tk3 mx3 mk3 ps k3 hps F3 N3
  rw [← hpage] at hps
  clear F2 N2
  refine seg4 w mg mb mean h₀ L a cd _ Q E₂ mo R D P _ _ _ ns _ _ _ _ _ _ _ _ _ _ _ _ X T hI hnl hoP2 hoK hd1 e0 e1 e2 e3 e4 e5 n0 n1 n2 n3 n4 n5 n6 F3 N3 ?_
  intro h4 tk4 j M ms km oK4 hj hoK4 hms F4 N4 m0 m1 m2 m3 m4 m5 m6 m7
  clear F3 N3
  obtain ⟨ml, rfl⟩ : ∃ ml : List Value, ms = ml.toArray := ⟨ms.toList, by simp⟩
  rw [List.toList_toArray] at hms
  refine seg5 w mg mb mean h₀ L a cd _ Q E₂ mo R D P M _ _ _ _ _ j _ _ _ _ _ _ _ _ _ _ _ _ _ hj X T hps hpl hpin hoP2 hoK4 hoS hd1 e0 e1 e2 e3 e4 e5 n0 n1 n2 n3 n4 n5 n6 m0 m1 m2 m3 m4 m5 m6 m7 F4 N4 ?_
  intro h5 tk5 A as k5 oS5 hoS5 has F5 N5 a0 a1 a2 a3 a4 a5 a6 a7 a8
  clear F4 N4
  refine seg6 w mg mb mean h₀ L a cd _ Q E₂ mo R D P M A _ _ _ _ _ _ _ _ _ _ _ _ _ _ X T hoU n3 m4 e2 d2 a5 F5 N5 ?_
  intro h6 tk6 U oU6 hoU6 F6 N6 b0 b1 b2 b3 b4 b5
  clear F5 N5
  have F6 := fr_congr F6 (fun y => (map_47 R D M _ _ mo y).symm)
  refine seg7 w mg mb mean h₀ L a cd _ Q E₂ mo R D P M A U _ _ _ _ _ _ _ _ _ _ _ _ _ _ _ _ _ _ X T hoP2 hoU6 hps hms (by rw [intsAre_len hms]; exact kMem_len j hj) hpl hpin b0 b1 b2 b3 b4 b5 F6 N6 ?_
  intro h7 tk7 mc7 us k7 hus F7 N7
  clear F6 N6
  refine seg8 w mg mb mean h₀ L a cd _ Q E₂ mo R D P M A U _ _ _ _ _ _ _ _ _ _ _ _ _ _ _ _ X T hoW n2 m3 e1 d1 a4 (nlt b5) F7 N7 ?_
  intro h8 tk8 oW8 tw hoW8 F8 N8
  clear F7 N7
  obtain ⟨due, hdue⟩ : ∃ due, due = dueOf (kMem j) page := ⟨_, rfl⟩
  rw [← hdue] at hus
  have hdl : due.length ≤ 200 := by
    have := dueOf_len (kMem j) page []
    rw [hdue]
    exact Nat.le_trans this (by simpa using hpl)
  have hdin : KBa.In due := fun c hc => hpin c (due_sub _ _ c (hdue ▸ hc))
  have hain : KBa.In (page.filter (kindB j)) := fun c hc => hpin c (List.mem_filter.mp hc).1
  have hal : (page.filter (kindB j)).length ≤ 200 := Nat.le_trans (List.length_filter_le _ _) hpl
  have hkl : ∀ c ∈ page, means_nothingB c = true → kindB j c = ((kMem j).any fun x => x == c) := fun c hc hm => kind_law j hj c (hpin c hc).1 (hpin c hc).2 hm
  refine seg9 w mg mb mean h₀ L a cd _ Q E₂ mo R D P M A U _ _ _ _ _ _ _ _ _ _ _ _ _ _ _ _ _ _ _ _ _ X T hoP2 hoS5 hoU6 hps has hus hpin hain hdin hpl hal hdl hgood F8 N8 ?_
  intro h9 tk9 V vs9 k9 htales F9 N9
  clear F8 N8
  rw [hdue] at htales
  obtain ⟨vs, r, ur, rfl, hvs, hrr⟩ := tales_out hkl htales
  rw [← hdue] at hvs
  rw [hdo] at hrr
  refine seg10 w mg mb mean h₀ L a cd _ Q E₂ mo V R D P M A U oW _ _ _ _ _ _ _ _ _ _ _ _ _ _ _ _ _ _ _ _ _ _ _ _ X T hoW8 hoU6 hus hdin hdl hrs hrin (by omega) hvs hrr F9 N9 ?_
  intro h10 tk10 F10 N10
  clear F9 N9
  refine seg11 w mg mb mean h₀ L a cd _ Q E₂ mo V R D P M A U _ _ _ _ _ _ _ _ _ _ _ _ _ _ _ _ _ _ X T hoP2 hps hpin hpl F10 N10 ?_
  intro h11 tk11 Z zs k11 hzs F11 N11
  clear F10 N10
  refine seg12 w mg mb mean h₀ L a cd _ Q E₂ mo Z V R D P M A U _ _ _ _ _ _ _ _ _ _ _ _ _ _ _ _ _ _ _ _ _ _ _ X T hoP2 hoW8 hps hpin hpl hzs hrs hrin (by omega) hgood hdo F11 N11 ?_
  intro h12 tk12 F12 N12
  clear F11 N11
  refine seg13 w mg mb mean h₀ L a cd _ Q E₂ mo Z V R D P M A U _ _ _ _ _ _ _ _ _ _ _ _ _ _ _ _ _ _ _ _ X T hoP2 hps hpin hpl hp0 hgood hdo F12 N12 ?_
  intro h13 tk13 v13 ho13 F13 N13
  clear F12 N12
  refine seg14 w mg mb mean h₀ L a cd _ Q E₂ mo Z V R D P M A U _ _ _ _ _ _ _ _ _ _ _ _ _ _ _ _ _ _ _ _ _ X T hoP2 hps hpin hpl hrs hrin (by omega) ho13 F13 N13 ?_
  intro h14 tk14 F14
  exact hq _ _ _ F14
end Mine
end
section -- Top0
open PySem PySem.W PyProof.Rows PySem.Calls
set_option maxRecDepth 100000
set_option maxHeartbeats 8000000
theorem Mine.news_keepOne {h₀ h : Heap} {L : Addr} {x y z : Addr × Obj} {r : List (Addr × Obj)} (N : News h₀ L h (x :: y :: z :: r)) : News h₀ L h (x :: r) := fun p hp => by
  rcases List.mem_cons.mp hp with rfl | hp
  · exact N _ (List.mem_cons_self ..)
  · exact N _ (List.mem_cons_of_mem _ (List.mem_cons_of_mem _ (List.mem_cons_of_mem _ hp)))
local macro_rules | `(tactic| walk_at "no such node 0") => `(tactic| fail)
local macro_rules | `(tactic| walk_at "execs cons") => `(tactic| (k_here; (with_reducible show wpAny _ _ (execs (Stmt.Assign _ (Expr.ListComp _ _ _ _) _ :: _) _) _ _ _); refine Mine.HoldOn.go ?_))
theorem PySem.Challenge.cw_kq0072_01_holds : PySem.Challenge.rw_kq0072_01.Holds :=
  Mine.hd (by
    k_go0
    (all_goals try k_fold)
    k_steps
    refine Mine.HoldOn.mk ?_
    rename Fr _ _ _ _ => hF
    rename News _ _ _ _ => hN
    rename IntsAre _ (_ ++ _) => hI
    rename _ < _ ∧ _ < _ ∧ _ < _ ∧ _ < _ ∧ _ < _ ∧ _ < _ ∧ _ < _ => hl1
    have hN2 := Mine.news_keepOne hN
    refine' Mine.law_walk _ _ _ _ _ _ _ _ _ _ _ _ _ _ _ _ _ _ _ _ _ _ _ _ _ _ ?zX ?zT hI ?zl hl1.2.2.1 ?zp ?zk ?zs ?zu ?zw hF hN2 ?zq
    case zX => assumption
    case zT => assumption
    case zp => assumption
    case zk => assumption
    case zs => assumption
    case zu => assumption
    case zw => assumption
    case zl => rw [List.length_take]; omega
    case zq => (intro h9 tk9 m9 F9; k_steps))
end
