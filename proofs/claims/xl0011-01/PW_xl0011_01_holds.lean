import PyProof.Rows.All
import Wide.All
import OpenK.AllK
import Wide.FinOn
import Lean
import PySem.Challenge.RW_xl0011_01
set_option Elab.async false
set_option compiler.extract_closed false
namespace Mine
section
open PySem PySem.W PyProof.Rows
set_option maxRecDepth 100000
set_option maxHeartbeats 8000000
local macro_rules | `(tactic| o_head ($_f:term $k:term $a:term $e:term)) => `(tactic| o_head (PySem.W.kmHook $k $a $e [80]))
open_top hd for PySem.Challenge.rw_xl0011_01
end
section
open PySem PySem.W PyProof.Rows
open PySem.Calls PySem.Spec
set_option maxRecDepth 100000
set_option maxHeartbeats 8000000
theorem lk_str_getitem : typeLookup (.type "str") "__getitem__" = pure (some (.builtin "str.__getitem__")) := by rw [typeLookup_type, builtinLookup_eq_fast]; kernel_rfl
theorem ty_str_getitem : typeOf (.builtin "str.__getitem__") = pure (.type "wrapper_descriptor") := by show builtinType _ = _; rw [builtinType_eq_fast]; kernel_rfl
theorem slot_wd_get : Slot "wrapper_descriptor" "__get__" "wrapper_descriptor.__get__" :=
  .of (owner := "wrapper_descriptor") (n := "__get__") (by rw [typeLookup_type, builtinLookup_eq_fast]; kernel_rfl) (by decide +kernel) (by decide +kernel) (by decide +kernel)
    (by first | exact .inl (by decide +kernel) | exact .inr (by decide +kernel)) (by rw [isSubtype_type]; kernel_rfl)
theorem lk_wd_set : typeLookup (.type "wrapper_descriptor") "__set__" = pure none := am_miss_of_fast (by decide +kernel)
theorem lk_wd_delete : typeLookup (.type "wrapper_descriptor") "__delete__" = pure none := am_miss_of_fast (by decide +kernel)
theorem entry_wd_get : entryFor table "wrapper_descriptor.__get__" = some Builtin.«wrapper_descriptor.__get__» := entryFor_of_tree (by kernel_rfl)
theorem args_wd_get (a b c : Value) : argsOk "wrapper_descriptor.__get__" ⟨[a, b, c], []⟩ := by unfold argsOk; kernel_rfl
theorem entry_hasattr : entryFor table "hasattr" = some Builtin.«hasattr» := entryFor_of_tree (by kernel_rfl)
theorem args_hasattr (a b : Value) : argsOk "hasattr" ⟨[a, b], []⟩ := by unfold argsOk; kernel_rfl
theorem sub_str_str : isSubtype (.type "str") (.type "str") = pure true := by rw [isSubtype_type]; kernel_rfl
section
variable {prog : Program} {w : World} {A : Around} {E : Value → Shared → Prop} {h : Heap} {g : Array GenState} {d : Drawn} {t : Nat} {os : OsState} {x : Str} {u : Tok}
theorem owner_str_getitem : ("str.__getitem__".cutAt '.') = ["str", "__getitem__"] := by first | rfl | decide +kernel
theorem sub_str_owner : isSubtype (.type "str") (.type (".".intercalate ("str.__getitem__".cutAt '.').dropLast)) = pure true := by
  rw [owner_str_getitem]; exact sub_str_str
theorem wd_get_str {R : Result → Shared → Prop} (hq : R (.ok (.ret (.ref h.objs.size))) ⟨h.push { cls := .type "method-wrapper", data := .fields #[.builtin "str.__getitem__", .str x u] }, g, d, t, os⟩) :
    codeAny (model prog w) A (.call (.builtin "wrapper_descriptor.__get__") ⟨[.builtin "str.__getitem__", .str x u, .type "str"], []⟩) R ⟨h, g, d, t, os⟩ := by
  have hT : (⟨h, g, d, t, os⟩ : Shared).TypeIs (.str x u) "str" := rfl
  have hT5 : (⟨h, g, d, t, os⟩ : Shared).TypeIs (.builtin "str.__getitem__") "wrapper_descriptor" := ty_str_getitem
  have f8 := sub_str_owner
  refine codeAny_call_builtin slot_wd_get.plain entry_wd_get (slot_wd_get.check _ _ _ _ _ _ _ _ hT5 (args_wd_get _ _ _) ?_)
  repeat (any_goals (first | ((fail_if_success (with_reducible show wpAny _ _ _ _ _ _)); assumption) | (with_reducible first | refine wpAny_pure ?_ | refine wpAny_bind ?_ | refine wpAny_holding ?_ | refine wpAny_standAt ?_ | refine wpAny_point ?_ | refine wpAny_rule ?_ | refine wpAny_letGo ?_ | refine wpAny_fresh' ?_ | refine wpAny_alloc' ?_ | refine wpAny_attempt ?_ | refine wpAny_throw ?_ | refine wpAny_of_eq (by assumption) ?_ | refine wpAny_typeOf (by assumption) ?_ | refine wpAny_specialOf_val (by assumption) (by assumption) ?_ | refine wpAny_specialOf (by assumption) (by assumption) ?_ | refine wpAny_isInstance_val (by assumption) (by assumption) ?_ | refine wpAny_isInstance (by assumption) (by assumption) ?_ | refine wpAny_call ?_ | refine wpAny_runValue ?_ | refine wpAny_run ?_) | ((with_reducible first | show wpAny _ _ (mkInt _) _ _ _ | show wpAny _ _ (mkStr _) _ _ _); wp_step) | wp_delta | ((with_reducible show wpAny _ _ (ite _ _ _) _ _ _); first | ((with_reducible refine wpAny_ite_false ?hc ?_); (case hc => rfl)) | ((with_reducible refine wpAny_ite_true ?hc ?_); (case hc => rfl)) | ((with_reducible refine wpAny_ite_false ?hc ?_); (case hc => simp [*]; done)) | ((with_reducible refine wpAny_ite_true ?hc ?_); (case hc => simp [*]; done))) | ((with_reducible first | refine wpAny_load' ?a ?_ | refine wpAny_loadPart' ?a ?_ | refine wpAny_update' ?a ?_ | refine wpAny_updatePart' ?a ?_); (case a => (heap_get; done))) | wp_step))
theorem getitem_entry_str {tk : Tok} {Q : Fin → Shared → Prop} (hq : Q (.done (.ret (.ref h.objs.size))) ⟨h.push { cls := .type "method-wrapper", data := .fields #[.builtin "str.__getitem__", .str x u] }, g, d, t, os⟩) :
    wpAny (model prog w) A (Builtin.«object.__getattribute__» ⟨[.str x u, .str "__getitem__" tk], []⟩) Q E ⟨h, g, d, t, os⟩ := by
  have hT : (⟨h, g, d, t, os⟩ : Shared).TypeIs (.str x u) "str" := rfl
  have hT5 : (⟨h, g, d, t, os⟩ : Shared).TypeIs (.builtin "str.__getitem__") "wrapper_descriptor" := ty_str_getitem
  have f4 := lk_str_getitem
  have f5 := ty_str_getitem
  have f6 := slot_wd_get.lookup
  have f7 := lk_wd_set
  have f8 := lk_wd_delete
  repeat (any_goals (first | ((fail_if_success (with_reducible show wpAny _ _ _ _ _ _)); assumption) | (with_reducible first | refine wpAny_pure ?_ | refine wpAny_bind ?_ | refine wpAny_holding ?_ | refine wpAny_standAt ?_ | refine wpAny_point ?_ | refine wpAny_rule ?_ | refine wpAny_letGo ?_ | refine wpAny_fresh' ?_ | refine wpAny_alloc' ?_ | refine wpAny_attempt ?_ | refine wpAny_throw ?_ | refine wpAny_of_eq (by assumption) ?_ | refine wpAny_typeOf (by assumption) ?_ | refine wpAny_specialOf_val (by assumption) (by assumption) ?_ | refine wpAny_specialOf (by assumption) (by assumption) ?_ | refine wpAny_isInstance_val (by assumption) (by assumption) ?_ | refine wpAny_isInstance (by assumption) (by assumption) ?_ | refine wpAny_call ?_ | refine wpAny_runValue ?_ | refine wpAny_run ?_) | ((with_reducible first | show wpAny _ _ (mkInt _) _ _ _ | show wpAny _ _ (mkStr _) _ _ _); wp_step) | wp_delta | ((with_reducible show wpAny _ _ (ite _ _ _) _ _ _); first | ((with_reducible refine wpAny_ite_false ?hc ?_); (case hc => rfl)) | ((with_reducible refine wpAny_ite_true ?hc ?_); (case hc => rfl)) | ((with_reducible refine wpAny_ite_false ?hc ?_); (case hc => simp [*]; done)) | ((with_reducible refine wpAny_ite_true ?hc ?_); (case hc => simp [*]; done))) | ((with_reducible first | refine wpAny_load' ?a ?_ | refine wpAny_loadPart' ?a ?_ | refine wpAny_update' ?a ?_ | refine wpAny_updatePart' ?a ?_); (case a => (heap_get; done))) | wp_step))
  refine wd_get_str ?_
  repeat (any_goals (first | ((fail_if_success (with_reducible show wpAny _ _ _ _ _ _)); assumption) | (with_reducible first | refine wpAny_pure ?_ | refine wpAny_bind ?_ | refine wpAny_holding ?_ | refine wpAny_standAt ?_ | refine wpAny_point ?_ | refine wpAny_rule ?_ | refine wpAny_letGo ?_ | refine wpAny_fresh' ?_ | refine wpAny_alloc' ?_ | refine wpAny_attempt ?_ | refine wpAny_throw ?_ | refine wpAny_of_eq (by assumption) ?_ | refine wpAny_typeOf (by assumption) ?_ | refine wpAny_specialOf_val (by assumption) (by assumption) ?_ | refine wpAny_specialOf (by assumption) (by assumption) ?_ | refine wpAny_isInstance_val (by assumption) (by assumption) ?_ | refine wpAny_isInstance (by assumption) (by assumption) ?_ | refine wpAny_call ?_ | refine wpAny_runValue ?_ | refine wpAny_run ?_) | ((with_reducible first | show wpAny _ _ (mkInt _) _ _ _ | show wpAny _ _ (mkStr _) _ _ _); wp_step) | wp_delta | ((with_reducible show wpAny _ _ (ite _ _ _) _ _ _); first | ((with_reducible refine wpAny_ite_false ?hc ?_); (case hc => rfl)) | ((with_reducible refine wpAny_ite_true ?hc ?_); (case hc => rfl)) | ((with_reducible refine wpAny_ite_false ?hc ?_); (case hc => simp [*]; done)) | ((with_reducible refine wpAny_ite_true ?hc ?_); (case hc => simp [*]; done))) | ((with_reducible first | refine wpAny_load' ?a ?_ | refine wpAny_loadPart' ?a ?_ | refine wpAny_update' ?a ?_ | refine wpAny_updatePart' ?a ?_); (case a => (heap_get; done))) | wp_step))
theorem getitem_call_str {tk : Tok} {R : Result → Shared → Prop} (hq : R (.ok (.ret (.ref h.objs.size))) ⟨h.push { cls := .type "method-wrapper", data := .fields #[.builtin "str.__getitem__", .str x u] }, g, d, t, os⟩) :
    codeAny (model prog w) A (.call (.builtin "object.__getattribute__") ⟨[.str x u, .str "__getitem__" tk], []⟩) R ⟨h, g, d, t, os⟩ :=
  codeAny_call_builtin F.slot_str_getattribute.plain F.entry_object_getattribute (F.slot_str_getattribute.check _ _ _ _ _ _ _ _ (show (⟨h, g, d, t, os⟩ : Shared).TypeIs (.str x u) "str" from rfl) (F.args_object_getattribute_2 _ _) (getitem_entry_str hq))
theorem getitem_by_str {tk : Tok} {Q : Value → Shared → Prop} (hq : Q (.ref h.objs.size) ⟨h.push { cls := .type "method-wrapper", data := .fields #[.builtin "str.__getitem__", .str x u] }, g, d, t, os⟩) : wpAny (model prog w) A (getAttrBy (.str x u) (.str "__getitem__" tk) false) Q E ⟨h, g, d, t, os⟩ := by
  have hT : (⟨h, g, d, t, os⟩ : Shared).TypeIs (.str x u) "str" := rfl
  have f2 := F.slot_str_getattribute.lookup
  have f3 := F.slot_str_getattribute.bind (.str x u)
  repeat (any_goals (first | ((fail_if_success (with_reducible show wpAny _ _ _ _ _ _)); assumption) | (with_reducible first | refine wpAny_pure ?_ | refine wpAny_bind ?_ | refine wpAny_holding ?_ | refine wpAny_standAt ?_ | refine wpAny_point ?_ | refine wpAny_rule ?_ | refine wpAny_letGo ?_ | refine wpAny_fresh' ?_ | refine wpAny_alloc' ?_ | refine wpAny_attempt ?_ | refine wpAny_throw ?_ | refine wpAny_of_eq (by assumption) ?_ | refine wpAny_typeOf (by assumption) ?_ | refine wpAny_specialOf_val (by assumption) (by assumption) ?_ | refine wpAny_specialOf (by assumption) (by assumption) ?_ | refine wpAny_isInstance_val (by assumption) (by assumption) ?_ | refine wpAny_isInstance (by assumption) (by assumption) ?_ | refine wpAny_call ?_ | refine wpAny_runValue ?_ | refine wpAny_run ?_) | ((with_reducible first | show wpAny _ _ (mkInt _) _ _ _ | show wpAny _ _ (mkStr _) _ _ _); wp_step) | wp_delta | ((with_reducible show wpAny _ _ (ite _ _ _) _ _ _); first | ((with_reducible refine wpAny_ite_false ?hc ?_); (case hc => rfl)) | ((with_reducible refine wpAny_ite_true ?hc ?_); (case hc => rfl)) | ((with_reducible refine wpAny_ite_false ?hc ?_); (case hc => simp [*]; done)) | ((with_reducible refine wpAny_ite_true ?hc ?_); (case hc => simp [*]; done))) | ((with_reducible first | refine wpAny_load' ?a ?_ | refine wpAny_loadPart' ?a ?_ | refine wpAny_update' ?a ?_ | refine wpAny_updatePart' ?a ?_); (case a => (heap_get; done))) | wp_step))
  refine getitem_call_str ?_
  repeat (any_goals (first | ((fail_if_success (with_reducible show wpAny _ _ _ _ _ _)); assumption) | (with_reducible first | refine wpAny_pure ?_ | refine wpAny_bind ?_ | refine wpAny_holding ?_ | refine wpAny_standAt ?_ | refine wpAny_point ?_ | refine wpAny_rule ?_ | refine wpAny_letGo ?_ | refine wpAny_fresh' ?_ | refine wpAny_alloc' ?_ | refine wpAny_attempt ?_ | refine wpAny_throw ?_ | refine wpAny_of_eq (by assumption) ?_ | refine wpAny_typeOf (by assumption) ?_ | refine wpAny_specialOf_val (by assumption) (by assumption) ?_ | refine wpAny_specialOf (by assumption) (by assumption) ?_ | refine wpAny_isInstance_val (by assumption) (by assumption) ?_ | refine wpAny_isInstance (by assumption) (by assumption) ?_ | refine wpAny_call ?_ | refine wpAny_runValue ?_ | refine wpAny_run ?_) | ((with_reducible first | show wpAny _ _ (mkInt _) _ _ _ | show wpAny _ _ (mkStr _) _ _ _); wp_step) | wp_delta | ((with_reducible show wpAny _ _ (ite _ _ _) _ _ _); first | ((with_reducible refine wpAny_ite_false ?hc ?_); (case hc => rfl)) | ((with_reducible refine wpAny_ite_true ?hc ?_); (case hc => rfl)) | ((with_reducible refine wpAny_ite_false ?hc ?_); (case hc => simp [*]; done)) | ((with_reducible refine wpAny_ite_true ?hc ?_); (case hc => simp [*]; done))) | ((with_reducible first | refine wpAny_load' ?a ?_ | refine wpAny_loadPart' ?a ?_ | refine wpAny_update' ?a ?_ | refine wpAny_updatePart' ?a ?_); (case a => (heap_get; done))) | wp_step))
theorem hasattr_str {tk : Tok} {Q : Value → Shared → Prop} (hq : Q (.bool true) ⟨h.push { cls := .type "method-wrapper", data := .fields #[.builtin "str.__getitem__", .str x u] }, g, d, t, os⟩) :
    wpAny (model prog w) A (call (.builtin "hasattr") [.str x u, .str "__getitem__" tk]) Q E ⟨h, g, d, t, os⟩ := by
  refine call_function_entry (id := "hasattr") (args := [.str x u, .str "__getitem__" tk]) (by decide +kernel) (by decide +kernel) entry_hasattr (args_hasattr _ _) ?_
  unfold Builtin.«hasattr»
  have hT : (⟨h, g, d, t, os⟩ : Shared).TypeIs (.str x u) "str" := rfl
  have f2 := F.slot_str_getattribute.lookup
  have f4 := lk_str_getitem
  repeat (any_goals (first | ((fail_if_success (with_reducible show wpAny _ _ _ _ _ _)); assumption) | ((with_reducible show wpAny _ _ (getAttrBy _ _ _) _ _ _); refine getitem_by_str ?_) | (with_reducible first | refine wpAny_pure ?_ | refine wpAny_bind ?_ | refine wpAny_holding ?_ | refine wpAny_standAt ?_ | refine wpAny_point ?_ | refine wpAny_rule ?_ | refine wpAny_letGo ?_ | refine wpAny_fresh' ?_ | refine wpAny_alloc' ?_ | refine wpAny_attempt ?_ | refine wpAny_throw ?_ | refine wpAny_of_eq (by assumption) ?_ | refine wpAny_typeOf (by assumption) ?_ | refine wpAny_specialOf_val (by assumption) (by assumption) ?_ | refine wpAny_specialOf (by assumption) (by assumption) ?_ | refine wpAny_isInstance_val (by assumption) (by assumption) ?_ | refine wpAny_isInstance (by assumption) (by assumption) ?_ | refine wpAny_call ?_ | refine wpAny_runValue ?_ | refine wpAny_run ?_) | ((with_reducible first | show wpAny _ _ (mkInt _) _ _ _ | show wpAny _ _ (mkStr _) _ _ _); wp_step) | wp_delta | ((with_reducible show wpAny _ _ (ite _ _ _) _ _ _); first | ((with_reducible refine wpAny_ite_false ?hc ?_); (case hc => rfl)) | ((with_reducible refine wpAny_ite_true ?hc ?_); (case hc => rfl)) | ((with_reducible refine wpAny_ite_false ?hc ?_); (case hc => simp [*]; done)) | ((with_reducible refine wpAny_ite_true ?hc ?_); (case hc => simp [*]; done))) | ((with_reducible first | refine wpAny_load' ?a ?_ | refine wpAny_loadPart' ?a ?_ | refine wpAny_update' ?a ?_ | refine wpAny_updatePart' ?a ?_); (case a => (heap_get; done))) | wp_step))
  exact ⟨_, rfl, hq⟩
end
end
section
inductive Tm where
  | leaf (c : Nat)
  | app (f a : Tm)
def Tm.has (x : Nat) : Tm → Bool
  | .leaf c => Nat.beq c x
  | .app f a => match f.has x with | true => true | false => a.has x
def Tm.size : Tm → Nat
  | .leaf _ => 1
  | .app f a => Nat.succ (Nat.add f.size a.size)
def Tm.same : Tm → Tm → Bool
  | .leaf c, .leaf d => Nat.beq c d
  | .app f a, .app g b => match f.same g with | true => a.same b | false => false
  | _, _ => false
def isLeaf (x : Nat) : Tm → Bool
  | .leaf c => Nat.beq c x
  | .app _ _ => false
def without (x : Nat) (drop more : Bool) : Tm → Tm
  | .leaf c => match Nat.beq c x with | true => .leaf 73 | false => .app (.leaf 75) (.leaf c)
  | .app f a => match f.has x with
    | false => match a.has x with
      | false => .app (.leaf 75) (.app f a)
      | true => match and drop (isLeaf x a) with
        | true => f
        | false => match more with
          | true => .app (.app (.leaf 66) f) (without x drop more a)
          | false => .app (.app (.leaf 83) (without x drop more f)) (without x drop more a)
    | true => match and more (not (a.has x)) with
      | true => .app (.app (.leaf 67) (without x drop more f)) a
      | false => .app (.app (.leaf 83) (without x drop more f)) (without x drop more a)
def unwind : Tm → List Tm → Nat × List Tm
  | .leaf c, st => (c, st)
  | .app f a, st => unwind f (a :: st)
def lim : Nat := 1000
def onOk (g x : Tm) : Bool := Nat.ble (Nat.add g.size x.size) lim
/-- a turn: what comes next, and how many terms were put together -/
def step (c : Nat) (st : List Tm) : Option (Tm × List Tm × Nat) := match Nat.beq c 73, st with
  | true, x :: st => some (x, st, 0)
  | true, [] => none
  | false, f :: g :: st => match Nat.beq c 75 with
    | true => some (f, st, 0)
    | false => match st with
      | x :: st => match Nat.beq c 83 with
        | true => match onOk g x with
          | true => some (f, x :: .app g x :: st, 1)
          | false => none
        | false => match Nat.beq c 66 with
          | true => match onOk g x with
            | true => some (f, .app g x :: st, 1)
            | false => none
          | false => match Nat.beq c 67 with
            | true => some (f, x :: g :: st, 0)
            | false => none
      | [] => none
  | false, _ => none
def goes (c : Nat) (st : List Tm) : Bool := match Nat.beq c 73, st with
  | true, _ :: _ => true
  | true, [] => false
  | false, _ :: _ :: st => match Nat.beq c 75 with
    | true => true
    | false => match st with
      | _ :: _ => match Nat.beq c 83 with
        | true => true
        | false => match Nat.beq c 66 with
          | true => true
          | false => Nat.beq c 67
      | [] => false
  | false, _ => false
def room (t : Tm) (st : List Tm) : Bool := Nat.ble (Nat.add t.size st.length) lim
def run : Nat → Tm → List Tm → Nat → Option (Nat × List Tm × Nat)
  | 0, _, _, _ => none
  | n + 1, t, st, k => match room t st with
    | false => none
    | true => match unwind t st with
      | (c, st) => match step c st with
        | some (t, st, j) => run n t st (Nat.add k j)
        | none => match goes c st with
          | true => none
          | false => some (c, st, k)
def few : List Tm → Bool
  | [] => true
  | [_] => true
  | [_, _] => true
  | [_, _, _] => true
  | _ => false
def normArgs (g : Tm → Option (Tm × Nat)) : List Tm → Tm → Nat → Option (Tm × Nat)
  | [], t, k => some (t, k)
  | a :: as, t, k => match g a with
    | none => none
    | some (r, j) => match onOk t r with
      | true => normArgs g as (.app t r) (Nat.succ (Nat.add k j))
      | false => none
def norm : Nat → Tm → Option (Tm × Nat)
  | 0, _ => none
  | d + 1, t => match run 400 t [] 0 with
    | none => none
    | some (c, args, k) => match few args with
      | true => normArgs (norm d) args (.leaf c) k
      | false => none
def subst (ρ : Nat → Nat) : Tm → Tm
  | .leaf c => .leaf (ρ c)
  | .app f a => .app (subst ρ f) (subst ρ a)
def rho (c : Nat) : Nat := match Nat.beq c 120 with
  | true => 112
  | false => match Nat.beq c 121 with
    | true => 113
    | false => match Nat.beq c 122 with
      | true => 114
      | false => c
end
section
open PySem PySem.W PyProof.Rows
open PySem.Calls PySem.Spec
set_option maxRecDepth 100000
set_option maxHeartbeats 8000000
noncomputable abbrev loose0 : List Str := looseW hd.view_39 [Str.ofString "_Accumulator", Str.ofString "IPV4_RE"]
noncomputable abbrev looseT : List Str := loose0 ++ (recsOf hd.view_39).map (·.name) ++ (litsOf hd.view_39).map (·.1) ++ (clssOf hd.view_39 loose0).map (·.name)
abbrev Led := List (Addr × Obj)

/-! the terms -/
def enc : Tm → List Nat
  | .leaf c => [c]
  | .app f a => 96 :: (enc f ++ enc a)
def txt (t : Tm) : Str := ⟨(enc t).toArray⟩
abbrev okc (c : Nat) : Prop := c ≠ 96 ∧ c < 1114112
def wf : Tm → Prop
  | .leaf c => okc c
  | .app f a => wf f ∧ wf a
theorem enc_inj : ∀ {t u : Tm} {r r' : List Nat}, wf t → wf u → enc t ++ r = enc u ++ r' → t = u ∧ r = r'
  | .leaf c, .leaf d, r, r', _, _, e => by
    simp only [enc, List.cons_append, List.nil_append, List.cons.injEq] at e
    exact ⟨by rw [e.1], e.2⟩
  | .leaf c, .app f a, r, r', h, _, e => by
    simp only [enc, List.cons_append, List.nil_append, List.cons.injEq] at e
    exact absurd e.1 h.1
  | .app f a, .leaf c, r, r', _, h, e => by
    simp only [enc, List.cons_append, List.nil_append, List.cons.injEq] at e
    exact absurd e.1.symm h.1
  | .app f a, .app g b, r, r', h, k, e => by
    simp only [enc, List.cons_append, List.append_assoc, List.cons.injEq, true_and] at e
    obtain ⟨e1, e2⟩ := enc_inj h.1 k.1 e
    obtain ⟨e3, e4⟩ := enc_inj h.2 k.2 e2
    exact ⟨by rw [e1, e3], e4⟩
theorem txt_inj {t u : Tm} (h : wf t) (k : wf u) (e : txt t = txt u) : t = u := by
  have e1 : (enc t).toArray = (enc u).toArray := by injection e
  have e2 : enc t = enc u := by simpa using e1
  exact (enc_inj (r := []) (r' := []) h k (by rw [e2])).1
theorem cps_txt {t : Tm} (h : wf t) : (txt t).cps.all (· < 0x110000) = true := by
  have e : ∀ t : Tm, wf t → ∀ x ∈ enc t, x < 1114112 := fun t => by
    induction t with
    | leaf c =>
      intro h x hx
      rw [List.mem_singleton.mp hx]; exact h.2
    | app f a ihf iha =>
      intro h x hx
      rcases List.mem_cons.mp hx with rfl | hx
      · decide
      · rcases List.mem_append.mp hx with hx | hx
        · exact ihf h.1 x hx
        · exact iha h.2 x hx
  unfold txt
  rw [Array.all_eq_true_iff_forall_mem]
  intro x hx
  exact decide_eq_true (e t h x (by simpa using hx))
theorem enc_pos (t : Tm) : 0 < (enc t).length := by cases t <;> simp [enc]

/-! the ledger -/
def put (news : Led) (a : Addr) (o : Obj) : Led := news.map fun p => if p.1 = a then (a, o) else p
def Ext (X : List Addr) (news news' : Led) : Prop := ∀ b o, (b, o) ∈ news → b ∉ X → (b, o) ∈ news'
theorem Ext.refl {X : List Addr} {news : Led} : Ext X news news := fun _ _ h _ => h
theorem Ext.trans {X : List Addr} {n1 n2 n3 : Led} (h : Ext X n1 n2) (k : Ext X n2 n3) : Ext X n1 n3 := fun b o m x => k b o (h b o m x) x
theorem Ext.weaken {X Y : List Addr} {n1 n2 : Led} (h : Ext X n1 n2) (k : ∀ b ∈ X, b ∈ Y) : Ext Y n1 n2 := fun b o m x => h b o m fun y => x (k b y)
theorem Ext.cons {X : List Addr} {p : Addr × Obj} {n1 : Led} : Ext X n1 (p :: n1) := fun _ _ m _ => .tail _ m
theorem Ext.uncons {X : List Addr} {p : Addr × Obj} {n1 n2 : Led} (h : Ext X (p :: n1) n2) : Ext X n1 n2 := fun b o m x => h b o (.tail _ m) x
theorem put_self {news : Led} {a : Addr} {o o' : Obj} (h : (a, o) ∈ news) : (a, o') ∈ put news a o' := List.mem_map.mpr ⟨(a, o), h, if_pos rfl⟩
theorem put_other {news : Led} {a b : Addr} {o o' : Obj} (h : (b, o) ∈ news) (n : b ≠ a) : (b, o) ∈ put news a o' := List.mem_map.mpr ⟨(b, o), h, if_neg n⟩
theorem Ext.put {X : List Addr} {news : Led} {a : Addr} {o : Obj} (h : a ∈ X) : Ext X news (put news a o) := fun _ _ m x => put_other m fun e => x (e ▸ h)
theorem news_put {h₀ h h' : Heap} {L a : Addr} {news : Led} {o o' : Obj} (N : News h₀ L h news) (hm : (a, o) ∈ news) (hs : Heap.SameBut a h h') (ho : h'.get? a = some o') : News h₀ L h' (put news a o') := by
  intro p hp
  obtain ⟨q, hq, rfl⟩ := List.mem_map.mp hp
  by_cases e : q.1 = a
  · rw [if_pos e]
    have := N _ hm
    exact ⟨ho, this.2.1, this.2.2⟩
  · rw [if_neg e]
    have := N _ hq
    exact ⟨(hs.2 _ e).trans this.1, this.2.1, this.2.2⟩

/-! the table of parts -/
abbrev tup (vs : List Value) : Obj := { cls := .type "tuple", data := .seq vs.toArray }
def known (kvs : List (Str × Value)) : Tm → Prop
  | .leaf _ => True
  | .app f a => txt (.app f a) ∈ kvs.map (·.1)
structure PState (prog : Program) (w : World) (news : Led) (P : Addr) (kvs : List (Str × Value)) : Prop where
  obj : ∃ o, (P, o) ∈ news ∧ o.IsDictOf (strKind prog w) kvs
  lo : (P == sysModules) = false
  all : ∀ kv ∈ kvs, ∃ f l a tf tl, kv = (txt (.app f l), .ref a) ∧ wf f ∧ wf l ∧ (a, tup [.str (txt f) tf, .str (txt l) tl]) ∈ news ∧ a ≠ P ∧ known kvs f ∧ known kvs l
theorem PState.ext {prog : Program} {w : World} {n1 n2 : Led} {P : Addr} {kvs : List (Str × Value)} {X : List Addr} (S : PState prog w n1 P kvs) (h : Ext X n1 n2) (hP : P ∉ X) (hX : ∀ b ∈ X, ∀ o, (b, o) ∈ n1 → ∀ vs, o ≠ tup vs) : PState prog w n2 P kvs := by
  obtain ⟨⟨o, ho, hd⟩, lo, all⟩ := S
  refine ⟨⟨o, h _ _ ho hP, hd⟩, lo, fun kv hkv => ?_⟩
  obtain ⟨f, l, a, tf, tl, e1, e2, e3, e4, e5, e6, e7⟩ := all kv hkv
  exact ⟨f, l, a, tf, tl, e1, e2, e3, h _ _ e4 (fun x => hX _ x _ e4 _ rfl), e5, e6, e7⟩
theorem PState.cons {prog : Program} {w : World} {n1 : Led} {P : Addr} {kvs : List (Str × Value)} {p : Addr × Obj} (S : PState prog w n1 P kvs) : PState prog w (p :: n1) P kvs :=
  S.ext (X := []) Ext.cons (by simp) (by simp)

theorem known_iff_value {kvs : List (Str × Value)} {k : Str} : (valueAt kvs k).isSome = true ↔ k ∈ kvs.map (·.1) := by
  unfold valueAt
  rw [Option.isSome_map, List.find?_isSome]
  constructor
  · rintro ⟨x, hx, e⟩
    exact List.mem_map.mpr ⟨x, hx, by simpa using e⟩
  · intro h
    obtain ⟨x, hx, e⟩ := List.mem_map.mp h
    exact ⟨x, hx, by simpa using e⟩
theorem stored_keys {kvs : List (Str × Value)} {k x : Str} {v : Value} : x ∈ (stored kvs k v).map (·.1) ↔ x = k ∨ x ∈ kvs.map (·.1) := by
  unfold stored
  split
  · rename_i h
    rw [keys_map_store]
    constructor
    · exact .inr
    · rintro (rfl | h')
      · obtain ⟨p, hp, e⟩ := List.any_eq_true.mp h
        exact List.mem_map.mpr ⟨p, hp, by simpa using e⟩
      · exact h'
  · rw [List.map_append, List.mem_append]
    simp only [List.map_cons, List.map_nil, List.mem_singleton]
    exact Or.comm
theorem stored_mem {kvs : List (Str × Value)} {k : Str} {v : Value} {p : Str × Value} (h : p ∈ stored kvs k v) : p = (k, v) ∨ p ∈ kvs := by
  unfold stored at h
  split at h
  · obtain ⟨q, hq, e⟩ := List.mem_map.mp h
    split at e
    · rename_i e2; subst e; exact .inl (by rw [e2])
    · subst e; exact .inr hq
  · rcases List.mem_append.mp h with h | h
    · exact .inr h
    · exact .inl (List.mem_singleton.mp h)
theorem known_stored {kvs : List (Str × Value)} {k : Str} {v : Value} : ∀ {t : Tm}, known kvs t → known (stored kvs k v) t
  | .leaf _, _ => trivial
  | .app _ _, h => stored_keys.mpr (.inr h)
theorem stored_len {kvs : List (Str × Value)} {k : Str} {v : Value} : (stored kvs k v).length ≤ kvs.length + 1 := by
  unfold stored
  split
  · rw [List.length_map]; omega
  · rw [List.length_append]; simp
theorem PState.value {prog : Program} {w : World} {news : Led} {P : Addr} {kvs : List (Str × Value)} (S : PState prog w news P kvs) {f l : Tm} (hf : wf f) (hl : wf l) (hk : known kvs (.app f l)) :
    ∃ a tf tl, valueAt kvs (txt (.app f l)) = some (.ref a) ∧ (a, tup [.str (txt f) tf, .str (txt l) tl]) ∈ news ∧ a ≠ P ∧ known kvs f ∧ known kvs l := by
  have h := known_iff_value.mpr hk
  obtain ⟨v, hv⟩ := Option.isSome_iff_exists.mp h
  unfold valueAt at hv
  obtain ⟨p, hp, e⟩ := Option.map_eq_some_iff.mp hv
  obtain ⟨f', l', a, tf, tl, e1, e2, e3, e4, e5, e6, e7⟩ := S.all p (List.mem_of_find?_eq_some hp)
  have hpk := List.find?_some hp
  have hpk' : p.1 = txt (.app f l) := by simpa using hpk
  rw [e1] at hpk' e
  have ee := txt_inj (t := .app f' l') (u := .app f l) ⟨e2, e3⟩ ⟨hf, hl⟩ hpk'
  injection ee with e8 e9
  subst e8 e9
  exact ⟨a, tf, tl, by unfold valueAt; rw [hp, e1]; rfl, e4, e5, e6, e7⟩
theorem PState.leaf {prog : Program} {w : World} {news : Led} {P : Addr} {kvs : List (Str × Value)} (S : PState prog w news P kvs) {c : Nat} (hc : okc c) : valueAt kvs (txt (.leaf c)) = none := by
  cases h : valueAt kvs (txt (.leaf c)) with
  | none => rfl
  | some v =>
    exfalso
    have h2 := known_iff_value.mp (by rw [h]; rfl)
    obtain ⟨p, hp, e⟩ := List.mem_map.mp h2
    obtain ⟨f', l', a, tf, tl, e1, e2, e3, _⟩ := S.all p hp
    rw [e1] at e
    have := txt_inj (t := .app f' l') (u := .leaf c) ⟨e2, e3⟩ hc e
    cases this
theorem PState.store {prog : Program} {w : World} {news : Led} {P a : Addr} {kvs : List (Str × Value)} (S : PState prog w news P kvs) {f l : Tm} {tf tl : Tok} {o' : Obj} (hf : wf f) (hl : wf l) (ha : (a, tup [.str (txt f) tf, .str (txt l) tl]) ∈ news) (hP : a ≠ P)
    (kf : known kvs f) (kl : known kvs l) (hd : o'.IsDictOf (strKind prog w) (stored kvs (txt (.app f l)) (.ref a))) : PState prog w (put news P o') P (stored kvs (txt (.app f l)) (.ref a)) := by
  obtain ⟨⟨o, ho, hd0⟩, lo, all⟩ := S
  refine ⟨⟨o', put_self ho, hd⟩, lo, fun kv hkv => ?_⟩
  rcases stored_mem hkv with rfl | hkv
  · exact ⟨f, l, a, tf, tl, rfl, hf, hl, put_other ha hP, hP, known_stored kf, known_stored kl⟩
  · obtain ⟨f', l', a', tf', tl', e1, e2, e3, e4, e5, e6, e7⟩ := all kv hkv
    exact ⟨f', l', a', tf', tl', e1, e2, e3, put_other e4 e5, e5, known_stored e6, known_stored e7⟩

/-! a contract -/
def Tel (w : World) (f : Addr) (args : List Value) (lvl : Nat) (Pre : Led → Prop) (Post : Led → Led → Value → Prop) : Prop :=
  ∀ (mean : ExcName → Option Value) (mg mb : Str → Option Value) (dp un : Nat) (gd : Option (List Code)) (cn : Str) (cs : Scope) (a : Addr) (ccd : Value) (cl : List (Str × Addr)) (outer : List Env) (A₀ : Around) (base h₀ : Heap) (L : Addr) (m : Str → Option Value)
    (news : Led) (s : Shared) (Q E : Value → Shared → Prop),
    Below A₀ base outer h₀ → Fr h₀ L s.heap m → (hd.heap_39 w.params).In h₀ → News h₀ L s.heap news → Top topProg looseT mean mg mb h₀ → cs.kind = .function → dp + lvl < recursionLimit → un + 8 * lvl < cLine → AllBare s.gens → Pre news →
    (∀ r news' h' tk' g', Fr h₀ L h' m → News h₀ L h' news' → AllBare g' → Post news news' r → Q r { heap := h', gens := g', drawn := s.drawn, toks := tk', os := s.os }) →
    wpAny (model PySem.Challenge.rw_xl0011_01.row.prog w) (ktrTop dp un gd cn cs L a ccd cl outer) (call (.ref f) args) Q E s
theorem tel_use {w : World} {f : Addr} {args : List Value} {lvl : Nat} {Pre : Led → Prop} {Post : Led → Led → Value → Prop} (C : Tel w f args lvl Pre Post)
    {mean : ExcName → Option Value} {mg mb : Str → Option Value} {dp un : Nat} {gd : Option (List Code)} {cn : Str} {cs : Scope} {a : Addr} {ccd : Value} {cl : List (Str × Addr)} {outer : List Env} {A₀ : Around} {base h₀ : Heap} {L : Addr} {m : Str → Option Value}
    {news : Led} {s : Shared} {Q E : Value → Shared → Prop}
    (B : Below A₀ base outer h₀) (F : Fr h₀ L s.heap m) (X : (hd.heap_39 w.params).In h₀) (N : News h₀ L s.heap news) (T : Top topProg looseT mean mg mb h₀) (hk : cs.kind = .function) (hd : dp + lvl < recursionLimit) (hu : un + 8 * lvl < cLine) (hg : AllBare s.gens) (hp : Pre news)
    (ret : ∀ r news' h' tk' g', Fr h₀ L h' m → News h₀ L h' news' → AllBare g' → Post news news' r → Q r { heap := h', gens := g', drawn := s.drawn, toks := tk', os := s.os }) :
    wpAny (model PySem.Challenge.rw_xl0011_01.row.prog w) (ktrTop dp un gd cn cs L a ccd cl outer) (call (.ref f) args) Q E s := C _ _ _ _ _ _ _ _ _ _ _ _ _ _ _ _ _ _ _ _ _ B F X N T hk hd hu hg hp ret

theorem has_K {prog : Program} {w : World} {A : Around} {E : Value → Shared → Prop} {s : Shared} {h₀ : Heap} {L : Addr} {m : Str → Option Value} {news : List (Addr × Obj)} {x : Str} {u tk : Tok} {Q : Value → Shared → Prop}
    (F : Fr h₀ L s.heap m) (N : News h₀ L s.heap news) (h : ∀ h', Fr h₀ L h' m → News h₀ L h' news → Q (.bool true) { s with heap := h' }) :
    wpAny (model prog w) A (call (.builtin "hasattr") [.str x u, .str "__getitem__" tk]) Q E s :=
  hasattr_str (h _ (F.push _) (fun p hp => N.push F _ rfl p (.tail _ hp)))
/-! smaller proofs: what is wide gets a name -/
theorem fold_fn {M : Model} {A : Around} {α : Type} {t : Sem α} {Q : α → Shared → Prop} {E : Value → Shared → Prop} {s : Shared} {h₀ : Heap} {L : Addr} {m : Str → Option Value} {news : Led} (F : Fr h₀ L s.heap m) (N : News h₀ L s.heap news)
    (h : let led := news; let fm := m; Fr h₀ L s.heap fm → News h₀ L s.heap led → wpAny M A t Q E s) : wpAny M A t Q E s := h F N
theorem fold_ctx {M : Model} {A : Around} {env : Env} {body : List Stmt} {Q : Flow → Shared → Prop} {E : Value → Shared → Prop} {s : Shared} (h : let M9 := M; let A9 := A; let e9 := env; wpAny M9 A9 (execs body e9) Q E s) : wpAny M A (execs body env) Q E s := h
theorem fold_q {M : Model} {A : Around} {α : Type} {t : Sem α} {Q : α → Shared → Prop} {E : Value → Shared → Prop} {s : Shared} (h : ∀ Q9 : α → Shared → Prop, (∀ v s', Q v s' → Q9 v s') → wpAny M A t Q9 E s) : wpAny M A t Q E s := h Q fun _ _ h => h
theorem fold_s {M : Model} {A : Around} {α : Type} {t : Sem α} {Q : α → Shared → Prop} {E : Value → Shared → Prop} {h : Heap} {g : Array GenState} {d : Drawn} {k : Nat} {o : OsState} (H : let g9 := g; let d9 := d; let k9 := k; let o9 := o; wpAny M A t Q E ⟨h, g9, d9, k9, o9⟩) : wpAny M A t Q E ⟨h, g, d, k, o⟩ := H
theorem room_lt {dp a b n : Nat} (h : dp + b < n) (hk : a ≤ b) : dp + a < n := Nat.lt_of_le_of_lt (Nat.add_le_add_left hk dp) h
def Hold (P : Prop) : Prop := P
theorem hold {P : Prop} (h : Hold P) : P := h
theorem execs_app_wp {M : Model} {Γ : PySem.Ctx} {env : Env} {l2 : List Stmt} {Q : Flow → Pos → Shared → Prop} {E : Value → Pos → Shared → Prop} : ∀ {l1 : List Stmt} {p : Pos} {s : Shared},
    Sem.wp M Γ (execs l1 env) (fun f p' s' => match f with | .next => Sem.wp M Γ (execs l2 env) Q E p' s' | f => Q f p' s') E p s → Sem.wp M Γ (execs (l1 ++ l2) env) Q E p s
  | [], p, s, h => h
  | a :: l, p, s, h => by
    rw [execs_cons, Sem.wp_bind'] at h
    show Sem.wp M Γ (execs (a :: (l ++ l2)) env) _ _ _ _
    rw [execs_cons, Sem.wp_bind']
    refine Sem.wp_mono M Γ _ (fun f p' s' h2 => ?_) (fun _ _ _ h' => h') _ _ h
    cases f with
    | next => exact execs_app_wp (l1 := l) h2
    | _ => exact h2
theorem execs_app {M : Model} {A : Around} {E : Value → Shared → Prop} {env : Env} {l1 l2 : List Stmt} {Q : Flow → Shared → Prop} {s : Shared}
    (h : wpAny M A (execs l1 env) (fun f s' => match f with | .next => wpAny M A (execs l2 env) Q E s' | f => Q f s') E s) : wpAny M A (execs (l1 ++ l2) env) Q E s :=
  fun Γ p hΓ => execs_app_wp (Q := fun f _ s' => Q f s') (E := fun e _ s' => E e s') (Sem.wp_mono M Γ _ (fun f p' s' h2 => by
    cases f with
    | next => exact h2 Γ p' hΓ
    | _ => exact h2) (fun _ _ _ h' => h') _ _ (h Γ p hΓ))
theorem exec_seg {M : Model} {A : Around} {E : Value → Shared → Prop} {env : Env} {l1 l2 : List Stmt} {Q : Flow → Shared → Prop} {s : Shared}
    (h : wpAny M A (execs l1 env) (fun f s' => match f with | .next => Hold (wpAny M A (execs l2 env) Q E s') | f => Q f s') E s) : wpAny M A (execs (l1 ++ l2) env) Q E s :=
  execs_app (wpAny_mono h (fun f s' h2 => by
    cases f with
    | next => exact h2
    | _ => exact h2) fun _ _ h' => h')
/-- where an if has left the frame and the ledger as they were -/
def Sta (h₀ : Heap) (L : Addr) (m : Str → Option Value) (news : Led) (d : Drawn) (os : OsState) (φ : Prop) (s' : Shared) : Prop :=
  ∃ h' g' tk', s' = { heap := h', gens := g', drawn := d, toks := tk', os := os } ∧ Fr h₀ L h' m ∧ News h₀ L h' news ∧ AllBare g' ∧ φ
theorem seg_if {M : Model} {A : Around} {E : Value → Shared → Prop} {env : Env} {a : Stmt} {l2 : List Stmt} {Q : Flow → Shared → Prop} {s : Shared} {h₀ : Heap} {L : Addr} {m : Str → Option Value} {news : Led} (φ : Prop) (F : Fr h₀ L s.heap m) (N : News h₀ L s.heap news)
    (h : wpAny M A (execs [a] env) (fun f s' => match f with | .next => Hold (Sta h₀ L m news s.drawn s.os φ s') | f => Q f s') E s)
    (k : ∀ h' g' tk', Fr h₀ L h' m → News h₀ L h' news → AllBare g' → φ → wpAny M A (execs l2 env) Q E { heap := h', gens := g', drawn := s.drawn, toks := tk', os := s.os }) : wpAny M A (execs (a :: l2) env) Q E s :=
  execs_app (l1 := [a]) (wpAny_mono h (fun f s' h2 => by
    cases f with
    | next =>
      obtain ⟨h', g', tk', rfl, F', N', G', hf⟩ := h2
      exact k h' g' tk' F' N' G' hf
    | _ => exact h2) fun _ _ h' => h')
/-- arguments that are names of the frame or texts written out -/
inductive ArgsEv (m : Str → Option Value) (kd : Str → Option NameKind) : List PySem.Expr → Nat → List Value → Nat → Prop where
  | nil {k : Nat} : ArgsEv m kd [] k [] k
  | name {x : Str} {p : Pos} {rest : List PySem.Expr} {k k' : Nat} {v : Value} {vs : List Value} (hv : m x = some v) (hx : kd x = some .local) (hb : (x == ("__debug__" : Str)) = false) (r : ArgsEv m kd rest k vs k') : ArgsEv m kd (.Name x p :: rest) k (v :: vs) k'
  | str {x : Str} {kk : Nat} {p : Pos} {rest : List PySem.Expr} {k k' : Nat} {vs : List Value} (r : ArgsEv m kd rest (k + 1) vs k') : ArgsEv m kd (.Constant (.str x) kk p :: rest) k (.str x k :: vs) k'
section
variable {prog : Program} {w : World} {A : Around} {E : Value → Shared → Prop} {K : Frag} {h₀ : Heap} {L a : Addr} {m mg mb : Str → Option Value} {cn : Str} {cs : Scope} {ccd : Value} {cl : List (Str × Addr)} {p : Program} {loose : List Str}
theorem spliced_ev {as : List PySem.Expr} {k k' : Nat} {vs : List Value} {pos : Pos} (ev : ArgsEv m (envX cn cs L a ccd cl).kindOf as k vs k') (hk : cs.kind = .function) : ∀ {s : Shared} {Q : List Value → Shared → Prop}, Fr h₀ L s.heap m → s.toks = k → Q vs { s with toks := k' } → wpAny (model prog w) A (spliced (backTo pos (starEach as (envX cn cs L a ccd cl)))) Q E s := by
  induction ev with
  | nil => intro s Q F e h; subst e; exact args_nil h
  | name hv hx hb r ih => intro s Q F e h; exact args_cons (nameX_L F hv (ih F e h) hk hx hb)
  | str r ih => intro s Q F e h; subst e; exact args_cons (Constant_str (ih (s := { s with toks := s.toks + 1 }) F rfl h))
theorem plain_ev {kd : Str → Option NameKind} {as : List PySem.Expr} {k k' : Nat} {vs : List Value} {pos : Pos} {env : Env} (ev : ArgsEv m kd as k vs k') : (backTo pos (starEach as env)).any (·.1) = false := by
  induction ev with
  | nil => rfl
  | name _ _ _ r ih => exact ih
  | str r ih => exact ih
theorem call_args {s : Shared} {Q : Value → Shared → Prop} {fn : Str} {pf pos : Pos} {e0 : PySem.Expr} {as : List PySem.Expr} {vs : List Value} {k' : Nat} {f : Value} (F : Fr h₀ L s.heap m) (X : K.In h₀) (T : TopRead p loose mg mb h₀) (e : nsIn K mainGlobals fn = some (some f)) (hf : (envX cn cs L a ccd cl).kindOf fn = some .globalImplicit) (hb : (fn == ("__debug__" : Str)) = false) (hkeep : keepIn K f = true)
    (he : eval (.Call (.Name fn pf) (e0 :: as) [] pos) (envX cn cs L a ccd cl) = (do callWith pos (← eval (.Name fn pf) (envX cn cs L a ccd cl)) [] (backTo pos (starEach (e0 :: as) (envX cn cs L a ccd cl))) (backToKw pos (keywordEach [] (envX cn cs L a ccd cl)))))
    (ev : ArgsEv m (envX cn cs L a ccd cl).kindOf (e0 :: as) s.toks vs k') (hk : cs.kind = .function) (h : wpAny (model prog w) A (call f vs) Q E { s with toks := k' }) : wpAny (model prog w) A (eval (.Call (.Name fn pf) (e0 :: as) [] pos) (envX cn cs L a ccd cl)) Q E s := by
  refine Call_ (nameX_K F X T e ?_ hk hf hb) he
  have hs : starEach (e0 :: as) (envX cn cs L a ccd cl) = (false, eval e0 (envX cn cs L a ccd cl)) :: starEach as (envX cn cs L a ccd cl) := by cases ev <;> rfl
  have hp : (backTo pos (starEach as (envX cn cs L a ccd cl))).any (·.1) = false := by
    cases ev with
    | name _ _ _ r => exact plain_ev r
    | str r => exact plain_ev r
  exact callWith_K X hkeep (spliced_ev ev hk F rfl ⟨X.keeps F.keep, h⟩) hs hp
end
end
local macro_rules | `(tactic| ktr_room) => `(tactic| first | exact room_lt (by assumption) (by decide) | (dsimp only [PySem.W.ktrTop, PySem.Around.deeper]; omega))
local macro_rules | `(tactic| ktr_units) => `(tactic| first | exact room_lt (by assumption) (by decide) | (dsimp only [PySem.W.ktrTop, PySem.Around.deeper]; omega))
section
open PySem PySem.W PyProof.Rows
open PySem.Calls PySem.Spec
set_option maxRecDepth 100000
set_option maxHeartbeats 8000000

theorem concat_tel {w : World} (x y : Str) (tx ty : Tok) (hlen : x.length + y.length ≤ sizeLine) :
    Tel w 155 [.str x tx, .str y ty] 10 (fun _ => True) (fun news news' r => news' = news ∧ ∃ t, r = .str (x ++ y) t) := by
  unfold Tel
  k_fill
  w_top off
  intro mean mg mb dp un gd cn cs a ccd cl outer A₀ base h₀ L m news s Q E B F X N T hk hd hu hg hp hret
  refine wpAny_call ?_
  k_dflt ktr_enter
  refine fold_ctx ?_
  intro M9 A9 e9
  repeat' (first
    | (k_unfold; (try dsimp only))
    | ((with_reducible show wpAny _ _ (call (Value.builtin "hasattr") _) _ _ _); (k_here; with_unfolding_all refine' has_K ?k1 ?k2 ?_; (case k1 | k2 => k_asm); k_whole; intro h' F' N'); (try k_fold))
    | ((with_reducible show wpAny _ _ (execs (_ :: _) _) _ _ _); (k_here; (with_reducible refine wpAny_execs_cons ?_); (try dsimp only); (try k_fold); (try (refine fold_fn (by k_asm) (by k_asm) ?_; intro led9 fm9 F9 N9))); (try k_fold))
    | (walk1; (try k_fold)) | (dsimp only; walk1; (try k_fold)) | (leave1; (try dsimp only)) | fail "no step")
  all_goals (exact hret _ _ _ _ _ (by assumption) (by assumption) hg ⟨rfl, _, rfl⟩)


theorem item_P {w : World} {A : Around} {E : Value → Shared → Prop} {s : Shared} {h₀ : Heap} {L P : Addr} {news : Led} {kvs : List (Str × Value)} {f l : Tm} {tk : Tok} {value slice : PySem.Expr} {Q : Value → Shared → Prop}
    (S : PState PySem.Challenge.rw_xl0011_01.row.prog w news P kvs) (N : News h₀ L s.heap news) (hf : wf f) (hl : wf l) (hk : known kvs (.app f l))
    (h : ∀ a tf tl, (a, tup [.str (txt f) tf, .str (txt l) tl]) ∈ news → known kvs f → known kvs l → Q (.ref a) { s with toks := s.toks + 1 })
    (hs : subscripted slice false (.ref P) (.str (txt (.app f l)) tk) = operate [.ref P, .str (txt (.app f l)) tk] (getItem (.ref P) (.str (txt (.app f l)) tk)) := by with_unfolding_all rfl) (hg : ∀ r, letTemporaryGo value (.ref P) r = pure () := by intro _; with_unfolding_all rfl) :
    wpAny (model PySem.Challenge.rw_xl0011_01.row.prog w) A (subscriptTail value slice (.ref P) (.str (txt (.app f l)) tk)) Q E s := by
  obtain ⟨a, tf, tl, e1, e2, _, e3, e4⟩ := S.value hf hl hk
  obtain ⟨o, ho, hd⟩ := S.obj
  exact kda_item (knd := PySem.strKind _ _) N ho hd (strKind_is _ _ _ _) e1 (h a tf tl e2 e3 e4) hs hg
theorem in_P {w : World} {A : Around} {E : Value → Shared → Prop} {s : Shared} {h₀ : Heap} {L P : Addr} {news : Led} {kvs : List (Str × Value)} {x : Str} {tk : Tok} {Q : Value → Shared → Prop}
    (S : PState PySem.Challenge.rw_xl0011_01.row.prog w news P kvs) (N : News h₀ L s.heap news)
    (h : Q (.bool (valueAt kvs x).isSome) { s with toks := s.toks + 1 }) :
    wpAny (model PySem.Challenge.rw_xl0011_01.row.prog w) A (compareOp .In (.str x tk) (.ref P)) Q E s := by
  obtain ⟨o, ho, hd⟩ := S.obj
  exact kda_in (knd := PySem.strKind _ _) N ho hd S.lo (strKind_is _ _ _ _) _ rfl h
theorem set_P {w : World} {A : Around} {E : Value → Shared → Prop} {s : Shared} {h₀ : Heap} {L P : Addr} {m : Str → Option Value} {news : Led} {kvs : List (Str × Value)} {f l : Tm} {a : Addr} {tf tl tk : Tok} {Q : Unit → Shared → Prop}
    (S : PState PySem.Challenge.rw_xl0011_01.row.prog w news P kvs) (F : Fr h₀ L s.heap m) (N : News h₀ L s.heap news) (hf : wf f) (hl : wf l) (hk : known kvs f) (hk' : known kvs l) (ha : (a, tup [.str (txt f) tf, .str (txt l) tl]) ∈ news) (hP : a ≠ P) (hz : kvs.length ≤ sizeLine)
    (h : ∀ h' o', Fr h₀ L h' m → News h₀ L h' (put news P o') → PState PySem.Challenge.rw_xl0011_01.row.prog w (put news P o') P (stored kvs (txt (.app f l)) (.ref a)) → Q () { s with heap := h', toks := s.toks + 1 }) :
    wpAny (model PySem.Challenge.rw_xl0011_01.row.prog w) A (setItem (.ref P) (.str (txt (.app f l)) tk) (.ref a)) Q E s := by
  obtain ⟨o, ho, hd⟩ := S.obj
  have hm := N _ ho
  refine wpAny_setItem_pairs (knd := PySem.strKind _ _) (hsz := hz) (strKind_is _ _ _ _) (Heap.dictOf_iff.mpr ⟨o, hm.1, hd⟩) fun h' hmm hs => ?_
  obtain ⟨o', ho', hd'⟩ := Heap.dictOf_iff.mp hmm
  exact h h' o' (F.change hs hm.2.1 hm.2.2) (news_put N ho hs ho') (S.store hf hl ha hP hk hk' hd')


theorem getitem_tel {w : World} {P : Addr} {kvs : List (Str × Value)} (f l : Tm) (tk : Tok) (hf : wf f) (hl : wf l) (hkn : known kvs (.app f l)) :
    Tel w 169 [.ref P, .str (txt (.app f l)) tk] 10 (fun news => PState PySem.Challenge.rw_xl0011_01.row.prog w news P kvs) (fun news news' r => news' = news ∧ ∃ a tf tl, r = .ref a ∧ (a, tup [.str (txt f) tf, .str (txt l) tl]) ∈ news ∧ known kvs f ∧ known kvs l) := by
  unfold Tel
  k_fill
  w_top off
  intro mean mg mb dp un gd cn cs a ccd cl outer A₀ base h₀ L m news s Q E B F X N T hk hd hu hg hp hret
  refine wpAny_call ?_
  k_dflt ktr_enter
  refine fold_ctx ?_
  intro M9 A9 e9
  repeat' (first
    | (k_unfold; (try dsimp only))
    | ((with_reducible show wpAny _ _ (execs (_ :: _) _) _ _ _); (k_here; (with_reducible refine wpAny_execs_cons ?_); (try dsimp only); (try k_fold); (try (refine fold_fn (by k_asm) (by k_asm) ?_; intro led9 fm9 F9 N9))); (try k_fold))
    | ((with_reducible show wpAny _ _ (subscriptTail _ _ _ _) _ _ _); (k_here; (with_reducible show wpAny _ _ (subscriptTail _ _ (Value.ref _) (Value.str _ _)) _ _ _); k_dflt (refine' item_P ?k1 ?k2 ?k3 ?k4 ?k5 ?_ ?k6 ?k7; (case k1 => assumption); (case k2 => k_asm); (case k3 | k4 | k5 => assumption); (case k6 => with_unfolding_all rfl); (case k7 => intro _; with_unfolding_all rfl); k_whole); intro a' tf' tl' ha' kf' kl'); (try k_fold))
    | (walk1; (try k_fold)) | (dsimp only; walk1; (try k_fold)) | (leave1; (try dsimp only)) | fail "no step")
  all_goals (exact hret _ _ _ _ _ (by assumption) (by assumption) hg ⟨rfl, _, _, _, rfl, by assumption, by assumption, by assumption⟩)
theorem contains_str_tel {w : World} (x y : Str) (tx ty : Tok) :
    Tel w 162 [.str x tx, .str y ty] 10 (fun _ => True) (fun news news' r => news' = news ∧ r = Value.bool !(Builtin.Str.occurrences x y 0 x.length 1).isEmpty) := by
  unfold Tel
  k_fill
  w_top off
  intro mean mg mb dp un gd cn cs a ccd cl outer A₀ base h₀ L m news s Q E B F X N T hk hd hu hg hp hret
  refine wpAny_call ?_
  k_dflt ktr_enter
  refine fold_ctx ?_
  intro M9 A9 e9
  repeat' (first
    | (k_unfold; (try dsimp only))
    | ((with_reducible show wpAny _ _ (execs (_ :: _) _) _ _ _); (k_here; (with_reducible refine wpAny_execs_cons ?_); (try dsimp only); (try k_fold); (try (refine fold_fn (by k_asm) (by k_asm) ?_; intro led9 fm9 F9 N9))); (try k_fold))
    | (walk1; (try k_fold)) | (dsimp only; walk1; (try k_fold)) | (leave1; (try dsimp only)) | fail "no step")
  all_goals (exact hret _ _ _ _ _ (by assumption) (by assumption) hg ⟨rfl, rfl⟩)
theorem contains_dict_tel {w : World} {P : Addr} {kvs : List (Str × Value)} (t : Tm) (tk : Tok) :
    Tel w 162 [.ref P, .str (txt t) tk] 10 (fun news => PState PySem.Challenge.rw_xl0011_01.row.prog w news P kvs) (fun news news' r => news' = news ∧ r = .bool (valueAt kvs (txt t)).isSome) := by
  unfold Tel
  k_fill
  w_top off
  intro mean mg mb dp un gd cn cs a ccd cl outer A₀ base h₀ L m news s Q E B F X N T hk hd hu hg hp hret
  refine wpAny_call ?_
  k_dflt ktr_enter
  refine fold_ctx ?_
  intro M9 A9 e9
  repeat' (first
    | (k_unfold; (try dsimp only))
    | ((with_reducible show wpAny _ _ (compareOp CmpOp.In (Value.str _ _) (Value.ref _)) _ _ _); (k_here; k_dflt (refine' in_P ?k1 ?k2 ?_; (case k1 => assumption); (case k2 => k_asm); k_whole)); (try k_fold))
    | ((with_reducible show wpAny _ _ (execs (_ :: _) _) _ _ _); (k_here; (with_reducible refine wpAny_execs_cons ?_); (try dsimp only); (try k_fold); (try (refine fold_fn (by k_asm) (by k_asm) ?_; intro led9 fm9 F9 N9))); (try k_fold))
    | (walk1; (try k_fold)) | (dsimp only; walk1; (try k_fold)) | (leave1; (try dsimp only)) | fail "no step")
  all_goals (exact hret _ _ _ _ _ (by assumption) (by assumption) hg ⟨rfl, rfl⟩)
theorem PState.ne {prog : Program} {w : World} {news : Led} {P D : Addr} {kvs : List (Str × Value)} (S : PState prog w news P kvs) (l : ∀ p ∈ news, p.1 < D) : D ≠ P := by
  obtain ⟨o, ho, _⟩ := S.obj
  have := l _ ho
  exact Nat.ne_of_gt this
theorem setitem_tel {w : World} {P : Addr} {kvs : List (Str × Value)} (f l : Tm) (tk : Tok) (v : Addr) (hf : wf f) (hl : wf l) (kf : known kvs f) (kl : known kvs l) (hz : kvs.length ≤ sizeLine) :
    Tel w 176 [.ref P, .str (txt (.app f l)) tk, .ref v] 10 (fun news => PState PySem.Challenge.rw_xl0011_01.row.prog w news P kvs ∧ (∃ tf tl, (v, tup [.str (txt f) tf, .str (txt l) tl]) ∈ news) ∧ v ≠ P)
      (fun news news' r => r = .none ∧ ∃ o', news' = put news P o' ∧ PState PySem.Challenge.rw_xl0011_01.row.prog w news' P (stored kvs (txt (.app f l)) (.ref v))) := by
  unfold Tel
  k_fill
  w_top off
  intro mean mg mb dp un gd cn cs a ccd cl outer A₀ base h₀ L m news s Q E B F X N T hk hd hu hg hp hret
  obtain ⟨hp, ⟨tf, tl, hv⟩, hP⟩ := hp
  refine wpAny_call ?_
  k_dflt ktr_enter
  refine fold_ctx ?_
  intro M9 A9 e9
  repeat' (first
    | (k_unfold; (try dsimp only))
    | ((with_reducible show wpAny _ _ (setItem (Value.ref _) (Value.str _ _) _) _ _ _); (k_here; k_dflt (refine' set_P ?k1 ?k2 ?k3 ?k4 ?k5 ?k6 ?k7 ?k8 ?k9 ?k10 ?_; (case k1 => assumption); (case k2 | k3 => k_asm); (case k4 | k5 => assumption); (case k6 | k7 => assumption); (case k8 | k9 | k10 => assumption); k_whole); intro h' o' F' N' S'); (try k_fold))
    | ((with_reducible show wpAny _ _ (execs (_ :: _) _) _ _ _); (k_here; (with_reducible refine wpAny_execs_cons ?_); (try dsimp only); (try k_fold); (try (refine fold_fn (by k_asm) (by k_asm) ?_; intro led9 fm9 F9 N9))); (try k_fold))
    | (walk1; (try k_fold)) | (dsimp only; walk1; (try k_fold)) | (leave1; (try dsimp only)) | fail "no step")
  all_goals (exact hret _ _ _ _ _ (by assumption) (by assumption) hg ⟨rfl, _, rfl, by assumption⟩)
end
section
open PySem PySem.Sre
set_option maxRecDepth 100000
set_option maxHeartbeats 4000000
def cdR : Array Nat := #[14, 8, 1, 2, 4294967295, 1, 1, 46, 0, 16, 46, 24, 9, 1, 4294967295, 13, 4, 8, 0, 0, 1, 6, 5, 1]
def mA (text : Array Nat) (lim s : Nat) (first : Bool) (seen : Seen) : Sre.M :=
  { code := cdR, text, lim, start := s, lastStart := lim, pc := 9, pos := s, handed := s, outermost := first, marks := #[], frames := [{ wait := .nextStart, pc := 9, pos := s, outermost := first }], weight := 1, seen }
def Reach (m m' : Sre.M) : Prop := ∃ n, m.runFor n = m'
theorem runFor_step {m : Sre.M} (h : m.outcome = none) (n : Nat) : m.runFor (n + 1) = m.step.runFor n := by
  show (if m.outcome.isSome then m else M.runFor n m.step) = _
  rw [h]; rfl
theorem Reach.step {m m' : Sre.M} (h : m.outcome = none) (k : Reach m.step m') : Reach m m' := by
  obtain ⟨n, e⟩ := k
  exact ⟨n + 1, by rw [runFor_step h]; exact e⟩
theorem lit_eq {text : Array Nat} {lim s : Nat} {first : Bool} {seen : Seen} :
    (mA text lim s first seen).step = (if s ≥ lim then { mA text lim s first (seen.add 16) with answer := some false } else bif text.getD s 0 == 46 then { mA text lim s first (seen.add 16) with pc := 11, pos := s + 1 } else { mA text lim s first (seen.add 16) with answer := some false }) := by
  by_cases h : s ≥ lim
  · rw [if_pos h]
    show (if s ≥ lim then _ else _) = _
    rw [if_pos h]; rfl
  · rw [if_neg h]
    show (if s ≥ lim then _ else _) = _
    rw [if_neg h]
    show (match accepts cdR 9 (text.getD s 0) (seen.add 16) with
      | .error why => M.stick (mA text lim s first (seen.add 16)) why
      | .ok (false, sn) => M.say (mA text lim s first sn) false
      | .ok (true, sn) => { mA text lim s first sn with pc := 9 + itemWidth cdR 9, pos := s + 1 }) = _
    have e : accepts cdR 9 (text.getD s 0) (seen.add 16) = .ok (text.getD s 0 == 46, seen.add 16) := rfl
    rw [e]
    cases text.getD s 0 == 46 <;> rfl
theorem back_eq {text : Array Nat} {lim s pc pos : Nat} {first : Bool} {seen : Seen} :
    ({ mA text lim s first seen with answer := some false, pc := pc, pos := pos } : Sre.M).step = (if s < lim then mA text lim (s + 1) false seen else ({ mA text lim s first seen with answer := some false, pc := pc, pos := pos } : Sre.M).step) := by
  by_cases h : s < lim
  · rw [if_pos h]
    show (if s < lim then _ else _) = _
    rw [if_pos h]; rfl
  · rw [if_neg h]
theorem lit_no {text : Array Nat} {lim s : Nat} {first : Bool} {seen : Seen} (hs : s < lim) (h : (text.getD s 0 == 46) = false) :
    (mA text lim s first seen).step = { mA text lim s first (seen.add 16) with answer := some false } := by
  rw [lit_eq, if_neg (Nat.not_le_of_lt hs), h]; rfl
theorem back_dot {text : Array Nat} {lim s pc pos : Nat} {first : Bool} {seen : Seen} (hs : s < lim) :
    ({ mA text lim s first seen with answer := some false, pc := pc, pos := pos } : Sre.M).step = mA text lim (s + 1) false seen := back_eq.trans (if_pos hs)
theorem lit_end {text : Array Nat} {lim : Nat} {first : Bool} {seen : Seen} :
    (mA text lim lim first seen).step = { mA text lim lim first (seen.add 16) with answer := some false } := lit_eq.trans (if_pos (Nat.le_refl _))
theorem lit_yes {text : Array Nat} {lim s : Nat} {first : Bool} {seen : Seen} (hs : s < lim) (h : (text.getD s 0 == 46) = true) :
    (mA text lim s first seen).step = { mA text lim s first (seen.add 16) with pc := 11, pos := s + 1 } := by
  rw [lit_eq, if_neg (Nat.not_le_of_lt hs), h]; rfl
theorem back_no {text : Array Nat} {lim s : Nat} {first : Bool} {seen : Seen} (hs : s < lim) :
    ({ mA text lim s first seen with answer := some false } : Sre.M).step = mA text lim (s + 1) false seen := back_dot (pc := 9) (pos := s) hs
theorem back_last {text : Array Nat} {lim : Nat} {first : Bool} {seen : Seen} :
    ({ mA text lim lim first seen with answer := some false } : Sre.M).step = { mA text lim lim first seen with answer := some false, frames := [], weight := 0 } := by
  show (if lim < lim then _ else _) = _
  rw [if_neg (Nat.lt_irrefl _)]; rfl
theorem back_end {text : Array Nat} {lim : Nat} {first : Bool} {seen : Seen} :
    ({ mA text lim lim first seen with answer := some false } : Sre.M).step.step.outcome = some .failed := by
  rw [back_last]; rfl
end
section
open PySem PySem.Sre
set_option maxRecDepth 100000
set_option maxHeartbeats 4000000
theorem runFor_add (a b : Nat) (m : Sre.M) : m.runFor (a + b) = (m.runFor a).runFor b := by
  induction a generalizing m with
  | zero => rw [Nat.zero_add]; rfl
  | succ a ih =>
    rw [Nat.succ_add]
    show (if m.outcome.isSome then m else M.runFor (a + b) m.step) = M.runFor b (if m.outcome.isSome then m else M.runFor a m.step)
    by_cases h : m.outcome.isSome
    · rw [if_pos h, if_pos h]
      cases b with
      | zero => rfl
      | succ b => show m = (if m.outcome.isSome then m else _); rw [if_pos h]
    · rw [if_neg h, if_neg h, ih]
theorem runFor_done {m : Sre.M} (h : m.outcome.isSome) (n : Nat) : m.runFor n = m := by
  cases n with
  | zero => rfl
  | succ n => show (if m.outcome.isSome then m else _) = m; rw [if_pos h]
/-- from m to m' in n steps -/
def To (n : Nat) (m m' : Sre.M) : Prop := m.runFor n = m'
theorem To.one {m m' : Sre.M} (h : m.outcome = none) (e : m.step = m') : To 1 m m' := by
  show (if m.outcome.isSome then m else m.step) = m'
  rw [h]; exact e
theorem To.trans {a b : Nat} {m m' m'' : Sre.M} (h : To a m m') (k : To b m' m'') : To (a + b) m m'' := by
  show m.runFor (a + b) = m''
  rw [runFor_add, show m.runFor a = m' from h]; exact k
theorem rep_end {text : Array Nat} {lim s : Nat} {first : Bool} {seen : Seen} (h : lim ≤ s + 1) :
    ({ mA text lim s first seen with pc := 11, pos := s + 1 } : Sre.M).step = { mA text lim s first (seen.add 24) with pc := 11, pos := s + 1, answer := some false } := by
  have h1 : (1 : Int) > (lim : Int) - ((s + 1 : Nat) : Int) := by omega
  show (if (1 : Int) > (lim : Int) - ((s + 1 : Nat) : Int) then _ else _) = _
  rw [if_pos h1]; rfl
end
section
open PySem PySem.Sre
set_option maxRecDepth 100000
set_option maxHeartbeats 4000000
theorem acc_dig (c : Nat) (seen : Seen) : ∃ s2, accepts cdR 15 c seen = .ok (isDigit c, s2) := by
  have k : category 0 c = .ok (isDigit c) := by
    show (Except.ok (isDigit c != false) : Except String Bool) = _
    cases isDigit c <;> rfl
  cases h : isDigit c with
  | true =>
    refine ⟨(seen.add 8).add 55, ?_⟩
    show (do if ← category 0 c then pure (true, _) else _) = _
    rw [k, h]; rfl
  | false =>
    refine ⟨((seen.add 8).add 55).add 0, ?_⟩
    show (do if ← category 0 c then pure (true, _) else inSet cdR c 23 19 true _) = _
    rw [k, h]; rfl
theorem run_zero {text : Array Nat} {n p : Nat} {seen : Seen} (h : isDigit (text.getD p 0) = false) : ∃ s2, Sre.run cdR text 15 (n + 1) p 0 seen = .ok (0, s2) := by
  obtain ⟨s2, e⟩ := acc_dig (text.getD p 0) seen
  refine ⟨s2, ?_⟩
  show (do let (yes, seen) ← accepts cdR 15 (text.getD p 0) seen; if yes then Sre.run cdR text 15 n (p + 1) (0 + 1) seen else pure (0, seen)) = _
  rw [e, h]; rfl
theorem run_all {text : Array Nat} : ∀ {n p k : Nat} {seen : Seen}, (∀ i, i < n → isDigit (text.getD (p + i) 0) = true) → ∃ s2, Sre.run cdR text 15 n p k seen = .ok (k + n, s2)
  | 0, p, k, seen, _ => ⟨seen, rfl⟩
  | n + 1, p, k, seen, h => by
    obtain ⟨s2, e⟩ := acc_dig (text.getD p 0) seen
    obtain ⟨s3, e2⟩ := run_all (text := text) (n := n) (p := p + 1) (k := k + 1) (seen := s2) (fun i hi => by have := h (i + 1) (by omega); rwa [show p + (i + 1) = p + 1 + i by omega] at this)
    refine ⟨s3, ?_⟩
    have h0 := h 0 (by omega)
    rw [Nat.add_zero] at h0
    show (do let (yes, seen) ← accepts cdR 15 (text.getD p 0) seen; if yes then Sre.run cdR text 15 n (p + 1) (k + 1) seen else pure (k, seen)) = _
    rw [e, h0]
    show Sre.run cdR text 15 n (p + 1) (k + 1) s2 = _
    rw [e2, show k + 1 + n = k + (n + 1) by omega]
abbrev mR (text : Array Nat) (lim s : Nat) (first : Bool) (seen : Seen) : Sre.M := { mA text lim s first seen with pc := 11, pos := s + 1 }
theorem rep_eq {text : Array Nat} {lim s : Nat} {first : Bool} {seen : Seen} : (mR text lim s first seen).step =
    (if (1 : Int) > (lim : Int) - ((s + 1 : Nat) : Int) then M.say (mR text lim s first (seen.add 24)) false else
      match Sre.run cdR text 15 (min 4294967295 ((lim : Int) - ((s + 1 : Nat) : Int)).toNat) (s + 1) 0 ((seen.add 24).add 13) with
      | .error why => M.stick (mR text lim s first (seen.add 24)) why
      | .ok (n, s2) => if n < 1 then M.say (mR text lim s first s2) false else M.afterRun { mR text lim s first s2 with pos := s + 1 + n } .giveBack n {}) := rfl
theorem rep_no {text : Array Nat} {lim s : Nat} {first : Bool} {seen : Seen} (h : s + 1 < lim) (hd : isDigit (text.getD (s + 1) 0) = false) :
    ∃ s2, (mR text lim s first seen).step = { mR text lim s first s2 with answer := some false } := by
  have h1 : ¬ (1 : Int) > (lim : Int) - ((s + 1 : Nat) : Int) := by omega
  obtain ⟨n, hn⟩ : ∃ n, min 4294967295 ((lim : Int) - ((s + 1 : Nat) : Int)).toNat = n + 1 := ⟨min 4294967295 ((lim : Int) - ((s + 1 : Nat) : Int)).toNat - 1, by omega⟩
  obtain ⟨s2, e⟩ := run_zero (n := n) (seen := (seen.add 24).add 13) hd
  refine ⟨s2, ?_⟩
  rw [rep_eq, if_neg h1, hn, e]; rfl
abbrev mE (text : Array Nat) (lim s k : Nat) (first : Bool) (seen : Seen) : Sre.M :=
  { mA text lim s first seen with pc := 21, pos := s + 1 + k, handed := s + 1 + k, weight := 2, frames := [{ wait := .giveBack, pc := 11, pos := s + 1 + k, outermost := first, count := k, kept := {} }, { wait := .nextStart, pc := 9, pos := s, outermost := first }] }
theorem rep_yes {text : Array Nat} {lim s k : Nat} {first : Bool} {seen : Seen} (h : s + 1 + (k + 1) = lim) (hk : k < 1000) (hd : ∀ i, i < k + 1 → isDigit (text.getD (s + 1 + i) 0) = true) :
    ∃ s2, (mR text lim s first seen).step = mE text lim s (k + 1) first s2 := by
  have h1 : ¬ (1 : Int) > (lim : Int) - ((s + 1 : Nat) : Int) := by omega
  have hn : min 4294967295 ((lim : Int) - ((s + 1 : Nat) : Int)).toNat = k + 1 := by omega
  obtain ⟨s2, e⟩ := run_all (k := 0) (seen := (seen.add 24).add 13) hd
  refine ⟨s2, ?_⟩
  rw [rep_eq, if_neg h1, hn, e]
  show (if 0 + (k + 1) < 1 then _ else _) = _
  rw [if_neg (by omega), Nat.zero_add]
  rfl
theorem end_eq {text : Array Nat} {lim s k : Nat} {first : Bool} {seen : Seen} : (mE text lim s k first seen).step =
    (if ((s + 1 + k == lim) || (s + 1 + k + 1 == lim && text.getD (s + 1 + k) 0 == 10)) then { mE text lim s k first ((seen.add 6).add 48) with pc := 23 } else M.say (mE text lim s k first ((seen.add 6).add 48)) false) := rfl
theorem end_yes {text : Array Nat} {lim s k : Nat} {first : Bool} {seen : Seen} (h : s + 1 + k = lim) : (mE text lim s k first seen).step = { mE text lim s k first ((seen.add 6).add 48) with pc := 23 } := by
  rw [end_eq, show (s + 1 + k == lim) = true by simp [h]]; rfl
/-- the end of a match -/
structure Hit (m : Sre.M) (s lim : Nat) : Prop where
  out : m.outcome = some .matched
  marks : m.marks = #[]
  lastmark : m.lastmark = -1
  lastindex : m.lastindex = -1
  start : m.start = s
theorem suc_eq {text : Array Nat} {lim s k : Nat} {first : Bool} {seen : Seen} : To 4 { mE text lim s k first seen with pc := 23 }
    { mA text lim s first (seen.add 1) with pc := 9, pos := s, handed := s + 1 + k, answer := some true, outcome := some .matched, frames := [], weight := 0 } := by
  cases first <;> rfl
theorem hit {text : Array Nat} {lim s k : Nat} {first : Bool} {seen : Seen} (h : s + 1 + (k + 1) = lim) (hk : k < 1000) (h46 : (text.getD s 0 == 46) = true) (hd : ∀ i, i < k + 1 → isDigit (text.getD (s + 1 + i) 0) = true) :
    ∃ m, To 7 (mA text lim s first seen) m ∧ Hit m s lim := by
  have e1 := lit_yes (seen := seen) (first := first) (show s < lim by omega) h46
  obtain ⟨s2, e2⟩ := rep_yes (seen := seen.add 16) (first := first) h hk hd
  have e3 := end_yes (text := text) (seen := s2) (first := first) h
  exact ⟨_, ((To.one rfl e1).trans ((To.one rfl e2).trans ((To.one rfl e3).trans suc_eq))), ⟨rfl, rfl, rfl, rfl, rfl⟩⟩
/-- one start that fails -/
theorem miss {text : Array Nat} {lim s : Nat} {first : Bool} {seen : Seen} (hs : s < lim) (h : (text.getD s 0 == 46) = true → s + 1 < lim → isDigit (text.getD (s + 1) 0) = false) :
    ∃ n s2, n ≤ 3 ∧ To n (mA text lim s first seen) (mA text lim (s + 1) false s2) := by
  cases h46 : (text.getD s 0 == 46) with
  | false => exact ⟨2, _, by omega, (To.one rfl (lit_no hs h46)).trans (To.one rfl (back_no hs))⟩
  | true =>
    have e1 := lit_yes (seen := seen) (first := first) hs h46
    by_cases h2 : s + 1 < lim
    · obtain ⟨s2, e2⟩ := rep_no (seen := seen.add 16) (first := first) h2 (h h46 h2)
      exact ⟨3, s2, by omega, (To.one rfl e1).trans ((To.one rfl e2).trans (To.one rfl (back_dot hs)))⟩
    · have e2 := rep_end (text := text) (lim := lim) (s := s) (first := first) (seen := seen.add 16) (by omega)
      exact ⟨3, _, by omega, (To.one rfl e1).trans ((To.one rfl e2).trans (To.one rfl (back_dot hs)))⟩
theorem misses {text : Array Nat} {lim : Nat} : ∀ {d s : Nat} {first : Bool} {seen : Seen}, s + d ≤ lim → (∀ i, s ≤ i → i < s + d → (text.getD i 0 == 46) = true → i + 1 < lim → isDigit (text.getD (i + 1) 0) = false) →
    ∃ n s2 f2, n ≤ 3 * d ∧ To n (mA text lim s first seen) (mA text lim (s + d) f2 s2)
  | 0, s, first, seen, _, _ => ⟨0, seen, first, Nat.le_refl _, rfl⟩
  | d + 1, s, first, seen, hs, h => by
    obtain ⟨n, s2, hn, t⟩ := miss (first := first) (seen := seen) (show s < lim by omega) (h s (Nat.le_refl _) (by omega))
    obtain ⟨n2, s3, f2, hn2, t2⟩ := misses (d := d) (s := s + 1) (first := false) (seen := s2) (by omega) (fun i h1 h2 => h i (by omega) (by omega))
    exact ⟨n + n2, s3, f2, by omega, by rw [show s + (d + 1) = s + 1 + d by omega]; exact t.trans t2⟩
theorem fails {text : Array Nat} {lim : Nat} (h : ∀ i, i < lim → (text.getD i 0 == 46) = true → i + 1 < lim → isDigit (text.getD (i + 1) 0) = false) {first : Bool} {seen : Seen} :
    ∃ n m, n ≤ 3 * lim + 3 ∧ To n (mA text lim 0 first seen) m ∧ m.outcome = some .failed := by
  obtain ⟨n, s2, f2, hn, t⟩ := misses (d := lim) (s := 0) (first := first) (seen := seen) (by omega) (fun i _ h2 => h i (by omega))
  rw [Nat.zero_add] at t
  refine ⟨n + (1 + (1 + 1)), _, by omega, t.trans ((To.one rfl lit_end).trans ((To.one (m := { mA text lim lim f2 (s2.add 16) with answer := some false }) rfl rfl).trans (To.one ?_ rfl))), back_end⟩
  rw [back_last]; rfl
theorem hits {text : Array Nat} {lim s k : Nat} {first : Bool} {seen : Seen} (h : s + 1 + (k + 1) = lim) (hk : k < 1000) (h46 : (text.getD s 0 == 46) = true) (hd : ∀ i, i < k + 1 → isDigit (text.getD (s + 1 + i) 0) = true)
    (hn : ∀ i, i < s → (text.getD i 0 == 46) = true → i + 1 < lim → isDigit (text.getD (i + 1) 0) = false) : ∃ n m, n ≤ 3 * lim + 7 ∧ To n (mA text lim 0 first seen) m ∧ Hit m s lim := by
  obtain ⟨n, s2, f2, h1, t⟩ := misses (d := s) (s := 0) (first := first) (seen := seen) (by omega) (fun i _ h2 => hn i (by omega))
  rw [Nat.zero_add] at t
  obtain ⟨m, t2, hm⟩ := hit (first := f2) (seen := s2) h hk h46 hd
  exact ⟨n + 7, m, by omega, t.trans t2, hm⟩
end
section
open PySem PySem.W PyProof.Rows
open PySem.Calls PySem.Spec
set_option maxRecDepth 100000
set_option maxHeartbeats 8000000
theorem lk_pat_ga : typeLookup (.type "re.Pattern") "__getattribute__" = pure (some (.builtin "object.__getattribute__")) := by rw [typeLookup_type, builtinLookup_eq_fast]; kernel_rfl
theorem pa_pat : PlainAttrs "re.Pattern" := ⟨⟨_, lk_pat_ga, by decide +kernel⟩, am_miss_of_fast (by decide +kernel)⟩
theorem slot_search : Slot "re.Pattern" "search" "re.Pattern.search" :=
  .of (owner := "re.Pattern") (n := "search") (by rw [typeLookup_type, builtinLookup_eq_fast]; kernel_rfl) (by decide +kernel) (by decide +kernel) (by decide +kernel)
    (by first | exact .inl (by decide +kernel) | exact .inr (by decide +kernel)) (by rw [isSubtype_type]; kernel_rfl)
theorem ty_search : typeOf (.builtin "re.Pattern.search") = pure (.type "method_descriptor") := by show builtinType _ = _; rw [builtinType_eq_fast]; kernel_rfl
theorem entry_search : entryFor table "re.Pattern.search" = some Builtin.«re.Pattern.search» := entryFor_of_tree (by kernel_rfl)
theorem args_search (a b : Value) : argsOk "re.Pattern.search" ⟨[a, b], []⟩ := by unfold argsOk; kernel_rfl
theorem lk_match_bool : typeLookup (.type "re.Match") "__bool__" = pure none := am_miss_of_fast (by decide +kernel)
theorem lk_match_len : typeLookup (.type "re.Match") "__len__" = pure none := am_miss_of_fast (by decide +kernel)
end
section
open PySem PySem.W PyProof.Rows
open PySem.Calls PySem.Spec
set_option maxRecDepth 100000
set_option maxHeartbeats 8000000
section
variable {M : Model} {A : Around} {E : Value → Shared → Prop} {s : Shared}
theorem drive_eq {k : Nat} {m : Sre.M} : Builtin.Re.reDrive (k + 1) m = (if (m.runFor Builtin.Re.reTurnSteps).outcome.isSome then pure (m.runFor Builtin.Re.reTurnSteps) else do rule "sre.turn"; Builtin.Re.reDrive k (m.runFor Builtin.Re.reTurnSteps)) := rfl
theorem drive_wp {Q : Sre.M → Shared → Prop} : ∀ {k n : Nat} {m m' : Sre.M}, To n m m' → m'.outcome.isSome → n < 4 * k → Q m' s → wpAny M A (Builtin.Re.reDrive k m) Q E s
  | 0, n, _, _, _, _, h, _ => absurd h (by omega)
  | k + 1, n, m, m', t, ho, h, q => by
    rw [drive_eq]
    by_cases h4 : (m.runFor Builtin.Re.reTurnSteps).outcome.isSome
    · rw [if_pos h4]
      have e : m.runFor Builtin.Re.reTurnSteps = m' := by
        by_cases hn : n ≤ 4
        · have t2 : m.runFor (n + (4 - n)) = m' := by rw [runFor_add, show m.runFor n = m' from t, runFor_done ho]
          rw [show n + (4 - n) = Builtin.Re.reTurnSteps by show n + (4 - n) = 4; omega] at t2
          exact t2
        · have t2 : m.runFor (4 + (n - 4)) = m' := by rw [show 4 + (n - 4) = n by omega]; exact t
          rw [runFor_add] at t2
          rw [← t2]
          exact (runFor_done h4 _).symm
      rw [e]; exact wpAny_pure q
    · rw [if_neg h4]
      refine wpAny_bind (wpAny_rule ?_)
      have hn : 4 < n := by
        apply Classical.byContradiction
        intro hn
        apply h4
        have t2 : m.runFor (n + (4 - n)) = m' := by rw [runFor_add, show m.runFor n = m' from t, runFor_done ho]
        rw [show n + (4 - n) = Builtin.Re.reTurnSteps by show n + (4 - n) = 4; omega] at t2
        rw [t2]; exact ho
      refine drive_wp (n := n - 4) (m' := m') ?_ ho (by omega) q
      have t2 : m.runFor (4 + (n - 4)) = m' := by rw [show 4 + (n - 4) = n by omega]; exact t
      rw [runFor_add] at t2
      exact t2
theorem forIn_rules {Q : PUnit → Shared → Prop} {c : Nat → Bool} {g : Nat → String} : ∀ l : List Nat, Q ⟨⟩ s → wpAny M A (forIn l PUnit.unit (fun i (_ : PUnit) => (if c i = true then (rule (g i) >>= fun _ => pure (ForInStep.yield PUnit.unit)) else pure (ForInStep.yield PUnit.unit) : Sem (ForInStep PUnit)))) Q E s
  | [], q => by rw [List.forIn_nil]; exact wpAny_pure q
  | i :: l, q => by
    rw [List.forIn_cons]
    refine wpAny_bind ?_
    cases c i with
    | true => rw [if_pos rfl]; exact wpAny_bind (wpAny_rule (wpAny_pure (forIn_rules l q)))
    | false => rw [if_neg Bool.false_ne_true]; exact wpAny_pure (forIn_rules l q)
theorem toEnd_wp {Q : Option Sre.M → Shared → Prop} {n : Nat} {m m' : Sre.M} (t : To n m m') (hn : n < 4 * 2 ^ 64) (h : match m'.outcome with | some .matched => Q (some m') s | some .failed => Q none s | _ => False) : wpAny M A (Builtin.Re.reRunToEnd m) Q E s := by
  unfold Builtin.Re.reRunToEnd
  have ho : m'.outcome.isSome := by
    cases e : m'.outcome with
    | none => rw [e] at h; exact h.elim
    | some _ => rfl
  refine wpAny_bind (drive_wp t ho hn ?_)
  refine wpAny_bind (forIn_rules _ ?_)
  cases e : m'.outcome with
  | none => rw [e] at h; exact h.elim
  | some o =>
    rw [e] at h
    cases o with
    | matched => exact wpAny_pure h
    | failed => exact wpAny_pure h
    | stuck _ => exact h.elim
end
end
section
open PySem PySem.W PyProof.Rows
open PySem.Calls PySem.Spec
set_option maxRecDepth 100000
set_option maxHeartbeats 800000
theorem named_search (x : Value) : Builtin.Re.reNamed "re.Pattern.search" "search" ["string", "pos", "endpos"] 1 [x] [] = pure [some x, none, none] := rfl
abbrev codeV : Array Value := #[.int 14 0, .int 8 0, .int 1 0, .int 2 0, .int 4294967295 0, .int 1 0, .int 1 0, .int 46 0, .int 0 0, .int 16 0, .int 46 0, .int 24 0, .int 9 0, .int 1 0, .int 4294967295 0, .int 13 0, .int 4 0, .int 8 0, .int 0 0, .int 0 0, .int 1 0, .int 6 0, .int 5 0, .int 1 0]
abbrev oCode : Obj := { cls := .type "tuple", data := .seq codeV }
abbrev oPat : Obj := { cls := .type "re.Pattern", data := .fields #[.str (Str.ofString "\\.\\d+$") 404, .int 256 431, .int 0 0, .none, .none, .ref 133, .int 0 0] }
theorem k_pat (w : World) : (hd.heap_39 w.params).lookup 134 = some oPat := by kernel_rfl
theorem k_code (w : World) : (hd.heap_39 w.params).lookup 133 = some oCode := by kernel_rfl
theorem for_search (text : Array Nat) (h : 2 ≤ text.size) : Sre.forSearch cdR text 0 0 text.size false = mA text text.size 0 true ({ : Sre.Seen}.add 14) := by
  show (if (decide (0 > text.size) || decide (text.size - 0 < 2)) = true then _ else _) = _
  rw [if_neg (by simp; omega)]
  rfl
section
variable {M : Model} {A : Around} {E : Value → Shared → Prop} {s : Shared}
theorem target_wp {x : Str} {u : Tok} {Q : Builtin.Re.ReTarget → Shared → Prop} (h1 : s.heap.get? 134 = some oPat) (h2 : s.heap.get? 133 = some oCode) (hx : x.length ≤ sizeLine)
    (h : Q { pattern := .ref 134, string := .str x u, code := cdR, text := x.cps, kind := 0, groups := 0, pos := 0, lim := x.cps.size } s) :
    wpAny M A (Builtin.Re.reTarget "re.Pattern.search" "search" ⟨[.ref 134, .str x u], []⟩) Q E s := by
  unfold Builtin.Re.reTarget
  refine wpAny_bind (wpAny_of_eq (named_search (.str x u)) ?_)
  refine wpAny_bind (wpAny_pure ?_)
  refine wpAny_bind (wpAny_pure ?_)
  refine wpAny_bind (wpAny_fieldsOf h1 rfl ?_)
  refine wpAny_bind (wpAny_of_eq (a := (x.cps, 0)) rfl ?_)
  refine wpAny_bind (wpAny_of_eq (a := ()) rfl ?_)
  have e : Builtin.Re.reRawItems (.ref 133) = (do return ((← seqItems? (.ref 133)).getD #[]).map Builtin.Re.reRawOf) := rfl
  dsimp only
  show wpAny M A (Builtin.Re.reRawItems (.ref 133) >>= _) Q E s
  rw [e]
  refine wpAny_bind (wpAny_bind (wpAny_seqItems h2 rfl (wpAny_pure ?_)))
  refine wpAny_pure ?_
  have e2 : min (2 ^ 63 - 1 : Int).toNat x.cps.size = x.cps.size := by
    have : x.cps.size ≤ sizeLine := hx
    rw [sizeLine_eq] at this
    omega
  show Q { pattern := .ref 134, string := .str x u, code := _, text := x.cps, kind := 0, groups := _, pos := min (0 : Int).toNat x.cps.size, lim := min (2 ^ 63 - 1 : Int).toNat x.cps.size } s
  rw [e2]
  have e3 : min (0 : Int).toNat x.cps.size = 0 := by simp
  rw [e3]
  have e4 : Array.map (fun x : Int => x.toNat) (Array.map Builtin.Re.reRawOf ((some codeV).getD #[])) = cdR := by decide +kernel
  rw [e4]
  exact h
theorem newMatch_wp {v x : Value} {p l : Nat} {m : Sre.M} {Q : Value → Shared → Prop}
    (h : ∀ f, Q (.ref (s.heap.objs.size + 1)) { s with heap := (s.heap.push { cls := .type "tuple", data := .seq #[rawInt m.start, rawInt m.handed] }).push { cls := .type "re.Match", data := .fields f } }) :
    wpAny M A (Builtin.Re.reNewMatch v x 0 p l m) Q E s := by
  show wpAny M A (newTuple [rawInt m.start, rawInt m.handed] >>= fun t => newFields "re.Match" [x, v, rawInt p, rawInt l, rawInt m.lastindex, t]) Q E s
  refine wpAny_bind (wpAny_newTuple ?_ (by show (2 : Nat) ≤ _; rw [sizeLine_eq]; decide))
  have := h #[x, v, rawInt p, rawInt l, rawInt m.lastindex, .ref s.heap.objs.size]
  refine wpAny_newObj_type ?_ (by show (6 : Nat) ≤ _; rw [sizeLine_eq]; decide)
  rw [Heap.size_push]
  exact this
end
section
variable {prog : Program} {w : World} {A : Around} {E : Value → Shared → Prop} {s : Shared}
/-- no dot stands ahead of a digit -/
def NoDot (x : Str) : Prop := ∀ i, i < x.cps.size → (x.cps.getD i 0 == 46) = true → i + 1 < x.cps.size → Sre.isDigit (x.cps.getD (i + 1) 0) = false
/-- the one dot ahead of a digit has digits behind it to the end -/
def EndDot (x : Str) : Prop := ∃ d k, d + 1 + (k + 1) = x.cps.size ∧ k < 1000 ∧ (x.cps.getD d 0 == 46) = true ∧ (∀ i, i < k + 1 → Sre.isDigit (x.cps.getD (d + 1 + i) 0) = true) ∧ ∀ i, i < d → (x.cps.getD i 0 == 46) = true → i + 1 < x.cps.size → Sre.isDigit (x.cps.getD (i + 1) 0) = false
theorem search_call {x : Str} {u : Tok} {Q : Value → Shared → Prop} (h1 : s.heap.get? 134 = some oPat) (h : wpAny (model prog w) A.in1 (Builtin.«re.Pattern.search» ⟨[.ref 134, .str x u], []⟩) (fun fin s' => ∃ v, fin = .done (.ret v) ∧ Q v s') E s) :
    wpAny (model prog w) A (call (.builtin "re.Pattern.search") [.ref 134, .str x u]) Q E s :=
  call_meetsIn slot_search ⟨_, h1, rfl⟩ entry_search (args_search _ _) (MeetsIn.of_wp (S := fun A R s => wpAny (model prog w) A.in1 (Builtin.«re.Pattern.search» ⟨[.ref 134, .str x u], []⟩) (fun fin s' => ∃ v, fin = .done (.ret v) ∧ R (.ok (.ret v)) s') (fun e s' => R (.error e) s') s) fun _ _ _ h => h) h
theorem search_none {x : Str} {u : Tok} {Q : Value → Shared → Prop} (h1 : s.heap.get? 134 = some oPat) (h2 : s.heap.get? 133 = some oCode) (hx : x.length ≤ sizeLine) (h3 : 2 ≤ x.length) (hd : NoDot x) (h : Q .none s) :
    wpAny (model prog w) A (call (.builtin "re.Pattern.search") [.ref 134, .str x u]) Q E s := by
  refine search_call h1 ?_
  unfold Builtin.«re.Pattern.search»
  refine wpAny_bind (target_wp h1 h2 hx ?_)
  dsimp only
  rw [for_search _ h3]
  unfold Builtin.Re.reAnswer
  obtain ⟨n, m, hn, t, hm⟩ := fails hd (first := true) (seen := ({ : Sre.Seen}.add 14))
  have hx2 : x.cps.size ≤ sizeLine := hx
  rw [sizeLine_eq] at hx2
  refine wpAny_bind (toEnd_wp t (by omega) ?_)
  rw [hm]
  exact wpAny_pure ⟨_, rfl, h⟩
theorem search_some {x : Str} {u : Tok} {Q : Value → Shared → Prop} (h1 : s.heap.get? 134 = some oPat) (h2 : s.heap.get? 133 = some oCode) (hx : x.length ≤ sizeLine) (hd : EndDot x)
    (h : ∀ a b f, Q (.ref (s.heap.objs.size + 1)) { s with heap := (s.heap.push { cls := .type "tuple", data := .seq #[a, b] }).push { cls := .type "re.Match", data := .fields f } }) :
    wpAny (model prog w) A (call (.builtin "re.Pattern.search") [.ref 134, .str x u]) Q E s := by
  obtain ⟨d, k, e1, e2, e3, e4, e5⟩ := hd
  refine search_call h1 ?_
  unfold Builtin.«re.Pattern.search»
  refine wpAny_bind (target_wp h1 h2 hx ?_)
  dsimp only
  rw [for_search _ (by omega)]
  unfold Builtin.Re.reAnswer
  obtain ⟨n, m, hn, t, hm⟩ := hits e1 e2 e3 e4 e5 (first := true) (seen := ({ : Sre.Seen}.add 14))
  have hx2 : x.cps.size ≤ sizeLine := hx
  rw [sizeLine_eq] at hx2
  refine wpAny_bind (toEnd_wp t (by omega) ?_)
  rw [hm.out]
  refine wpAny_bind (newMatch_wp fun f => ?_)
  exact wpAny_pure ⟨_, rfl, h _ _ f⟩
end
end
section
open PySem PySem.W PyProof.Rows
open PySem.Calls PySem.Spec
set_option maxRecDepth 100000
set_option maxHeartbeats 8000000
theorem eq_b0 {prog : Program} {w : World} {A : Around} {E : Value → Shared → Prop} {s : Shared} {x y : Str} {t u : Tok} {Q : Value → Shared → Prop} (b : Bool) (hb : (x == y) = b) (h : Q (.bool b) s) : wpAny (model prog w) A (compareOp .Eq (.str x t) (.str y u)) Q E s :=
  PyProof.Rows.eq_str (by rw [hb]; exact h)
section
variable {w : World} {A : Around} {E : Value → Shared → Prop} {s : Shared} {h₀ : Heap} {L : Addr} {m : Str → Option Value} {news : Led}
theorem pat_at (X : (hd.heap_39 w.params).In h₀) (F : Fr h₀ L s.heap m) : s.heap.get? 134 = some oPat := F.keep _ _ (X _ _ (k_pat w))
theorem code_at (X : (hd.heap_39 w.params).In h₀) (F : Fr h₀ L s.heap m) : s.heap.get? 133 = some oCode := F.keep _ _ (X _ _ (k_code w))
theorem method_pat {prog : Program} {pl : Sem Bool} {Q : Value × List Value → Shared → Prop} (X : (hd.heap_39 w.params).In h₀) (F : Fr h₀ L s.heap m) (h : Q (.builtin "re.Pattern.search", [.ref 134]) s) :
    wpAny (model prog w) A (getMethod (.ref 134) "search" pl) Q E s :=
  getMethod_builtin ⟨_, pat_at X F, rfl⟩ pa_pat slot_search ty_search (fun a e => by injection e with e; subst e; exact ⟨_, pat_at X F, rfl⟩) h
theorem search_none_K {prog : Program} {x : Str} {u : Tok} {Q : Value → Shared → Prop} (X : (hd.heap_39 w.params).In h₀) (F : Fr h₀ L s.heap m) (hx : x.length ≤ sizeLine) (h3 : 2 ≤ x.length) (hd : NoDot x) (h : Q .none s) :
    wpAny (model prog w) A (call (.builtin "re.Pattern.search") [.ref 134, .str x u]) Q E s := search_none (pat_at X F) (code_at X F) hx h3 hd h
abbrev oMatch (f : Array Value) : Obj := { cls := .type "re.Match", data := .fields f }
theorem search_some_K {prog : Program} {x : Str} {u : Tok} {Q : Value → Shared → Prop} (X : (hd.heap_39 w.params).In h₀) (F : Fr h₀ L s.heap m) (N : News h₀ L s.heap news) (hx : x.length ≤ sizeLine) (hd : EndDot x)
    (h : ∀ D T f a b h', Fr h₀ L h' m → News h₀ L h' ((D, oMatch f) :: (T, { cls := .type "tuple", data := .seq #[a, b] }) :: news) → Q (.ref D) { s with heap := h' }) :
    wpAny (model prog w) A (call (.builtin "re.Pattern.search") [.ref 134, .str x u]) Q E s :=
  search_some (pat_at X F) (code_at X F) hx hd fun a b f => by
    have F1 := F.push { cls := .type "tuple", data := .seq #[a, b] }
    have N1 := N.push F { cls := .type "tuple", data := .seq #[a, b] }
    have N2 := N1.push F1 (oMatch f)
    rw [Heap.size_push] at N2
    exact h _ _ f a b _ (F1.push _) N2
theorem truthy_match {D : Addr} {f : Array Value} {Q : Bool → Shared → Prop} {M : Model} (N : News h₀ L s.heap news) (hm : (D, oMatch f) ∈ news) (h : Q true s) : wpAny M A (truthy (.ref D)) Q E s := by
  have hT : s.TypeIs (.ref D) "re.Match" := ⟨_, (N _ hm).1, rfl⟩
  unfold truthy
  refine wpAny_bind (wpAny_callSpecial?_none hT lk_match_bool ?_)
  refine wpAny_bind (wpAny_specialOf hT lk_match_len ?_)
  exact wpAny_pure h
theorem item_beq {x : Str} {k : Int} {b : Bool} {y : Str} (h : (Txt.item x k == y) = b) : (Txt.item x k == y) = b := h
end
abbrev HdnTel (w : World) (x : Str) (tx : Tok) (b : Bool) : Prop := Tel w 141 [.str x tx] 10 (fun _ => True) (fun news news' r => (∃ nw, news' = nw ++ news) ∧ r = .bool b)
theorem hdn_hit {w : World} (x : Str) (tx : Tok) (hx : x.length ≤ sizeLine) (hd1 : EndDot x) : HdnTel w x tx false := by
  unfold HdnTel Tel
  k_fill
  w_top off
  intro mean mg mb dp un gd cn cs a ccd cl outer A₀ base h₀ L m news s Q E B F X N T hk hd hu hg hp hret
  refine wpAny_call ?_
  k_dflt ktr_enter
  refine fold_ctx ?_
  intro M9 A9 e9
  repeat' (first
    | (k_unfold; (try dsimp only))
    | ((with_reducible show wpAny _ _ (call (Value.builtin "re.Pattern.search") _) _ _ _); (k_here; k_dflt (refine' search_some_K ?k1 ?k2 ?k0 ?k3 ?k5 ?_; (case k1 => assumption); (case k2 | k0 => k_asm); (case k3 | k5 => assumption); k_whole); intro D9 T9 f9 a9 b9 h9 F9 N9); (try k_fold))
    | ((with_reducible show wpAny _ _ (truthy (Value.ref _)) _ _ _); (k_here; k_dflt (refine' truthy_match ?k1 ?k2 ?_; (case k1 => k_asm); (case k2 => exact .head _); k_whole)); (try k_fold))
    | ((with_reducible show wpAny _ _ (getMethod (Value.ref _) _ _) _ _ _); (k_here; k_dflt (refine' method_pat ?k1 ?k2 ?_; (case k1 => assumption); (case k2 => k_asm); k_whole)); (try k_fold))
    | ((with_reducible show wpAny _ _ (execs (_ :: _) _) _ _ _); (k_here; (with_reducible refine wpAny_execs_cons ?_); (try dsimp only); (try k_fold); (try (refine fold_fn (by k_asm) (by k_asm) ?_; intro led9 fm9 F9 N9))); (try k_fold))
    | (walk1; (try k_fold)) | (dsimp only; walk1; (try k_fold)) | (leave1; (try dsimp only)) | fail "no step")
  all_goals (exact hret _ _ _ _ _ (by assumption) (by assumption) hg ⟨⟨[_, _], rfl⟩, rfl⟩)
theorem hdn_last {w : World} (x : Str) (tx : Tok) (hx : x.length ≤ sizeLine) (h3 : 2 ≤ x.length) (hd1 : NoDot x) (h1 : (x == Str.ofString "") = false) (h4 : (Txt.item x 0 == Str.ofString ".") = false) (h5 : (Txt.item x (-1) == Str.ofString ".") = true) : HdnTel w x tx false := by
  unfold HdnTel Tel
  k_fill
  w_top off
  intro mean mg mb dp un gd cn cs a ccd cl outer A₀ base h₀ L m news s Q E B F X N T hk hd hu hg hp hret
  refine wpAny_call ?_
  k_dflt ktr_enter
  refine fold_ctx ?_
  intro M9 A9 e9
  repeat' (first
    | (k_unfold; (try dsimp only))
    | ((with_reducible show wpAny _ _ (compareOp CmpOp.Eq (Value.str _ _) (Value.str _ _)) _ _ _); (k_here; refine' eq_b0 _ ?kb ?_; (case kb => assumption); k_whole); (try k_fold))
    | ((with_reducible show wpAny _ _ (call (Value.builtin "re.Pattern.search") _) _ _ _); (k_here; k_dflt (refine' search_none_K ?k1 ?k2 ?k3 ?k4 ?k5 ?_; (case k1 => assumption); (case k2 => k_asm); (case k3 | k4 | k5 => assumption); k_whole)); (try k_fold))
    | ((with_reducible show wpAny _ _ (getMethod (Value.ref _) _ _) _ _ _); (k_here; k_dflt (refine' method_pat ?k1 ?k2 ?_; (case k1 => assumption); (case k2 => k_asm); k_whole)); (try k_fold))
    | ((with_reducible show wpAny _ _ (execs (_ :: _) _) _ _ _); (k_here; (with_reducible refine wpAny_execs_cons ?_); (try dsimp only); (try k_fold); (try (refine fold_fn (by k_asm) (by k_asm) ?_; intro led9 fm9 F9 N9))); (try k_fold))
    | (walk1; (try k_fold)) | (dsimp only; walk1; (try k_fold)) | (leave1; (try dsimp only)) | fail "no step")
  all_goals (exact hret _ _ _ _ _ (by assumption) (by assumption) hg ⟨⟨[], rfl⟩, rfl⟩)
theorem hdn_yes {w : World} (x : Str) (tx : Tok) (hx : x.length ≤ sizeLine) (h3 : 2 ≤ x.length) (hd1 : NoDot x) (h1 : (x == Str.ofString "") = false) (h4 : (Txt.item x 0 == Str.ofString ".") = false) (h5 : (Txt.item x (-1) == Str.ofString ".") = false) : HdnTel w x tx true := by
  unfold HdnTel Tel
  k_fill
  w_top off
  intro mean mg mb dp un gd cn cs a ccd cl outer A₀ base h₀ L m news s Q E B F X N T hk hd hu hg hp hret
  refine wpAny_call ?_
  k_dflt ktr_enter
  refine fold_ctx ?_
  intro M9 A9 e9
  repeat' (first
    | (k_unfold; (try dsimp only))
    | ((with_reducible show wpAny _ _ (compareOp CmpOp.Eq (Value.str _ _) (Value.str _ _)) _ _ _); (k_here; refine' eq_b0 _ ?kb ?_; (case kb => assumption); k_whole); (try k_fold))
    | ((with_reducible show wpAny _ _ (call (Value.builtin "re.Pattern.search") _) _ _ _); (k_here; k_dflt (refine' search_none_K ?k1 ?k2 ?k3 ?k4 ?k5 ?_; (case k1 => assumption); (case k2 => k_asm); (case k3 | k4 | k5 => assumption); k_whole)); (try k_fold))
    | ((with_reducible show wpAny _ _ (getMethod (Value.ref _) _ _) _ _ _); (k_here; k_dflt (refine' method_pat ?k1 ?k2 ?_; (case k1 => assumption); (case k2 => k_asm); k_whole)); (try k_fold))
    | ((with_reducible show wpAny _ _ (execs (_ :: _) _) _ _ _); (k_here; (with_reducible refine wpAny_execs_cons ?_); (try dsimp only); (try k_fold); (try (refine fold_fn (by k_asm) (by k_asm) ?_; intro led9 fm9 F9 N9))); (try k_fold))
    | (walk1; (try k_fold)) | (dsimp only; walk1; (try k_fold)) | (leave1; (try dsimp only)) | fail "no step")
  all_goals (exact hret _ _ _ _ _ (by assumption) (by assumption) hg ⟨⟨[], rfl⟩, rfl⟩)
end
section
open PySem PySem.W PyProof.Rows
open PySem.Calls PySem.Spec
set_option maxRecDepth 100000
set_option maxHeartbeats 8000000
theorem hdn_use {w : World} {x : Str} {b : Bool} (H : ∀ tk, HdnTel w x tk b) (tk : Tok) : HdnTel w x tk b := H tk
abbrev ReachTel (w : World) (x : Str) (tx : Tok) (y : Str) : Prop := Tel w 148 [.str x tx] 20 (fun _ => True) (fun news news' r => (∃ nw, news' = nw ++ news) ∧ ∃ t, r = .str y t)
theorem reach_no {w : World} (x : Str) (tx : Tok) (hx : x.length ≤ sizeLine) (h1 : ¬ 0 ≤ Txt.find x (Str.ofString ".")) : ReachTel w x tx x := by
  have b : Bool := true
  unfold ReachTel Tel
  k_fill
  w_top off
  intro mean mg mb dp un gd cn cs a ccd cl outer A₀ base h₀ L m news s Q E B F X N T hk hd hu hg hp hret
  refine wpAny_call ?_
  k_dflt ktr_enter
  refine fold_ctx ?_
  intro M9 A9 e9
  repeat' (first
    | (k_unfold; (try dsimp only))
    | ((with_reducible show wpAny _ _ (execs (_ :: _) _) _ _ _); (k_here; (with_reducible refine wpAny_execs_cons ?_); (try dsimp only); (try k_fold); (try (refine fold_fn (by k_asm) (by k_asm) ?_; intro led9 fm9 F9 N9))); (try k_fold))
    | (walk1; (try k_fold)) | (dsimp only; walk1; (try k_fold)) | (leave1; (try dsimp only)) | fail "no step")
  all_goals first | (exfalso; omega) | (exact hret _ _ _ _ _ (by assumption) (by assumption) (by assumption) ⟨⟨[], rfl⟩, _, rfl⟩)
theorem reach_bad {w : World} (x : Str) (tx : Tok) (hx : x.length ≤ sizeLine) (h1 : 0 ≤ Txt.find x (Str.ofString ".")) (H : ∀ tk, HdnTel w x tk false) : ReachTel w x tx x := by
  unfold ReachTel Tel
  k_fill
  w_top off
  intro mean mg mb dp un gd cn cs a ccd cl outer A₀ base h₀ L m news s Q E B F X N T hk hd hu hg hp hret
  refine wpAny_call ?_
  k_dflt ktr_enter
  refine fold_ctx ?_
  intro M9 A9 e9
  repeat' (first
    | (k_unfold; (try dsimp only))
    | ((with_reducible show wpAny _ _ (call (Value.ref _) _) _ _ _); (k_here; k_dflt (refine' tel_use (hdn_use ?kH _) ?k1 ?k2 ?k3 ?k4 ?k5 ?k6 ?k7 ?k8 ?k9 ?k10 ?_; (case kH => assumption); (case k1 | k2 => k_asm); (case k3 | k4 | k5 => k_asm); (case k6 => first | exact rfl | assumption); (case k7 => ktr_room); (case k8 => ktr_units); (case k9 => assumption); (case k10 => exact True.intro)); intro r9 n9 h9 t9 g9 F9 N9 G9 P9; obtain ⟨⟨nw9, e9⟩, y9⟩ := P9; subst e9; subst y9); (try k_fold))
    | ((with_reducible show wpAny _ _ (execs (_ :: _) _) _ _ _); (k_here; (with_reducible refine wpAny_execs_cons ?_); (try dsimp only); (try k_fold); (try (refine fold_fn (by k_asm) (by k_asm) ?_; intro led9 fm9 F9 N9))); (try k_fold))
    | (walk1; (try k_fold)) | (dsimp only; walk1; (try k_fold)) | (leave1; (try dsimp only)) | fail "no step")
  all_goals first | (exfalso; omega) | (exact hret _ _ _ _ _ (by assumption) (by assumption) (by assumption) ⟨⟨_, rfl⟩, _, rfl⟩)
theorem reach_same {w : World} (x b : Str) (tx : Tok) (hx : x.length ≤ sizeLine) (h1 : 0 ≤ Txt.find x (Str.ofString ".")) (hb : Txt.slice x (some (Txt.find x (Str.ofString ".") + 1)) none = b) (hz : b.length + 1 ≤ sizeLine) (h2 : ¬ 0 ≤ Txt.find b (Str.ofString ".")) (h3 : (b == Str.ofString "local") = false) (H : ∀ tk, HdnTel w x tk true) : ReachTel w x tx x := by
  subst hb
  unfold ReachTel Tel
  k_fill
  w_top off
  intro mean mg mb dp un gd cn cs a ccd cl outer A₀ base h₀ L m news s Q E B F X N T hk hd hu hg hp hret
  refine wpAny_call ?_
  k_dflt ktr_enter
  refine fold_ctx ?_
  intro M9 A9 e9
  repeat' (first
    | (k_unfold; (try dsimp only))
    | ((with_reducible show wpAny _ _ (compareOp CmpOp.Eq (Value.str _ _) (Value.str _ _)) _ _ _); (k_here; refine' eq_b0 _ ?kb ?_; (case kb => assumption); k_whole); (try k_fold))
    | ((with_reducible show wpAny _ _ (call (Value.ref _) _) _ _ _); (k_here; k_dflt (refine' tel_use (hdn_use ?kH _) ?k1 ?k2 ?k3 ?k4 ?k5 ?k6 ?k7 ?k8 ?k9 ?k10 ?_; (case kH => assumption); (case k1 | k2 => k_asm); (case k3 | k4 | k5 => k_asm); (case k6 => first | exact rfl | assumption); (case k7 => ktr_room); (case k8 => ktr_units); (case k9 => assumption); (case k10 => exact True.intro)); intro r9 n9 h9 t9 g9 F9 N9 G9 P9; obtain ⟨⟨nw9, e9⟩, y9⟩ := P9; subst e9; subst y9); (try k_fold))
    | ((with_reducible show wpAny _ _ (execs (_ :: _) _) _ _ _); (k_here; (with_reducible refine wpAny_execs_cons ?_); (try dsimp only); (try k_fold); (try (refine fold_fn (by k_asm) (by k_asm) ?_; intro led9 fm9 F9 N9))); (try k_fold))
    | (walk1; (try k_fold)) | (dsimp only; walk1; (try k_fold)) | (leave1; (try dsimp only)) | fail "no step")
  all_goals first | (exfalso; omega) | (exact hret _ _ _ _ _ (by assumption) (by assumption) (by assumption) ⟨⟨_, rfl⟩, _, rfl⟩)
theorem reach_dot1 {w : World} (x b : Str) (tx : Tok) (hx : x.length ≤ sizeLine) (h1 : 0 ≤ Txt.find x (Str.ofString ".")) (hb : Txt.slice x (some (Txt.find x (Str.ofString ".") + 1)) none = b) (hz : b.length + 1 ≤ sizeLine) (h2 : 0 ≤ Txt.find b (Str.ofString ".")) (H : ∀ tk, HdnTel w x tk true) : ReachTel w x tx (Str.ofString "." ++ b) := by
  subst hb
  unfold ReachTel Tel
  k_fill
  w_top off
  intro mean mg mb dp un gd cn cs a ccd cl outer A₀ base h₀ L m news s Q E B F X N T hk hd hu hg hp hret
  refine wpAny_call ?_
  k_dflt ktr_enter
  refine fold_ctx ?_
  intro M9 A9 e9
  repeat' (first
    | (k_unfold; (try dsimp only))
    | ((with_reducible show wpAny _ _ (call (Value.ref _) _) _ _ _); (k_here; k_dflt (refine' tel_use (hdn_use ?kH _) ?k1 ?k2 ?k3 ?k4 ?k5 ?k6 ?k7 ?k8 ?k9 ?k10 ?_; (case kH => assumption); (case k1 | k2 => k_asm); (case k3 | k4 | k5 => k_asm); (case k6 => first | exact rfl | assumption); (case k7 => ktr_room); (case k8 => ktr_units); (case k9 => assumption); (case k10 => exact True.intro)); intro r9 n9 h9 t9 g9 F9 N9 G9 P9; obtain ⟨⟨nw9, e9⟩, y9⟩ := P9; subst e9; subst y9); (try k_fold))
    | ((with_reducible show wpAny _ _ (execs (_ :: _) _) _ _ _); (k_here; (with_reducible refine wpAny_execs_cons ?_); (try dsimp only); (try k_fold); (try (refine fold_fn (by k_asm) (by k_asm) ?_; intro led9 fm9 F9 N9))); (try k_fold))
    | (walk1; (try k_fold)) | (dsimp only; walk1; (try k_fold)) | (leave1; (try dsimp only)) | fail "no step")
  all_goals first | (exfalso; omega) | (exact hret _ _ _ _ _ (by assumption) (by assumption) (by assumption) ⟨⟨_, rfl⟩, _, rfl⟩)
theorem reach_dot2 {w : World} (x b : Str) (tx : Tok) (hx : x.length ≤ sizeLine) (h1 : 0 ≤ Txt.find x (Str.ofString ".")) (hb : Txt.slice x (some (Txt.find x (Str.ofString ".") + 1)) none = b) (hz : b.length + 1 ≤ sizeLine) (h2 : ¬ 0 ≤ Txt.find b (Str.ofString ".")) (h3 : (b == Str.ofString "local") = true) (H : ∀ tk, HdnTel w x tk true) : ReachTel w x tx (Str.ofString "." ++ b) := by
  subst hb
  unfold ReachTel Tel
  k_fill
  w_top off
  intro mean mg mb dp un gd cn cs a ccd cl outer A₀ base h₀ L m news s Q E B F X N T hk hd hu hg hp hret
  refine wpAny_call ?_
  k_dflt ktr_enter
  refine fold_ctx ?_
  intro M9 A9 e9
  repeat' (first
    | (k_unfold; (try dsimp only))
    | ((with_reducible show wpAny _ _ (compareOp CmpOp.Eq (Value.str _ _) (Value.str _ _)) _ _ _); (k_here; refine' eq_b0 _ ?kb ?_; (case kb => assumption); k_whole); (try k_fold))
    | ((with_reducible show wpAny _ _ (call (Value.ref _) _) _ _ _); (k_here; k_dflt (refine' tel_use (hdn_use ?kH _) ?k1 ?k2 ?k3 ?k4 ?k5 ?k6 ?k7 ?k8 ?k9 ?k10 ?_; (case kH => assumption); (case k1 | k2 => k_asm); (case k3 | k4 | k5 => k_asm); (case k6 => first | exact rfl | assumption); (case k7 => ktr_room); (case k8 => ktr_units); (case k9 => assumption); (case k10 => exact True.intro)); intro r9 n9 h9 t9 g9 F9 N9 G9 P9; obtain ⟨⟨nw9, e9⟩, y9⟩ := P9; subst e9; subst y9); (try k_fold))
    | ((with_reducible show wpAny _ _ (execs (_ :: _) _) _ _ _); (k_here; (with_reducible refine wpAny_execs_cons ?_); (try dsimp only); (try k_fold); (try (refine fold_fn (by k_asm) (by k_asm) ?_; intro led9 fm9 F9 N9))); (try k_fold))
    | (walk1; (try k_fold)) | (dsimp only; walk1; (try k_fold)) | (leave1; (try dsimp only)) | fail "no step")
  all_goals first | (exfalso; omega) | (exact hret _ _ _ _ _ (by assumption) (by assumption) (by assumption) ⟨⟨_, rfl⟩, _, rfl⟩)
end
section
open PySem PySem.W PyProof.Rows
open PySem.Calls PySem.Spec
set_option maxRecDepth 100000
set_option maxHeartbeats 8000000
theorem len_s {prog : Program} {w : World} {A : Around} {E : Value → Shared → Prop} {s : Shared} {x : Str} {t : Tok} {Q : Value → Shared → Prop} (hx : x.length ≤ sizeLine) (h : ∀ t' k, Q (.int x.length t') { s with toks := k }) : wpAny (model prog w) A (call (.builtin "len") [.str x t]) Q E s :=
  PyProof.Rows.len_str (by rw [sizeLine_eq] at hx; omega) (h _ _)
abbrev StripTel (w : World) (x : Str) (tx : Tok) (y : Str) : Prop := Tel w 129 [.str x tx] 20 (fun _ => True) (fun news news' r => (∃ nw, news' = nw ++ news) ∧ ∃ t, r = .str y t)
open PySem.Builtin PySem.Builtin.Str in
def find4 (x y : Str) (a b : Int) : Int := match occurrences x y (fromIndex x.length a) (min (fromIndex x.length b) x.length) 1 with | k :: _ => (k : Int) | [] => -1
open PySem.Builtin PySem.Builtin.Str in
def rfind4 (x y : Str) (a b : Int) : Int := match lastOccurrence x y (fromIndex x.length a) (min (fromIndex x.length b) x.length) with | some k => (k : Int) | none => -1
open PySem.Builtin PySem.Builtin.Str in
theorem gives_find4 (x y : Str) (a b : Int) (t u va vb : Tok) : Gives («str.find» ⟨[.str x t, .str y u, .int a va, .int b vb], []⟩) (.int (find4 x y a b)) := by
  show Gives (match occurrences x y (fromIndex x.length a) (min (fromIndex x.length b) x.length) 1 with | k :: _ => retInt k | [] => (do rule "str.find.not-found"; retInt (-1))) _
  unfold find4
  cases occurrences x y (fromIndex x.length a) (min (fromIndex x.length b) x.length) 1 with
  | nil => exact .rule (.of_eq rfl)
  | cons k _ => exact .of_eq rfl
open PySem.Builtin PySem.Builtin.Str in
theorem gives_rfind4 (x y : Str) (a b : Int) (t u va vb : Tok) : Gives («str.rfind» ⟨[.str x t, .str y u, .int a va, .int b vb], []⟩) (.int (rfind4 x y a b)) := by
  show Gives (match lastOccurrence x y (fromIndex x.length a) (min (fromIndex x.length b) x.length) with | some k => retInt k | none => (do rule "str.rfind.not-found"; retInt (-1))) _
  unfold rfind4
  cases lastOccurrence x y (fromIndex x.length a) (min (fromIndex x.length b) x.length) with
  | none => exact .rule (.of_eq rfl)
  | some k => exact .of_eq rfl
section
variable {prog : Program} {w : World} {A : Around} {E : Value → Shared → Prop} {s : Shared} {x y : Str} {t u va vb : Tok} {a b : Int} {Q : Value → Shared → Prop}
theorem call_find4 (hq : ∀ t k, Q (.int (find4 x y a b) t) { s with toks := k }) : wpAny (model prog w) A (call (.builtin "str.find") [.str x t, .str y u, .int a va, .int b vb]) Q E s :=
  call_gives F.slot_str_find (typeIs_str _ _ _) F.entry_str_find (F.args_str_find_4 _ _ _ _) (gives_find4 x y a b t u va vb) (hq _ _)
theorem call_rfind4 (hq : ∀ t k, Q (.int (rfind4 x y a b) t) { s with toks := k }) : wpAny (model prog w) A (call (.builtin "str.rfind") [.str x t, .str y u, .int a va, .int b vb]) Q E s :=
  call_gives F.slot_str_rfind (typeIs_str _ _ _) F.entry_str_rfind (F.args_str_rfind_4 _ _ _ _) (gives_rfind4 x y a b t u va vb) (hq _ _)
end
def stripS (x : Str) : Str :=
  Txt.slice x (some (if 0 ≤ rfind4 x (Str.ofString ".") 0 (if 0 ≤ find4 x (Str.ofString ":") 0 (if 0 ≤ Txt.find x (Str.ofString "\n") then Txt.find x (Str.ofString "\n") else x.length) then find4 x (Str.ofString ":") 0 (if 0 ≤ Txt.find x (Str.ofString "\n") then Txt.find x (Str.ofString "\n") else x.length) else (if 0 ≤ Txt.find x (Str.ofString "\n") then Txt.find x (Str.ofString "\n") else x.length)) then rfind4 x (Str.ofString ".") 0 (if 0 ≤ find4 x (Str.ofString ":") 0 (if 0 ≤ Txt.find x (Str.ofString "\n") then Txt.find x (Str.ofString "\n") else x.length) then find4 x (Str.ofString ":") 0 (if 0 ≤ Txt.find x (Str.ofString "\n") then Txt.find x (Str.ofString "\n") else x.length) else (if 0 ≤ Txt.find x (Str.ofString "\n") then Txt.find x (Str.ofString "\n") else x.length)) + 1 else 0))
    (some (if 0 ≤ find4 x (Str.ofString ":") 0 (if 0 ≤ Txt.find x (Str.ofString "\n") then Txt.find x (Str.ofString "\n") else x.length) then find4 x (Str.ofString ":") 0 (if 0 ≤ Txt.find x (Str.ofString "\n") then Txt.find x (Str.ofString "\n") else x.length) else (if 0 ≤ Txt.find x (Str.ofString "\n") then Txt.find x (Str.ofString "\n") else x.length)))
theorem strip_of {x : Str} {e1 e2 i3 : Int} (h8 : (0 ≤ Txt.find x (Str.ofString "\n") ∧ e1 = Txt.find x (Str.ofString "\n")) ∨ (¬ 0 ≤ Txt.find x (Str.ofString "\n") ∧ e1 = x.length)) (h2 : (if 0 ≤ find4 x (Str.ofString ":") 0 e1 then find4 x (Str.ofString ":") 0 e1 else e1) = e2) (h3 : (if 0 ≤ rfind4 x (Str.ofString ".") 0 e2 then rfind4 x (Str.ofString ".") 0 e2 + 1 else 0) = i3) :
    stripS x = Txt.slice x (some i3) (some e2) := by
  have h1 : (if 0 ≤ Txt.find x (Str.ofString "\n") then Txt.find x (Str.ofString "\n") else x.length) = e1 := by
    rcases h8 with ⟨h, e⟩ | ⟨h, e⟩
    · rw [if_pos h]; exact e.symm
    · rw [if_neg h]; exact e.symm
  subst h1; subst h2; subst h3; rfl
theorem strip_all {w : World} (x : Str) (tx : Tok) (hx : x.length ≤ sizeLine) : StripTel w x tx (stripS x) := by
  unfold StripTel Tel
  k_fill
  w_top off
  intro mean mg mb dp un gd cn cs a ccd cl outer A₀ base h₀ L m news s Q E B F X N T hk hd hu hg hp hret
  refine wpAny_call ?_
  k_dflt ktr_enter
  try (refine fold_ctx ?_; intro M9 A9 e9)
  repeat' (first
    | (k_unfold; (try dsimp only))
    | ((with_reducible show wpAny _ _ (execs (_ :: _) _) _ _ _); (with_reducible refine wpAny_execs_cons ?_); (try dsimp only); (refine fold_s ?_; intro g9 d9 k9 o9))
    | ((with_reducible show wpAny _ _ (call (Value.builtin "str.rfind") _) _ _ _); (k_here; (with_reducible show wpAny _ _ (call (Value.builtin "str.rfind") [Value.str _ _, Value.str _ _, Value.int _ _, Value.int _ _]) _ _ _); k_dflt (refine' call_rfind4 ?_); intro t9 k9))
    | ((with_reducible show wpAny _ _ (call (Value.builtin "str.find") _) _ _ _); (k_here; (with_reducible show wpAny _ _ (call (Value.builtin "str.find") [Value.str _ _, Value.str _ _, Value.int _ _, Value.int _ _]) _ _ _); k_dflt (refine' call_find4 ?_); intro t9 k9))
    | ((with_reducible show wpAny _ _ (call (Value.builtin "len") _) _ _ _); (k_here; (with_reducible show wpAny _ _ (call (Value.builtin "len") [Value.str _ _]) _ _ _); k_dflt (refine' len_s ?k1 ?_; (case k1 => assumption); k_whole); intro t9 k9))
    | (walk1) | (dsimp only; walk1) | (leave1; (try dsimp only)) | fail "no step")
  all_goals (rename (_ ∧ _ ∨ _ ∧ _) => h8)
  all_goals (refine hret _ _ _ _ _ (by assumption) (by assumption) hg ?_)
  all_goals (refine ⟨⟨[_], rfl⟩, _, congrArg (fun y => Value.str y _) (Eq.symm (strip_of h8 ?_ ?_))⟩)
  all_goals first | (refine (if_pos ?_); assumption) | (refine (if_neg ?_); assumption)
end
section
open PySem PySem.W PyProof.Rows
open PySem.Calls PySem.Spec
open PySem.Builtin PySem.Builtin.Str PySem.StrLaws
set_option maxRecDepth 100000
set_option maxHeartbeats 4000000
def S (l : List Nat) : Str := ⟨l.toArray⟩
theorem S_len (l : List Nat) : (S l).length = l.length := by show l.toArray.size = _; simp
theorem S_cps (l : List Nat) : (S l).cps.toList = l := by simp [S]
theorem S_app (a b : List Nat) : S a ++ S b = S (a ++ b) := by
  apply Str.ext'
  rw [Str.cps_append]
  simp [S]
theorem S_inj {a b : List Nat} (h : S a = S b) : a = b := by
  have := congrArg (fun x : Str => x.cps.toList) h
  simpa [S_cps] using this
theorem S_beq (a b : List Nat) : (S a == S b) = decide (a = b) := by
  by_cases h : a = b
  · subst h; simp
  · rw [decide_eq_false h]
    exact beq_eq_false_iff_ne.mpr fun e => h (S_inj e)
theorem S_txt (t : Tm) : txt t = S (enc t) := rfl
/-! the first of a sign ahead of hi -/
theorem occ_hi (x y : Str) (hi limit : Nat) (hl : 1 ≤ limit) :
    (occurrences x y 0 hi limit = [] ∧ ∀ i, ¬ At x y hi i) ∨ ∃ i r, occurrences x y 0 hi limit = i :: r ∧ At x y hi i ∧ ∀ k, k < i → ¬ At x y hi k := by
  rw [occ_eq]
  rcases occ_first x y hi limit hl (List.range' 0 (hi + 1 - 0)) 0 (fun _ _ => Nat.zero_le _) with ⟨h0, hn⟩ | ⟨pre, a, post, e, h0, ha, hn⟩
  · refine .inl ⟨by rw [h0], fun i hi2 => ?_⟩
    exact hn i (by have := hi2.1; rw [List.mem_range'_1]; omega) hi2
  · refine .inr ⟨a, ((forIn (List.range' 0 (hi + 1 - 0)) ((#[] : Array Nat), 0) (occBody x y hi limit)).run.fst.toList).tail, ?_, ha, fun k hk => hn k (range'_split e k hk)⟩
    generalize (forIn (List.range' 0 (hi + 1 - 0)) ((#[] : Array Nat), 0) (occBody x y hi limit)).run.fst = arr at h0
    have h1 : arr.toList[0]? = some a := by simpa using h0
    cases hL : arr.toList with
    | nil => rw [hL] at h1; cases h1
    | cons b t => rw [hL] at h1; simp at h1; rw [h1]; rfl
theorem last_hi (x y : Str) (hi : Nat) : (lastOccurrence x y 0 hi = none ∧ ∀ i, ¬ At x y hi i) ∨ ∃ i, lastOccurrence x y 0 hi = some i ∧ At x y hi i ∧ ∀ k, i < k → ¬ At x y hi k := by
  rw [last_eq]
  have key := last_run x y hi (List.range' 0 (hi + 1 - 0)) [] none (fun _ h => nomatch h) (fun _ h => nomatch h) (by simpa using List.pairwise_lt_range' (s := 0) (n := hi + 1 - 0))
  have mem : ∀ i, At x y hi i → i ∈ [] ++ List.range' 0 (hi + 1 - 0) := fun i hi2 => by have := hi2.1; rw [List.nil_append, List.mem_range'_1]; omega
  cases hr : (forIn (List.range' 0 (hi + 1 - 0)) none (lastBody x y hi)).run with
  | none => rw [hr] at key; exact .inl ⟨rfl, fun i hi2 => key i (mem i hi2) hi2⟩
  | some a => rw [hr] at key; exact .inr ⟨a, rfl, key.1, fun k hk hA => key.2 k (mem k hA) hk hA⟩
theorem at_S {l : List Nat} {c hi i : Nat} (h : hi ≤ l.length) : At (S l) (S [c]) hi i ↔ i < hi ∧ l[i]? = some c := by
  have e := subAt_one (S l) c i
  rw [S_cps] at e
  constructor
  · intro a
    have h1 : i + 1 ≤ hi := a.1
    exact ⟨h1, e.mp ⟨by rw [S_len]; exact Nat.le_trans h1 h, a.2⟩⟩
  · rintro ⟨h1, h2⟩
    exact ⟨h1, (e.mpr h2).2⟩
theorem from0 (n : Nat) : fromIndex n 0 = 0 := by unfold fromIndex; simp
theorem fromN (n k : Nat) : fromIndex n (k : Int) = k := by
  unfold fromIndex
  have : ¬ (k : Int) < 0 := by omega
  rw [if_neg this]; omega
theorem nget {a b : List Nat} {c : Nat} : (a ++ c :: b)[a.length]? = some c := by simp
theorem ngetl {a b : List Nat} {k : Nat} (h : k < a.length) : (a ++ b)[k]? = some a[k] := by rw [List.getElem?_append_left h]; exact List.getElem?_eq_getElem h
theorem find4_hit {a b : List Nat} {c hi : Nat} (h : c ∉ a) (h1 : a.length < hi) (h2 : hi ≤ (a ++ c :: b).length) : find4 (S (a ++ c :: b)) (S [c]) 0 hi = a.length := by
  unfold find4
  rw [from0, fromN, S_len, Nat.min_eq_left h2]
  rcases occ_hi (S (a ++ c :: b)) (S [c]) hi 1 (Nat.le_refl 1) with ⟨_, hn⟩ | ⟨i, r, e, ha, hn⟩
  · exact absurd ((at_S h2).mpr ⟨h1, nget⟩) (hn a.length)
  · rw [e]
    show (i : Int) = a.length
    obtain ⟨h3, h4⟩ := (at_S h2).mp ha
    have h5 : ¬ a.length < i := fun q => hn _ q ((at_S h2).mpr ⟨h1, nget⟩)
    have h6 : ¬ i < a.length := fun q => by
      rw [ngetl q] at h4
      injection h4 with h4
      exact h (h4 ▸ List.getElem_mem q)
    omega
theorem find4_miss {l : List Nat} {c hi : Nat} (h : c ∉ l.take hi) (h2 : hi ≤ l.length) : find4 (S l) (S [c]) 0 hi = -1 := by
  unfold find4
  rw [from0, fromN, S_len, Nat.min_eq_left h2]
  rcases occ_hi (S l) (S [c]) hi 1 (Nat.le_refl 1) with ⟨e, _⟩ | ⟨i, r, e, ha, _⟩
  · rw [e]
  · exfalso
    obtain ⟨h3, h4⟩ := (at_S h2).mp ha
    have : (l.take hi)[i]? = some c := by rw [List.getElem?_take, if_pos h3]; exact h4
    exact h (List.mem_of_getElem? this)
theorem rfind4_hit {a b r : List Nat} {c : Nat} (h : c ∉ b) : rfind4 (S (a ++ c :: b ++ r)) (S [c]) 0 (a ++ c :: b).length = a.length := by
  have h2 : (a ++ c :: b).length ≤ (a ++ c :: b ++ r).length := by simp only [List.length_append]; omega
  have e0 : (a ++ c :: b ++ r)[a.length]? = some c := by rw [List.append_assoc]; exact nget
  unfold rfind4
  rw [from0, fromN, S_len, Nat.min_eq_left h2]
  have h1 : a.length < (a ++ c :: b).length := by simp
  rcases last_hi (S (a ++ c :: b ++ r)) (S [c]) (a ++ c :: b).length with ⟨_, hn⟩ | ⟨i, e, ha, hn⟩
  · exact absurd ((at_S h2).mpr ⟨h1, e0⟩) (hn a.length)
  · rw [e]
    show (i : Int) = a.length
    obtain ⟨h3, h4⟩ := (at_S h2).mp ha
    have h5 : ¬ i < a.length := fun q => hn _ q ((at_S h2).mpr ⟨h1, e0⟩)
    have h6 : ¬ a.length < i := fun q => by
      have e1 : (a ++ c :: b ++ r) = (a ++ [c]) ++ (b ++ r) := by simp
      rw [e1, List.getElem?_append_right (by simp; omega)] at h4
      have h7 : i - (a ++ [c]).length < b.length := by simp at h3 ⊢; omega
      rw [ngetl h7] at h4
      injection h4 with h4
      exact h (h4 ▸ List.getElem_mem h7)
    omega
theorem rfind4_miss {l : List Nat} {c hi : Nat} (h : c ∉ l.take hi) (h2 : hi ≤ l.length) : rfind4 (S l) (S [c]) 0 hi = -1 := by
  unfold rfind4
  rw [from0, fromN, S_len, Nat.min_eq_left h2]
  rcases last_hi (S l) (S [c]) hi with ⟨e, _⟩ | ⟨i, e, ha, _⟩
  · rw [e]
  · exfalso
    obtain ⟨h3, h4⟩ := (at_S h2).mp ha
    have : (l.take hi)[i]? = some c := by rw [List.getElem?_take, if_pos h3]; exact h4
    exact h (List.mem_of_getElem? this)
theorem find_4 (l : List Nat) (c : Nat) : Txt.find (S l) (S [c]) = find4 (S l) (S [c]) 0 l.length := by
  unfold Txt.find find4
  rw [from0, fromN, S_len, Nat.min_self]
  rfl
theorem find_hit {a b : List Nat} {c : Nat} (h : c ∉ a) : Txt.find (S (a ++ c :: b)) (S [c]) = a.length := by
  rw [find_4]; exact find4_hit h (by simp) (Nat.le_refl _)
theorem find_miss {l : List Nat} {c : Nat} (h : c ∉ l) : Txt.find (S l) (S [c]) = -1 := by
  rw [find_4]; exact find4_miss (by rw [List.take_length]; exact h) (Nat.le_refl _)
theorem slice_rng {l : List Nat} {i j : Nat} (h : i ≤ j) (h2 : j ≤ l.length) : Txt.slice (S l) (some (i : Int)) (some (j : Int)) = S ((l.drop i).take (j - i)) := by
  have := sliceText_nat (S l) h (by rw [S_len]; exact h2)
  rw [S_cps] at this
  exact this
theorem slice_from {l : List Nat} {i : Nat} (h : i ≤ l.length) : Txt.slice (S l) (some (i : Int)) none = S (l.drop i) := by
  have := sliceText_from (x := S l) (i := (i : Int)) ⟨by omega, by rw [S_cps]; omega⟩
  rw [S_cps] at this
  refine Eq.trans this ?_
  show S _ = S _
  congr 1
  rw [Int.toNat_natCast, show ((l.length : Int) - (i : Int)).toNat = l.length - i by omega, ← List.length_drop, List.take_length]
theorem slice_to {l : List Nat} {j : Nat} (h : j ≤ l.length) : Txt.slice (S l) none (some (j : Int)) = S (l.take j) := by
  have := sliceText_to (x := S l) (j := (j : Int)) ⟨by omega, by rw [S_cps]; omega⟩
  rw [S_cps] at this
  refine Eq.trans this ?_
  show S _ = S _
  congr 1
theorem item0 {c : Nat} {l : List Nat} : Txt.item (S (c :: l)) 0 = S [c] := by
  unfold Txt.item Txt.charAt
  rw [at_nonneg (n := c) (Int.le_refl 0) (by simp [S])]
  rfl
theorem itemL {c : Nat} {l : List Nat} : Txt.item (S (l ++ [c])) (-1) = S [c] := by
  unfold Txt.item Txt.charAt
  rw [S_len, PySem.StrLaws.seqIndex_neg (by omega) (by simp; omega)]
  have : (-1 + ((l ++ [c]).length : Int)).toNat = l.length := by simp; omega
  rw [this]
  simp [S]
end
section
open PySem PySem.W PyProof.Rows
open PySem.Calls PySem.Spec
set_option maxRecDepth 100000
set_option maxHeartbeats 4000000
abbrev loc : List Nat := [108, 111, 99, 97, 108]
theorem o_dot : Str.ofString "." = S [46] := by decide +kernel
theorem o_col : Str.ofString ":" = S [58] := by decide +kernel
theorem o_nl : Str.ofString "\n" = S [10] := by decide +kernel
theorem o_nil : Str.ofString "" = S [] := by decide +kernel
theorem o_loc : Str.ofString "local" = S loc := by decide +kernel
abbrev Plain (l : List Nat) : Prop := ∀ c ∈ l, Sre.isDigit c = false
theorem S_getD (l : List Nat) (i : Nat) : (S l).cps.getD i 0 = l[i]?.getD 0 := by simp [S, Array.getD_eq_getD_getElem?]
theorem S_size (l : List Nat) : (S l).cps.size = l.length := by simp [S]
theorem nodot_plain {l : List Nat} (h : Plain l) : NoDot (S l) := by
  intro i _ _ h2
  rw [S_size] at h2
  rw [S_getD, List.getElem?_eq_getElem h2]
  exact h _ (List.getElem_mem h2)
theorem beq_ne {a b : List Nat} (h : a ≠ b) : (S a == S b) = false := by rw [S_beq, decide_eq_false h]
theorem hdnL_yes {w : World} {c d : Nat} {m : List Nat} (hc : c ≠ 46) (hd : d ≠ 46) (hp : Plain (c :: (m ++ [d]))) (hz : (c :: (m ++ [d])).length ≤ sizeLine) (tk : Tok) : HdnTel w (S (c :: (m ++ [d]))) tk true :=
  hdn_yes _ tk (by rw [S_len]; exact hz) (by rw [S_len]; simp) (nodot_plain hp) (by rw [o_nil]; exact beq_ne (by simp)) (by rw [item0, o_dot]; exact beq_ne (by simpa using hc))
    (by rw [show c :: (m ++ [d]) = (c :: m) ++ [d] from rfl, itemL, o_dot]; exact beq_ne (by simpa using hd))
theorem hdnL_last {w : World} {c : Nat} {m : List Nat} (hc : c ≠ 46) (hp : Plain (c :: (m ++ [46]))) (hz : (c :: (m ++ [46])).length ≤ sizeLine) (tk : Tok) : HdnTel w (S (c :: (m ++ [46]))) tk false :=
  hdn_last _ tk (by rw [S_len]; exact hz) (by rw [S_len]; simp) (nodot_plain hp) (by rw [o_nil]; exact beq_ne (by simp)) (by rw [item0, o_dot]; exact beq_ne (by simpa using hc))
    (by rw [show c :: (m ++ [46]) = (c :: m) ++ [46] from rfl, itemL, o_dot]; simp)
theorem end_dot {p ds : List Nat} {d : Nat} (hp : Plain p) (hd : ∀ c ∈ d :: ds, Sre.isDigit c = true) (hk : ds.length < 1000) : EndDot (S (p ++ 46 :: d :: ds)) := by
  refine ⟨p.length, ds.length, by rw [S_size]; simp; omega, hk, by rw [S_getD, nget]; rfl, fun i hi => ?_, fun i hi _ h2 => ?_⟩
  · have e : (p ++ 46 :: d :: ds)[p.length + 1 + i]? = some ((d :: ds)[i]'(by simpa using hi)) := by
      rw [List.getElem?_append_right (by omega), show p.length + 1 + i - p.length = i + 1 by omega, List.getElem?_cons_succ]
      exact List.getElem?_eq_getElem (by simpa using hi)
    rw [S_getD, e]
    exact hd _ (List.getElem_mem _)
  · rw [S_getD]
    by_cases h3 : i + 1 < p.length
    · rw [ngetl h3]; exact hp _ (List.getElem_mem h3)
    · rw [show i + 1 = p.length by omega, nget]; rfl
theorem hdnL_hit {w : World} {p ds : List Nat} {d : Nat} (hp : Plain p) (hd : ∀ c ∈ d :: ds, Sre.isDigit c = true) (hk : ds.length < 1000) (hz : (p ++ 46 :: d :: ds).length ≤ sizeLine) (tk : Tok) : HdnTel w (S (p ++ 46 :: d :: ds)) tk false :=
  hdn_hit _ tk (by rw [S_len]; exact hz) (end_dot hp hd hk)
theorem neg1 : ¬ (0 : Int) ≤ -1 := by decide
theorem pos0 (n : Nat) : (0 : Int) ≤ (n : Int) := Int.natCast_nonneg n
/-- reach, on lists of signs -/
theorem reachL_no {w : World} {l : List Nat} (h : 46 ∉ l) (hz : l.length ≤ sizeLine) (tk : Tok) : ReachTel w (S l) tk (S l) :=
  reach_no _ tk (by rw [S_len]; exact hz) (by rw [o_dot, find_miss h]; exact neg1)
theorem reachL_bad {w : World} {a b : List Nat} (h : 46 ∉ a) (hz : (a ++ 46 :: b).length ≤ sizeLine) (H : ∀ tk, HdnTel w (S (a ++ 46 :: b)) tk false) (tk : Tok) : ReachTel w (S (a ++ 46 :: b)) tk (S (a ++ 46 :: b)) :=
  reach_bad _ tk (by rw [S_len]; exact hz) (by rw [o_dot, find_hit h]; exact pos0 _) H
theorem slice_dot {a b : List Nat} (h : 46 ∉ a) : Txt.slice (S (a ++ 46 :: b)) (some (Txt.find (S (a ++ 46 :: b)) (Str.ofString ".") + 1)) none = S b := by
  rw [o_dot, find_hit h, show ((a.length : Int) + 1) = ((a.length + 1 : Nat) : Int) by omega, slice_from (by simp)]
  congr 1
  rw [show a ++ 46 :: b = (a ++ [46]) ++ b by simp, show a.length + 1 = (a ++ [46]).length by simp, List.drop_left]
theorem reachL_dot {w : World} {a b : List Nat} (h : 46 ∉ a) (hz : (a ++ 46 :: b).length ≤ sizeLine) (hb : 46 ∈ b ∨ b = loc) (H : ∀ tk, HdnTel w (S (a ++ 46 :: b)) tk true) (tk : Tok) : ReachTel w (S (a ++ 46 :: b)) tk (S (46 :: b)) := by
  have hz1 : b.length + 1 ≤ sizeLine := by simp only [List.length_append, List.length_cons] at hz; omega
  have e : Str.ofString "." ++ S b = S (46 :: b) := by rw [o_dot, S_app]; rfl
  rw [← e]
  by_cases h46 : 46 ∈ b
  · obtain ⟨c, d, e1, e2⟩ := List.eq_append_cons_of_mem h46
    exact reach_dot1 _ (S b) tk (by rw [S_len]; exact hz) (by rw [o_dot, find_hit h]; exact pos0 _) (slice_dot h) (by rw [S_len]; exact hz1) (by rw [o_dot, e1, find_hit e2]; exact pos0 _) H
  · have hb : b = loc := hb.resolve_left h46
    exact reach_dot2 _ (S b) tk (by rw [S_len]; exact hz) (by rw [o_dot, find_hit h]; exact pos0 _) (slice_dot h) (by rw [S_len]; exact hz1) (by rw [o_dot, find_miss h46]; exact neg1) (by rw [o_loc, S_beq, hb]; rfl) H
theorem reachL_same {w : World} {a b : List Nat} (h : 46 ∉ a) (hz : (a ++ 46 :: b).length ≤ sizeLine) (hb : 46 ∉ b) (hl : b ≠ loc) (H : ∀ tk, HdnTel w (S (a ++ 46 :: b)) tk true) (tk : Tok) : ReachTel w (S (a ++ 46 :: b)) tk (S (a ++ 46 :: b)) := by
  have hz1 : b.length + 1 ≤ sizeLine := by simp only [List.length_append, List.length_cons] at hz; omega
  exact reach_same _ (S b) tk (by rw [S_len]; exact hz) (by rw [o_dot, find_hit h]; exact pos0 _) (slice_dot h) (by rw [S_len]; exact hz1) (by rw [o_dot, find_miss hb]; exact neg1) (by rw [o_loc]; exact beq_ne hl) H
/-- the tails -/
inductive Tail : List Nat → Prop where
  | t0 : Tail [58, 58]
  | t1 : Tail [58, 10]
  | t2 : Tail [10, 10, 58]
theorem strip_at {l p B r : List Nat} {e1 : Int} (hl : l = p ++ B ++ r) (h46 : 46 ∉ B) (hp : p = [] ∨ ∃ q, p = q ++ [46]) (h8 : (0 ≤ Txt.find (S l) (Str.ofString "\n") ∧ e1 = Txt.find (S l) (Str.ofString "\n")) ∨ (¬ 0 ≤ Txt.find (S l) (Str.ofString "\n") ∧ e1 = (S l).length))
    (h2 : (if 0 ≤ find4 (S l) (Str.ofString ":") 0 e1 then find4 (S l) (Str.ofString ":") 0 e1 else e1) = ((p ++ B).length : Nat)) : stripS (S l) = S B := by
  subst hl
  have hle : (p ++ B).length ≤ (p ++ B ++ r).length := by simp only [List.length_append]; omega
  rcases hp with rfl | ⟨q, rfl⟩
  · rw [strip_of (i3 := ((0 : Nat) : Int)) h8 h2 ?_]
    · rw [slice_rng (Nat.zero_le _) hle]
      simp
    · rw [o_dot, rfind4_miss (by rw [List.take_left]; exact h46) hle]; rfl
  · have e : q ++ [46] ++ B = q ++ 46 :: B := by simp
    rw [strip_of (i3 := ((q.length + 1 : Nat) : Int)) h8 h2 ?_]
    · rw [slice_rng (by simp) hle]
      congr 1
      rw [show q.length + 1 = (q ++ [46]).length by simp, List.append_assoc (q ++ [46]) B r, List.drop_left, List.length_append (bs := B), Nat.add_sub_cancel_left, List.take_left]
    · rw [o_dot, e, rfind4_hit h46, if_pos (pos0 _)]; rfl
theorem stripL {p B T : List Nat} (hT : Tail T) (h46 : 46 ∉ B) (hp : p = [] ∨ ∃ q, p = q ++ [46]) (h58 : 58 ∉ p ++ B) (h10 : 10 ∉ p ++ B) (r : List Nat) (hr : 10 ∉ r) : stripS (S (p ++ B ++ (T ++ 46 :: r))) = S B := by
  cases hT with
  | t0 =>
    have n1 : 10 ∉ p ++ B ++ ([58, 58] ++ 46 :: r) := by simp at h10 ⊢; exact ⟨h10.1, h10.2, hr⟩
    refine strip_at rfl h46 hp (.inr ⟨by rw [o_nl, find_miss n1]; exact neg1, rfl⟩) ?_
    rw [o_col, S_len]
    rw [show p ++ B ++ ([58, 58] ++ 46 :: r) = (p ++ B) ++ 58 :: (58 :: 46 :: r) by simp, find4_hit h58 (by simp) (Nat.le_refl _), if_pos (pos0 _)]
  | t1 =>
    have e : p ++ B ++ ([58, 10] ++ 46 :: r) = (p ++ B ++ [58]) ++ 10 :: 46 :: r := by simp
    have f := find_hit (a := p ++ B ++ [58]) (b := 46 :: r) (c := 10) (by simp at h10 ⊢; exact h10)
    refine strip_at (e1 := ((p ++ B ++ [58]).length : Nat)) rfl h46 hp (.inl ⟨by rw [o_nl, e, f]; exact pos0 _, by rw [o_nl, e, f]⟩) ?_
    rw [o_col]
    rw [show p ++ B ++ ([58, 10] ++ 46 :: r) = (p ++ B) ++ 58 :: (10 :: 46 :: r) by simp, find4_hit h58 (by simp) (by simp), if_pos (pos0 _)]
  | t2 =>
    have e : p ++ B ++ ([10, 10, 58] ++ 46 :: r) = (p ++ B) ++ 10 :: (10 :: 58 :: 46 :: r) := by simp
    have f := find_hit (a := p ++ B) (b := 10 :: 58 :: 46 :: r) (c := 10) h10
    refine strip_at (e1 := ((p ++ B).length : Nat)) rfl h46 hp (.inl ⟨by rw [o_nl, e, f]; exact pos0 _, by rw [o_nl, e, f]⟩) ?_
    rw [o_col, find4_miss (by rw [List.take_left]; exact h58) (by simp), if_neg neg1]
end
section
open PySem PySem.W PyProof.Rows
open PySem.Calls PySem.Spec
open PyProof.Rows.LCg PyProof.Rows.LCt
set_option maxRecDepth 100000
set_option maxHeartbeats 8000000
section
variable {prog : Program} {w : World} {A : Around} {E : Value → Shared → Prop} {s : Shared} {h₀ : Heap} {L : Addr} {m : Str → Option Value} {env : Env} {elt : PySem.Expr} {x : Str} {scope : Scope} {cl : List (Str × Addr)}
def SrcS (prog : Program) (w : World) (A : Around) (h₀ : Heap) (L : Addr) (m : Str → Option Value) (env : Env) (elt : PySem.Expr) (x : Str) (scope : Scope) (cl : List (Str × Addr)) (Q : Value → Shared → Prop) (xv : Value) (s₁ : Shared) : Prop :=
  ∃ y t news, xv = .str y t ∧ A.handled = none ∧ Fr h₀ L s₁.heap m ∧ News h₀ L s₁.heap news ∧ y.cps.all (· < 128) = true ∧ y.cps.size ≤ sizeLine ∧
    ∀ s₂ : Shared, (∃ h, s₂ = { s₁ with heap := h }) → CompRest prog w A h₀ L m env elt x scope cl s₂ (fun _ => True) (SignAt y) (FinE h₀ L m s₂ Q) y.cps.size 0 [] news
def SrcST (prog : Program) (w : World) (A : Around) (h₀ : Heap) (L : Addr) (m : Str → Option Value) (env : Env) (ct elt : PySem.Expr) (x : Str) (scope : Scope) (cl : List (Str × Addr)) (Q : Value → Shared → Prop) (xv : Value) (s₁ : Shared) : Prop :=
  ∃ y t news, xv = .str y t ∧ A.handled = none ∧ Fr h₀ L s₁.heap m ∧ News h₀ L s₁.heap news ∧ y.cps.all (· < 128) = true ∧ y.cps.size ≤ sizeLine ∧
    ∀ s₂ : Shared, (∃ h, s₂ = { s₁ with heap := h }) → CompRestT prog w A h₀ L m env ct elt x scope cl s₂ (fun _ => True) (SignAt y) (FinE h₀ L m s₂ Q) y.cps.size 0 [] news
theorem str_st {I : Addr} {y : Str} {t : Tok} : ∀ i (h h' : Heap) (o : Obj) (nw : Led), h.IsStrIter I "str_ascii_iterator" y t i → h.get? I = some o → h'.get? I = some o → (∀ b o, h₀.get? b = some o → h'.get? b = some o) → News h₀ L h' nw → True → h'.IsStrIter I "str_ascii_iterator" y t i :=
  fun i h h' o nw st e e' _ _ _ => by obtain ⟨o', q, r⟩ := st; rw [e] at q; cases q; exact ⟨o, e', r⟩
theorem comp_s {iter : PySem.Expr} {px : Pos} {pos : Pos} {Q : Value → Shared → Prop} (_ : Fr h₀ L s.heap m)
    (hclos : closureFor scope env = pure cl) (hcell : ∀ y ∈ scope.names, y.2 ≠ .cell) (hkind : scope.kind = .function)
    (hnames : ∀ y ∈ scope.names, y.2 = .local → scope.names.lookup y.1 = some .local) (hx : scope.names.lookup x = some .local)
    (h : wpAny (model prog w) A (eval iter env) (SrcS prog w A h₀ L m env elt x scope cl Q) E s)
    (hs : ∀ x, foldedSetIterable iter env x = pure x := by intro _; rfl) :
    wpAny (model prog w) A (eval (.ListComp elt [⟨.Name x px, iter, [], 0⟩] scope pos) env) Q E s := by
  rw [eval_ListComp]
  refine wpAny_comprehension_free (use := none) rfl hs hclos hkind hnames (wpAny_mono h (fun xv s₁ h₁ => ?_) fun _ _ e => e)
  obtain ⟨y, t, news, rfl, hh, F, N, ha, hsz, R⟩ := h₁
  refine wpAny_pyIter_ascii ha ?_
  refine block_U (S := fun _ => True) (Walks.strAscii hh s₁.heap.objs.size y t) hsz (fun i h st => by obtain ⟨o, e, _⟩ := st; exact ⟨o, e⟩) str_st hcell hkind hx ⟨_, Heap.get?_push_size _ rfl, rfl, rfl⟩ (fun b hb => ?_)
    (F.keeps fun _ _ e => Heap.get?_push_of_some _ e) (N.grown fun _ _ e => Heap.get?_push_of_some _ e) (Nat.ne_of_lt F.ns.lt) (next_is_new F) (fun p hp => Nat.ne_of_lt (Heap.lt_size (N p hp).1)) trivial (R _ ⟨_, rfl⟩) ?_
  · rw [List.mem_singleton.mp hb]
    show s₁.heap.objs.size < (s₁.heap.push _).objs.size
    rw [Heap.size_push]; exact Nat.lt_succ_self _
  · intro D C h tk m' ys news' F' N' o1 hn hC₀ hD₀ hCL hDL hCD offC fin
    refine ⟨m', hn, fun h'' hs'' => fin D h'' tk (F'.change hs'' hCL hC₀) (fun p hp => ?_) o1⟩
    refine ⟨hs''.extBut _ _ ?_ (N' p hp).1, (N' p hp).2⟩
    rcases List.mem_cons.mp hp with rfl | hp
    · exact Ne.symm hCD
    · exact offC p hp
theorem comp_t {ct iter : PySem.Expr} {px : Pos} {pos : Pos} {Q : Value → Shared → Prop} (_ : Fr h₀ L s.heap m)
    (hclos : closureFor scope env = pure cl) (hcell : ∀ y ∈ scope.names, y.2 ≠ .cell) (hkind : scope.kind = .function)
    (hnames : ∀ y ∈ scope.names, y.2 = .local → scope.names.lookup y.1 = some .local) (hx : scope.names.lookup x = some .local)
    (h : wpAny (model prog w) A (eval iter env) (SrcST prog w A h₀ L m env ct elt x scope cl Q) E s)
    (hs : ∀ x, foldedSetIterable iter env x = pure x := by intro _; rfl) :
    wpAny (model prog w) A (eval (.ListComp elt [⟨.Name x px, iter, [ct], 0⟩] scope pos) env) Q E s := by
  rw [eval_ListComp]
  refine wpAny_comprehension_free (use := none) rfl hs hclos hkind hnames (wpAny_mono h (fun xv s₁ h₁ => ?_) fun _ _ e => e)
  obtain ⟨y, t, news, rfl, hh, F, N, ha, hsz, R⟩ := h₁
  refine wpAny_pyIter_ascii ha ?_
  refine block_T (S := fun _ => True) (Walks.strAscii hh s₁.heap.objs.size y t) hsz (fun i h st => by obtain ⟨o, e, _⟩ := st; exact ⟨o, e⟩) str_st hcell hkind hx ⟨_, Heap.get?_push_size _ rfl, rfl, rfl⟩ (fun b hb => ?_)
    (F.keeps fun _ _ e => Heap.get?_push_of_some _ e) (N.grown fun _ _ e => Heap.get?_push_of_some _ e) (Nat.ne_of_lt F.ns.lt) (next_is_new F) (fun p hp => Nat.ne_of_lt (Heap.lt_size (N p hp).1)) trivial (R _ ⟨_, rfl⟩) ?_
  · rw [List.mem_singleton.mp hb]
    show s₁.heap.objs.size < (s₁.heap.push _).objs.size
    rw [Heap.size_push]; exact Nat.lt_succ_self _
  · intro D C h tk m' ys news' F' N' o1 hn hC₀ hD₀ hCL hDL hCD offC fin
    refine ⟨m', hn, fun h'' hs'' => fin D h'' tk (F'.change hs'' hCL hC₀) (fun p hp => ?_) o1⟩
    refine ⟨hs''.extBut _ _ ?_ (N' p hp).1, (N' p hp).2⟩
    rcases List.mem_cons.mp hp with rfl | hp
    · exact Ne.symm hCD
    · exact offC p hp
/-- a sign's turn is over: a text comes, and nothing else has changed -/
def SgEnd (h₀ : Heap) (L : Addr) (m : Str → Option Value) (s : Shared) (led : Led) (y : Str) (v : Value) (s' : Shared) : Prop :=
  ∃ t h' tk', v = .str y t ∧ s' = { s with heap := h', toks := tk' } ∧ Fr h₀ L h' m ∧ News h₀ L h' led
def SgNo (h₀ : Heap) (L : Addr) (m : Str → Option Value) (s : Shared) (led : Led) (ok : Bool) (s' : Shared) : Prop :=
  ok = false ∧ ∃ h' tk', s' = { s with heap := h', toks := tk' } ∧ Fr h₀ L h' m ∧ News h₀ L h' led
theorem SgEnd.intro {led all : Led} {y : Str} {t : Tok} {h' : Heap} {tk' : Nat} (F : Fr h₀ L h' m) (N : News h₀ L h' all) (sub : ∀ p ∈ led, p ∈ all) : SgEnd h₀ L m s led y (.str y t) { s with heap := h', toks := tk' } :=
  ⟨t, h', tk', rfl, rfl, F, fun p hp => N p (sub p hp)⟩
theorem SgNo.intro {led all : Led} {h' : Heap} {tk' : Nat} (F : Fr h₀ L h' m) (N : News h₀ L h' all) (sub : ∀ p ∈ led, p ∈ all) : SgNo h₀ L m s led false { s with heap := h', toks := tk' } :=
  ⟨rfl, h', tk', rfl, F, fun p hp => N p (sub p hp)⟩
theorem strs_snoc {y : Str} {t : Tok} : ∀ {vs : List Value} {ys : List Str}, StrsAre vs ys → StrsAre (vs ++ [.str y t]) (ys ++ [y])
  | _, _, .nil => .cons y t .nil
  | _, _, .cons z u r => .cons z u (strs_snoc r)
theorem rest_each {l : List Nat} (f : Nat → List Nat) {Fin : List Value → Led → Prop} {news : Led}
    (turn : ∀ c t I oI C oC D m₂ ys h tk (E' : Value → Shared → Prop), c ∈ l → NsObj oC m₂ → m₂ x = some (.str (S [c]) t) → Fr h₀ L h m → News h₀ L h ((I, oI) :: (C, oC) :: (D, lst ys) :: news) → Off3 I C D news → ((@Ne Nat I C) ∧ (@Ne Nat I D) ∧ (@Ne Nat C D)) →
      wpAny (model prog w) A (eval elt (compEnvC scope cl C env)) (SgEnd h₀ L m s ((I, oI) :: (C, oC) :: (D, lst ys) :: news) (S (f c))) E' { s with heap := h, toks := tk })
    (fin : ∀ ys, StrsAre ys (l.map fun c => S (f c)) → Fin ys news) : CompRest prog w A h₀ L m env elt x scope cl s (fun _ => True) (SignAt (S l)) Fin (S l).cps.size 0 [] news := by
  have key : ∀ (j i : Nat) (ys : List Value), i + j = l.length → StrsAre ys ((l.take i).map fun c => S (f c)) → CompRest prog w A h₀ L m env elt x scope cl s (fun _ => True) (SignAt (S l)) Fin j i ys news := by
    intro j
    induction j with
    | zero =>
      intro i ys hi hy
      have e : i = l.length := by omega
      subst e
      rw [List.take_length] at hy
      exact CompRest.zero (fin ys hy)
    | succ j ih =>
      intro i ys hi hy
      refine CompRest.succ ?_
      intro v I oI C oC D m₂ h tk E' hv hC hx F N off ne
      obtain ⟨c, t, hk, rfl⟩ := hv
      have hk' : l[i]? = some c := by simpa [S] using hk
      refine wpAny_mono (turn c t I oI C oC D m₂ ys h tk E' (List.mem_of_getElem? hk') hC hx F N off ne) (fun y s₂ hq => ?_) fun _ _ e => e
      obtain ⟨t', h', tk', rfl, rfl, F', N'⟩ := hq
      refine ⟨h', tk', news, rfl, F', N', off, trivial, ?_⟩
      refine ih (i + 1) _ (by omega) ?_
      rw [List.take_add_one, hk']
      simpa using strs_snoc hy
  rw [S_size]
  exact key l.length 0 [] (by omega) (by simp only [List.take_zero, List.map_nil]; exact .nil)
theorem rest_none {l : List Nat} {ct : PySem.Expr} {Fin : List Value → Led → Prop} {news : Led}
    (turn : ∀ c t I oI C oC D m₂ h tk (E' : Value → Shared → Prop), c ∈ l → NsObj oC m₂ → m₂ x = some (.str (S [c]) t) → Fr h₀ L h m → News h₀ L h ((I, oI) :: (C, oC) :: (D, lst []) :: news) → Off3 I C D news → ((@Ne Nat I C) ∧ (@Ne Nat I D) ∧ (@Ne Nat C D)) →
      wpAny (model prog w) A (isTrue ct (compEnvC scope cl C env) (eval ct (compEnvC scope cl C env))) (SgNo h₀ L m s ((I, oI) :: (C, oC) :: (D, lst []) :: news)) E' { s with heap := h, toks := tk })
    (fin : Fin [] news) : CompRestT prog w A h₀ L m env ct elt x scope cl s (fun _ => True) (SignAt (S l)) Fin (S l).cps.size 0 [] news := by
  have key : ∀ (j i : Nat), i + j = l.length → CompRestT prog w A h₀ L m env ct elt x scope cl s (fun _ => True) (SignAt (S l)) Fin j i [] news := by
    intro j
    induction j with
    | zero =>
      intro i hi
      exact CompRestT.zero fin
    | succ j ih =>
      intro i hi
      refine CompRestT.succ ?_
      intro v I oI C oC D m₂ h tk E' hv hC hx F N off ne
      obtain ⟨c, t, hk, rfl⟩ := hv
      have hk' : l[i]? = some c := by simpa [S] using hk
      refine wpAny_mono (turn c t I oI C oC D m₂ h tk E' (List.mem_of_getElem? hk') hC hx F N off ne) (fun y s₂ hq => ?_) fun _ _ e => e
      obtain ⟨rfl, h', tk', rfl, F', N'⟩ := hq
      simp only [Bool.false_eq_true, if_false]
      exact ⟨h', tk', news, rfl, F', N', off, trivial, ih (i + 1) (by omega)⟩
  rw [S_size]
  exact key l.length 0 (by omega)
theorem SrcS.intro {l : List Nat} {t : Tok} (f : Nat → List Nat) {Q : Value → Shared → Prop} {news : Led} {s₁ : Shared}
    (hh : A.handled = none) (F : Fr h₀ L s₁.heap m) (N : News h₀ L s₁.heap news) (ha : ∀ c ∈ l, c < 128) (hz : l.length ≤ 1000)
    (turn : ∀ g c t I oI C oC D m₂ ys h tk (E' : Value → Shared → Prop), c ∈ l → NsObj oC m₂ → m₂ x = some (.str (S [c]) t) → Fr h₀ L h m → News h₀ L h ((I, oI) :: (C, oC) :: (D, lst ys) :: news) → Off3 I C D news → ((@Ne Nat I C) ∧ (@Ne Nat I D) ∧ (@Ne Nat C D)) →
      wpAny (model prog w) A (eval elt (compEnvC scope cl C env)) (SgEnd h₀ L m { s₁ with heap := g } ((I, oI) :: (C, oC) :: (D, lst ys) :: news) (S (f c))) E' { s₁ with heap := h, toks := tk })
    (fin : ∀ ys D h tk, StrsAre ys (l.map fun c => S (f c)) → Fr h₀ L h m → News h₀ L h ((D, lst ys) :: news) → Off1 D news → Q (.ref D) { s₁ with heap := h, toks := tk }) : SrcS prog w A h₀ L m env elt x scope cl Q (.str (S l) t) s₁ := by
  refine ⟨S l, t, news, rfl, hh, F, N, ?_, by rw [S_size, sizeLine_eq]; omega, ?_⟩
  · rw [Array.all_eq_true_iff_forall_mem]
    intro c hc
    exact decide_eq_true (ha c (by simpa [S] using hc))
  · rintro s₂ ⟨g, rfl⟩
    exact rest_each f (fun c t I oI C oC D m₂ ys h tk E' => turn g c t I oI C oC D m₂ ys h tk E') fun ys hy D h tk F' N' o => fin ys D h tk hy F' N' o
theorem SrcST.intro {l : List Nat} {ct : PySem.Expr} {t : Tok} {Q : Value → Shared → Prop} {news : Led} {s₁ : Shared}
    (hh : A.handled = none) (F : Fr h₀ L s₁.heap m) (N : News h₀ L s₁.heap news) (ha : ∀ c ∈ l, c < 128) (hz : l.length ≤ 1000)
    (turn : ∀ g c t I oI C oC D m₂ h tk (E' : Value → Shared → Prop), c ∈ l → NsObj oC m₂ → m₂ x = some (.str (S [c]) t) → Fr h₀ L h m → News h₀ L h ((I, oI) :: (C, oC) :: (D, lst []) :: news) → Off3 I C D news → ((@Ne Nat I C) ∧ (@Ne Nat I D) ∧ (@Ne Nat C D)) →
      wpAny (model prog w) A (isTrue ct (compEnvC scope cl C env) (eval ct (compEnvC scope cl C env))) (SgNo h₀ L m { s₁ with heap := g } ((I, oI) :: (C, oC) :: (D, lst []) :: news)) E' { s₁ with heap := h, toks := tk })
    (fin : ∀ D h tk, Fr h₀ L h m → News h₀ L h ((D, lst []) :: news) → Off1 D news → Q (.ref D) { s₁ with heap := h, toks := tk }) : SrcST prog w A h₀ L m env ct elt x scope cl Q (.str (S l) t) s₁ := by
  refine ⟨S l, t, news, rfl, hh, F, N, ?_, by rw [S_size, sizeLine_eq]; omega, ?_⟩
  · rw [Array.all_eq_true_iff_forall_mem]
    intro c hc
    exact decide_eq_true (ha c (by simpa [S] using hc))
  · rintro s₂ ⟨g, rfl⟩
    exact rest_none (fun c t I oI C oC D m₂ h tk E' => turn g c t I oI C oC D m₂ h tk E') fun D h tk F' N' o => fin D h tk F' N' o
end
end
section
set_option maxRecDepth 100000
/-! renaming -/
structure Ren (σ : Nat → Nat) : Prop where
  i : ∀ c, Nat.beq (σ c) 73 = Nat.beq c 73
  k : ∀ c, Nat.beq (σ c) 75 = Nat.beq c 75
  s : ∀ c, Nat.beq (σ c) 83 = Nat.beq c 83
  b : ∀ c, Nat.beq (σ c) 66 = Nat.beq c 66
  c : ∀ c, Nat.beq (σ c) 67 = Nat.beq c 67
theorem Ren.fix {σ : Nat → Nat} {p : Nat} (h : ∀ c, Nat.beq (σ c) p = Nat.beq c p) : σ p = p := Nat.eq_of_beq_eq_true ((h p).trans (Nat.beq_refl p))
theorem size_subst {σ : Nat → Nat} : ∀ t, (subst σ t).size = t.size
  | .leaf _ => rfl
  | .app f a => by
    show Nat.succ (Nat.add (subst σ f).size (subst σ a).size) = Nat.succ (Nat.add f.size a.size)
    rw [size_subst f, size_subst a]
theorem unwind_subst {σ : Nat → Nat} : ∀ (t : Tm) (st : List Tm), unwind (subst σ t) (st.map (subst σ)) = (σ (unwind t st).1, (unwind t st).2.map (subst σ))
  | .leaf _, _ => rfl
  | .app f a, st => unwind_subst f (a :: st)
theorem onOk_subst {σ : Nat → Nat} (g x : Tm) : onOk (subst σ g) (subst σ x) = onOk g x := by
  unfold onOk
  rw [size_subst, size_subst]
theorem room_subst {σ : Nat → Nat} (t : Tm) (st : List Tm) : room (subst σ t) (st.map (subst σ)) = room t st := by
  unfold room
  rw [size_subst, List.length_map]
theorem goes_subst {σ : Nat → Nat} (h : Ren σ) (c : Nat) (st : List Tm) : goes (σ c) (st.map (subst σ)) = goes c st := by
  unfold goes
  rw [h.i]
  cases e : Nat.beq c 73
  · rcases st with _ | ⟨f, _ | ⟨g, _ | ⟨x, st⟩⟩⟩
    · rfl
    · rfl
    · simp only [List.map_cons, List.map_nil, h.k]
    · simp only [List.map_cons, h.k, h.s, h.b, h.c]
  · rcases st with _ | ⟨f, st⟩ <;> rfl
def sub3 (σ : Nat → Nat) (x : Tm × List Tm × Nat) : Tm × List Tm × Nat := (subst σ x.1, x.2.1.map (subst σ), x.2.2)
theorem step_subst {σ : Nat → Nat} (h : Ren σ) (c : Nat) (st : List Tm) : step (σ c) (st.map (subst σ)) = (step c st).map (sub3 σ) := by
  unfold step
  rw [h.i]
  cases e : Nat.beq c 73
  · rcases st with _ | ⟨f, _ | ⟨g, st⟩⟩
    · rfl
    · rfl
    · simp only [List.map_cons, h.k]
      cases Nat.beq c 75
      · rcases st with _ | ⟨x, st⟩
        · rfl
        · simp only [List.map_cons, h.s, h.b, h.c, onOk_subst]
          cases Nat.beq c 83
          · cases Nat.beq c 66
            · cases Nat.beq c 67 <;> rfl
            · cases onOk g x <;> rfl
          · cases onOk g x <;> rfl
      · rfl
  · rcases st with _ | ⟨f, st⟩ <;> rfl
def sub2 (σ : Nat → Nat) (x : Nat × List Tm × Nat) : Nat × List Tm × Nat := (σ x.1, x.2.1.map (subst σ), x.2.2)
theorem run_subst {σ : Nat → Nat} (h : Ren σ) : ∀ (n : Nat) (t : Tm) (st : List Tm) (k : Nat), run n (subst σ t) (st.map (subst σ)) k = (run n t st k).map (sub2 σ)
  | 0, _, _, _ => rfl
  | n + 1, t, st, k => by
    unfold run
    rw [room_subst]
    cases room t st
    · rfl
    · simp only [unwind_subst, step_subst h, goes_subst h]
      generalize unwind t st = u
      obtain ⟨c, st'⟩ := u
      cases e : step c st' with
      | none =>
        simp only [e, Option.map_none]
        cases goes c st' <;> rfl
      | some x =>
        obtain ⟨t2, st2, j⟩ := x
        simp only [e, Option.map_some, sub3]
        exact run_subst h n t2 st2 _
theorem few_map {σ : Nat → Nat} : ∀ st, few (st.map (subst σ)) = few st
  | [] => rfl
  | [_] => rfl
  | [_, _] => rfl
  | [_, _, _] => rfl
  | _ :: _ :: _ :: _ :: _ => rfl
def sub1 (σ : Nat → Nat) (x : Tm × Nat) : Tm × Nat := (subst σ x.1, x.2)
theorem normArgs_subst {σ : Nat → Nat} {g : Tm → Option (Tm × Nat)} (hg : ∀ t, g (subst σ t) = (g t).map (sub1 σ)) : ∀ (as : List Tm) (t : Tm) (k : Nat), normArgs g (as.map (subst σ)) (subst σ t) k = (normArgs g as t k).map (sub1 σ)
  | [], _, _ => rfl
  | a :: as, t, k => by
    simp only [List.map_cons]
    unfold normArgs
    rw [hg]
    cases e : g a with
    | none => rfl
    | some x =>
      obtain ⟨r, j⟩ := x
      simp only [Option.map_some, sub1, onOk_subst]
      cases onOk t r
      · rfl
      · exact normArgs_subst hg as (.app t r) _
theorem norm_subst {σ : Nat → Nat} (h : Ren σ) : ∀ (d : Nat) (t : Tm), norm d (subst σ t) = (norm d t).map (sub1 σ)
  | 0, _ => rfl
  | d + 1, t => by
    unfold norm
    have e := run_subst h 400 t [] 0
    rw [List.map_nil] at e
    rw [e]
    cases run 400 t [] 0 with
    | none => rfl
    | some x =>
      obtain ⟨c, args, k⟩ := x
      simp only [Option.map_some, sub2, few_map]
      cases few args
      · rfl
      · exact normArgs_subst (norm_subst h d) args (.leaf c) k
/-! renaming and taking out -/
theorem has_subst {π : Nat → Nat} (inj : ∀ a b, Nat.beq (π a) (π b) = Nat.beq a b) (x : Nat) : ∀ t, (subst π t).has (π x) = t.has x
  | .leaf c => inj c x
  | .app f a => by
    show (match (subst π f).has (π x) with | true => true | false => (subst π a).has (π x)) = (match f.has x with | true => true | false => a.has x)
    rw [has_subst inj x f, has_subst inj x a]
theorem isLeaf_subst {π : Nat → Nat} (inj : ∀ a b, Nat.beq (π a) (π b) = Nat.beq a b) (x : Nat) : ∀ t, isLeaf (π x) (subst π t) = isLeaf x t
  | .leaf c => inj c x
  | .app _ _ => rfl
theorem without_subst {π : Nat → Nat} (h : Ren π) (inj : ∀ a b, Nat.beq (π a) (π b) = Nat.beq a b) (x : Nat) (d m : Bool) : ∀ t, without (π x) d m (subst π t) = subst π (without x d m t)
  | .leaf c => by
    have e73 := Ren.fix h.i
    have e75 := Ren.fix h.k
    simp only [subst, without, inj]
    cases Nat.beq c x <;> simp only [subst, e73, e75]
  | .app f a => by
    have e75 := Ren.fix h.k
    have e66 := Ren.fix h.b
    have e67 := Ren.fix h.c
    have e83 := Ren.fix h.s
    simp only [subst, without, has_subst inj, isLeaf_subst inj, without_subst h inj x d m f, without_subst h inj x d m a]
    cases f.has x
    · cases a.has x
      · simp only [subst, e75]
      · cases d <;> cases isLeaf x a <;> cases m <;> simp only [subst, e66, e83, Bool.and_true, Bool.and_false]
    · cases a.has x <;> cases m <;> simp only [subst, e67, e83, Bool.and_true, Bool.and_false, Bool.not_true, Bool.not_false]
theorem same_eq : ∀ {t u : Tm}, t.same u = true → t = u
  | .leaf _, .leaf _, h => by rw [Nat.eq_of_beq_eq_true h]
  | .app f a, .app g b, h => by
    unfold Tm.same at h
    cases e : f.same g
    · rw [e] at h; cases h
    · rw [e] at h
      rw [same_eq e, same_eq h]
  | .leaf _, .app _ _, h => by cases h
  | .app _ _, .leaf _, h => by cases h
def lv (p : Nat → Bool) : Tm → Bool
  | .leaf c => p c
  | .app f a => match lv p f with | true => lv p a | false => false
def oks (more : Bool) (c : Nat) : Bool := match Nat.beq c 83 with
  | true => true
  | false => match Nat.beq c 75 with
    | true => true
    | false => match Nat.beq c 73 with
      | true => true
      | false => match Nat.beq c 107 with
        | true => true
        | false => match more with
          | false => false
          | true => match Nat.beq c 66 with
            | true => true
            | false => Nat.beq c 67
theorem lv_subst {p : Nat → Bool} {π : Nat → Nat} (hp : ∀ c, p c = true → π c = c) : ∀ {t : Tm}, lv p t = true → subst π t = t
  | .leaf c, h => by rw [subst, hp c h]
  | .app f a, h => by
    unfold lv at h
    cases e : lv p f
    · rw [e] at h; cases h
    · rw [e] at h
      rw [subst, lv_subst hp e, lv_subst hp h]
def chk (drop more : Bool) (m : Tm) : Bool :=
  (fun t => match lv (oks more) t with
    | false => false
    | true => match norm 8 (.app (.app (.app t (.leaf 112)) (.leaf 113)) (.leaf 114)) with
      | none => false
      | some (r, k) => match r.same (subst rho m) with
        | true => Nat.ble k 200
        | false => false) (without 120 drop more (without 121 drop more (without 122 drop more m)))
end
section
set_option maxRecDepth 100000
def shp (j : Nat) (a b c d : Tm) : Tm := match j with
  | 0 => .app (.app (.app a b) c) d
  | 1 => .app (.app a b) (.app c d)
  | 2 => .app (.app a (.app b c)) d
  | 3 => .app a (.app (.app b c) d)
  | _ => .app a (.app b (.app c d))
def letter (i : Nat) : Nat := match i with
  | 0 => 120
  | 1 => 121
  | 2 => 122
  | _ => 107
def allL (p : Nat → Bool) : Bool := match p 0 with
  | false => false
  | true => match p 1 with
    | false => false
    | true => match p 2 with
      | false => false
      | true => p 3
theorem allL_at {p : Nat → Bool} (h : allL p = true) : ∀ i, i < 4 → p i = true := by
  unfold allL at h
  cases e0 : p 0 <;> simp only [e0] at h
  · cases h
  cases e1 : p 1 <;> simp only [e1] at h
  · cases h
  cases e2 : p 2 <;> simp only [e2] at h
  · cases h
  intro i hi
  match i, hi with
  | 0, _ => exact e0
  | 1, _ => exact e1
  | 2, _ => exact e2
  | 3, _ => exact h
def all64 (drop more : Bool) (j a : Nat) : Bool := allL fun b => allL fun c => allL fun d => chk drop more (shp j (.leaf (letter a)) (.leaf (letter b)) (.leaf (letter c)) (.leaf (letter d)))
theorem q0ff0 : all64 false false 0 0 = true := by decide +kernel
theorem q0ff1 : all64 false false 0 1 = true := by decide +kernel
theorem q0ff2 : all64 false false 0 2 = true := by decide +kernel
theorem q0ff3 : all64 false false 0 3 = true := by decide +kernel
theorem q0ft0 : all64 false true 0 0 = true := by decide +kernel
theorem q0ft1 : all64 false true 0 1 = true := by decide +kernel
theorem q0ft2 : all64 false true 0 2 = true := by decide +kernel
theorem q0ft3 : all64 false true 0 3 = true := by decide +kernel
theorem q0tf0 : all64 true false 0 0 = true := by decide +kernel
theorem q0tf1 : all64 true false 0 1 = true := by decide +kernel
theorem q0tf2 : all64 true false 0 2 = true := by decide +kernel
theorem q0tf3 : all64 true false 0 3 = true := by decide +kernel
theorem q0tt0 : all64 true true 0 0 = true := by decide +kernel
theorem q0tt1 : all64 true true 0 1 = true := by decide +kernel
theorem q0tt2 : all64 true true 0 2 = true := by decide +kernel
theorem q0tt3 : all64 true true 0 3 = true := by decide +kernel
theorem q1ff0 : all64 false false 1 0 = true := by decide +kernel
theorem q1ff1 : all64 false false 1 1 = true := by decide +kernel
theorem q1ff2 : all64 false false 1 2 = true := by decide +kernel
theorem q1ff3 : all64 false false 1 3 = true := by decide +kernel
theorem q1ft0 : all64 false true 1 0 = true := by decide +kernel
theorem q1ft1 : all64 false true 1 1 = true := by decide +kernel
theorem q1ft2 : all64 false true 1 2 = true := by decide +kernel
theorem q1ft3 : all64 false true 1 3 = true := by decide +kernel
theorem q1tf0 : all64 true false 1 0 = true := by decide +kernel
theorem q1tf1 : all64 true false 1 1 = true := by decide +kernel
theorem q1tf2 : all64 true false 1 2 = true := by decide +kernel
theorem q1tf3 : all64 true false 1 3 = true := by decide +kernel
theorem q1tt0 : all64 true true 1 0 = true := by decide +kernel
theorem q1tt1 : all64 true true 1 1 = true := by decide +kernel
theorem q1tt2 : all64 true true 1 2 = true := by decide +kernel
theorem q1tt3 : all64 true true 1 3 = true := by decide +kernel
theorem q2ff0 : all64 false false 2 0 = true := by decide +kernel
theorem q2ff1 : all64 false false 2 1 = true := by decide +kernel
theorem q2ff2 : all64 false false 2 2 = true := by decide +kernel
theorem q2ff3 : all64 false false 2 3 = true := by decide +kernel
theorem q2ft0 : all64 false true 2 0 = true := by decide +kernel
theorem q2ft1 : all64 false true 2 1 = true := by decide +kernel
theorem q2ft2 : all64 false true 2 2 = true := by decide +kernel
theorem q2ft3 : all64 false true 2 3 = true := by decide +kernel
theorem q2tf0 : all64 true false 2 0 = true := by decide +kernel
theorem q2tf1 : all64 true false 2 1 = true := by decide +kernel
theorem q2tf2 : all64 true false 2 2 = true := by decide +kernel
theorem q2tf3 : all64 true false 2 3 = true := by decide +kernel
theorem q2tt0 : all64 true true 2 0 = true := by decide +kernel
theorem q2tt1 : all64 true true 2 1 = true := by decide +kernel
theorem q2tt2 : all64 true true 2 2 = true := by decide +kernel
theorem q2tt3 : all64 true true 2 3 = true := by decide +kernel
theorem q3ff0 : all64 false false 3 0 = true := by decide +kernel
theorem q3ff1 : all64 false false 3 1 = true := by decide +kernel
theorem q3ff2 : all64 false false 3 2 = true := by decide +kernel
theorem q3ff3 : all64 false false 3 3 = true := by decide +kernel
theorem q3ft0 : all64 false true 3 0 = true := by decide +kernel
theorem q3ft1 : all64 false true 3 1 = true := by decide +kernel
theorem q3ft2 : all64 false true 3 2 = true := by decide +kernel
theorem q3ft3 : all64 false true 3 3 = true := by decide +kernel
theorem q3tf0 : all64 true false 3 0 = true := by decide +kernel
theorem q3tf1 : all64 true false 3 1 = true := by decide +kernel
theorem q3tf2 : all64 true false 3 2 = true := by decide +kernel
theorem q3tf3 : all64 true false 3 3 = true := by decide +kernel
theorem q3tt0 : all64 true true 3 0 = true := by decide +kernel
theorem q3tt1 : all64 true true 3 1 = true := by decide +kernel
theorem q3tt2 : all64 true true 3 2 = true := by decide +kernel
theorem q3tt3 : all64 true true 3 3 = true := by decide +kernel
theorem q4ff0 : all64 false false 4 0 = true := by decide +kernel
theorem q4ff1 : all64 false false 4 1 = true := by decide +kernel
theorem q4ff2 : all64 false false 4 2 = true := by decide +kernel
theorem q4ff3 : all64 false false 4 3 = true := by decide +kernel
theorem q4ft0 : all64 false true 4 0 = true := by decide +kernel
theorem q4ft1 : all64 false true 4 1 = true := by decide +kernel
theorem q4ft2 : all64 false true 4 2 = true := by decide +kernel
theorem q4ft3 : all64 false true 4 3 = true := by decide +kernel
theorem q4tf0 : all64 true false 4 0 = true := by decide +kernel
theorem q4tf1 : all64 true false 4 1 = true := by decide +kernel
theorem q4tf2 : all64 true false 4 2 = true := by decide +kernel
theorem q4tf3 : all64 true false 4 3 = true := by decide +kernel
theorem q4tt0 : all64 true true 4 0 = true := by decide +kernel
theorem q4tt1 : all64 true true 4 1 = true := by decide +kernel
theorem q4tt2 : all64 true true 4 2 = true := by decide +kernel
theorem q4tt3 : all64 true true 4 3 = true := by decide +kernel
theorem four {P : Nat → Prop} (h0 : P 0) (h1 : P 1) (h2 : P 2) (h3 : P 3) : ∀ a, a < 4 → P a
  | 0, _ => h0
  | 1, _ => h1
  | 2, _ => h2
  | 3, _ => h3
theorem five {P : Nat → Prop} (h0 : P 0) (h1 : P 1) (h2 : P 2) (h3 : P 3) (h4 : P 4) : ∀ a, a < 5 → P a
  | 0, _ => h0
  | 1, _ => h1
  | 2, _ => h2
  | 3, _ => h3
  | 4, _ => h4
theorem all_chk (drop more : Bool) (j a : Nat) (hj : j < 5) (ha : a < 4) : all64 drop more j a = true := by
  cases drop with
  | false => cases more with
    | false => exact five (P := fun j => ∀ a, a < 4 → all64 false false j a = true) (four q0ff0 q0ff1 q0ff2 q0ff3) (four q1ff0 q1ff1 q1ff2 q1ff3) (four q2ff0 q2ff1 q2ff2 q2ff3) (four q3ff0 q3ff1 q3ff2 q3ff3) (four q4ff0 q4ff1 q4ff2 q4ff3) j hj a ha
    | true => exact five (P := fun j => ∀ a, a < 4 → all64 false true j a = true) (four q0ft0 q0ft1 q0ft2 q0ft3) (four q1ft0 q1ft1 q1ft2 q1ft3) (four q2ft0 q2ft1 q2ft2 q2ft3) (four q3ft0 q3ft1 q3ft2 q3ft3) (four q4ft0 q4ft1 q4ft2 q4ft3) j hj a ha
  | true => cases more with
    | false => exact five (P := fun j => ∀ a, a < 4 → all64 true false j a = true) (four q0tf0 q0tf1 q0tf2 q0tf3) (four q1tf0 q1tf1 q1tf2 q1tf3) (four q2tf0 q2tf1 q2tf2 q2tf3) (four q3tf0 q3tf1 q3tf2 q3tf3) (four q4tf0 q4tf1 q4tf2 q4tf3) j hj a ha
    | true => exact five (P := fun j => ∀ a, a < 4 → all64 true true j a = true) (four q0tt0 q0tt1 q0tt2 q0tt3) (four q1tt0 q1tt1 q1tt2 q1tt3) (four q2tt0 q2tt1 q2tt2 q2tt3) (four q3tt0 q3tt1 q3tt2 q3tt3) (four q4tt0 q4tt1 q4tt2 q4tt3) j hj a ha
theorem chk_at (drop more : Bool) {j a b c d : Nat} (hj : j < 5) (ha : a < 4) (hb : b < 4) (hc : c < 4) (hd : d < 4) : chk drop more (shp j (.leaf (letter a)) (.leaf (letter b)) (.leaf (letter c)) (.leaf (letter d))) = true :=
  allL_at (allL_at (allL_at (all_chk drop more j a hj ha) b hb) c hc) d hd
end
section
open PySem PySem.W PyProof.Rows
open PySem.Calls PySem.Spec
set_option maxRecDepth 100000
set_option maxHeartbeats 8000000
theorem txt_len (t : Tm) : (txt t).length = (enc t).length := by
  show (enc t).toArray.size = _
  simp
theorem txt_app (f l : Tm) : Str.ofString "`" ++ txt f ++ txt l = txt (.app f l) := by
  apply Str.ext'
  rw [Str.cps_append, Str.cps_append]
  show #[96] ++ (enc f).toArray ++ (enc l).toArray = (enc (.app f l)).toArray
  simp [enc]
theorem ofs_len : (Str.ofString "`").length = 1 := by decide +kernel


theorem ne_same {prog : Program} {w : World} {A : Around} {E : Value → Shared → Prop} {s : Shared} {x : Str} {t u : Tok} {Q : Value → Shared → Prop} (h : Q (.bool false) s) : wpAny (model prog w) A (compareOp .NotEq (.str x t) (.str x u)) Q E s :=
  PyProof.Rows.ne_str (by simpa using h)
theorem on_tel {w : World} {P : Addr} {kvs : List (Str × Value)} (f l : Tm) (tf tl : Tok) (hf : wf f) (hl : wf l) (kf : known kvs f) (kl : known kvs l) (hlen : (enc f).length + (enc l).length + 1 ≤ sizeLine) (hz : kvs.length ≤ sizeLine) :
    Tel w 183 [.str (txt f) tf, .str (txt l) tl, .ref P] 20 (fun news => PState PySem.Challenge.rw_xl0011_01.row.prog w news P kvs)
      (fun news news' r => (∃ t, r = .str (txt (.app f l)) t) ∧ Ext [P] news news' ∧ ∃ kvs', PState PySem.Challenge.rw_xl0011_01.row.prog w news' P kvs' ∧ known kvs' (.app f l) ∧ (∀ u, known kvs u → known kvs' u) ∧ kvs'.length ≤ kvs.length + 1) := by
  unfold Tel
  k_fill
  w_top off
  intro mean mg mb dp un gd cn cs a ccd cl outer A₀ base h₀ L m news s Q E B F X N T hk hd hu hg hp hret
  refine wpAny_call ?_
  k_dflt ktr_enter
  refine fold_ctx ?_
  intro M9 A9 e9
  repeat' (first
    | (k_unfold; (try dsimp only))
    | ((with_reducible first | show wpAny _ _ (exec _ _) _ _ _ | show wpAny _ _ (isTrue _ _ _) _ _ _); (fail_if_success (with_reducible show wpAny _ _ _ Q8 _ _)); (with_reducible refine fold_q ?_); intro Q8 hQ8)
    | ((with_reducible refine hQ8 _ _ ?_); clear hQ8; (try dsimp only))
    | ((with_reducible show wpAny _ _ (compareOp CmpOp.NotEq (Value.str _ _) (Value.str _ _)) _ _ _); (k_here; refine ne_same ?_))
    | ((with_reducible show wpAny _ _ (binaryOp PySem.Operator.Add (Value.str _ _) (Value.str _ _)) _ _ _); (k_here; k_dflt (refine' PyProof.Rows.add_str ?_ ?kz; (case kz => (simp only [Str.length_append, txt_len, ofs_len] at *; omega))); intro t9 k9; (try rw [txt_app])))
    | ((with_reducible show wpAny _ _ (call (Value.ref _) _) _ _ _); (k_here; (with_reducible refine fold_q ?_); intro Q9 hQ9; k_dflt (refine' tel_use (setitem_tel _ _ _ _ ?kz1 ?kz2 ?kz3 ?kz4 ?kz6) ?k1 ?k2 ?k3 ?k4 ?k5 ?k6 ?k7 ?k8 ?k9 ?k10 ?_; (case k1 | k2 => k_asm); (case k3 | k4 | k5 => k_asm); (case k6 => first | exact rfl | assumption); (case k7 => ktr_room); (case k8 => ktr_units); (case k9 => assumption); (case k10 => exact ⟨PState.cons (by assumption), ⟨_, _, .head _⟩, PState.ne (by assumption) (by assumption)⟩); (case kz1 | kz2 => assumption); (case kz3 | kz4 | kz6 => assumption)); intro r9 n9 h9 t9 g9 F9 N9 G9 P9; obtain ⟨e9, o9, x9, y9⟩ := P9; subst e9; subst x9; (with_reducible refine hQ9 _ _ ?_); clear hQ9 Q9))
    | ((with_reducible show wpAny _ _ (call (Value.ref _) _) _ _ _); (k_here; (with_reducible refine fold_q ?_); intro Q9 hQ9; k_dflt (refine' tel_use (concat_tel _ _ _ _ ?kz) ?k1 ?k2 ?k3 ?k4 ?k5 ?k6 ?k7 ?k8 ?k9 ?k10 ?_; (case k1 | k2 => k_asm); (case k3 | k4 | k5 => k_asm); (case k6 => first | exact rfl | assumption); (case k7 => ktr_room); (case k8 => ktr_units); (case k9 => assumption); (case k10 => exact True.intro); (case kz => (simp only [Str.length_append, txt_len, ofs_len] at *; omega))); intro r9 n9 h9 t9 g9 F9 N9 G9 P9; obtain ⟨e9, x9, y9⟩ := P9; subst e9; subst y9; (try rw [txt_app]); (with_reducible refine hQ9 _ _ ?_); clear hQ9 Q9))
    | ((with_reducible show wpAny _ _ (execs (_ :: _) _) _ _ _); (k_here; (with_reducible refine wpAny_execs_cons ?_); (try dsimp only); (try (refine fold_fn (by k_asm) (by k_asm) ?_; intro led9 fm9 F9 N9))))
    | ((with_reducible show wpAny _ _ (eval (PySem.Expr.Call _ _ _ _) _) _ _ _); (k_here; (with_reducible show wpAny _ _ (eval (Expr.Call (Expr.Name _ _) (_ :: _) [] _) _) _ _ _); k_dflt (refine' call_args ?F ?X ?T ?e ?hf ?hb ?hk ?he ?A ?cs ?_; (case F | X | T => k_asm); (case hf | hb => rfl); (case e | hk => k_is); (case cs | he => rfl); (case A => (repeat' first | exact ArgsEv.nil | refine' ArgsEv.name (by rfl) (by rfl) (by rfl) ?_ | refine' ArgsEv.str ?_)); k_whole)))
    | (walk1) | (dsimp only; walk1) | (leave1; (try dsimp only)) | fail "no step")
  all_goals (exact hret _ _ _ _ _ (by assumption) (by assumption) (by assumption) ⟨⟨_, rfl⟩, Ext.uncons (Ext.put (List.mem_singleton.mpr rfl)), _, by assumption, stored_keys.mpr (.inl rfl), fun _ h => known_stored h, stored_len⟩)
end
section
open PySem PySem.W PyProof.Rows
open PySem.Calls PySem.Spec
set_option maxRecDepth 100000
set_option maxHeartbeats 8000000
theorem enc_len (t : Tm) : (enc t).length = t.size := by
  induction t with
  | leaf c => rfl
  | app f a ihf iha =>
    show (96 :: (enc f ++ enc a)).length = Nat.succ (Nat.add f.size a.size)
    rw [List.length_cons, List.length_append, ihf, iha]; rfl
theorem has_mem {x : Nat} (hx : okc x) : ∀ t : Tm, t.has x = decide (x ∈ enc t)
  | .leaf c => by
    show Nat.beq c x = decide (x ∈ [c])
    rw [Bool.eq_iff_iff, Nat.beq_eq, decide_eq_true_eq, List.mem_singleton]; exact eq_comm
  | .app f a => by
    show (match f.has x with | true => true | false => a.has x) = decide (x ∈ 96 :: (enc f ++ enc a))
    rw [has_mem hx f, has_mem hx a]
    by_cases h1 : x ∈ enc f <;> by_cases h2 : x ∈ enc a <;> simp [h1, h2, hx.1]
theorem txt_leaf (x : Nat) : txt (.leaf x) = ⟨#[x]⟩ := rfl
theorem occ_has {x : Nat} (hx : okc x) (t : Tm) : (!(Builtin.Str.occurrences (txt t) (txt (.leaf x)) 0 (txt t).length 1).isEmpty) = t.has x := by
  rw [txt_leaf, StrLaws.found_one, has_mem hx]
  show decide (x ∈ (enc t).toArray.toList) = _
  simp
theorem has_tel {w : World} (t : Tm) (x : Nat) (b : Bool) (tx ty : Tok) (hx : okc x) (hb : t.has x = b) :
    Tel w 162 [.str (txt t) tx, .str (txt (.leaf x)) ty] 10 (fun _ => True) (fun news news' r => news' = news ∧ r = Value.bool b) := by
  have := contains_str_tel (w := w) (txt t) (txt (.leaf x)) tx ty
  rw [occ_has hx, hb] at this
  exact this
theorem ofs_K : Str.ofString "K" = txt (.leaf 75) := by decide +kernel
theorem ofs_I : Str.ofString "I" = txt (.leaf 73) := by decide +kernel
theorem ofs_S : Str.ofString "S" = txt (.leaf 83) := by decide +kernel
theorem ofs_B : Str.ofString "B" = txt (.leaf 66) := by decide +kernel
theorem ofs_C : Str.ofString "C" = txt (.leaf 67) := by decide +kernel
theorem on_telE {w : World} {P : Addr} {kvs : List (Str × Value)} (x y : Str) (f l : Tm) (tf tl : Tok) (ex : x = txt f) (ey : y = txt l) (hf : wf f) (hl : wf l) (kf : known kvs f) (kl : known kvs l) (hlen : f.size + l.size + 1 ≤ sizeLine) (hz : kvs.length ≤ sizeLine) :
    Tel w 183 [.str x tf, .str y tl, .ref P] 20 (fun news => PState PySem.Challenge.rw_xl0011_01.row.prog w news P kvs)
      (fun news news' r => (∃ t, r = .str (txt (.app f l)) t) ∧ Ext [P] news news' ∧ ∃ kvs', PState PySem.Challenge.rw_xl0011_01.row.prog w news' P kvs' ∧ known kvs' (.app f l) ∧ (∀ u, known kvs u → known kvs' u) ∧ kvs'.length ≤ kvs.length + 1 ∧ wf (.app f l)) := by
  subst ex ey
  intro mean mg mb dp un gd cn cs a ccd cl outer A₀ base h₀ L m news s Q E B F X N T hk hd hu hg hp hret
  refine on_tel f l tf tl hf hl kf kl (by rw [enc_len, enc_len]; exact hlen) hz mean mg mb dp un gd cn cs a ccd cl outer A₀ base h₀ L m news s Q E B F X N T hk hd hu hg hp fun r news' h' tk' g' F' N' G' P' => hret r news' h' tk' g' F' N' G' ?_
  obtain ⟨p1, p2, kvs', p3, p4, p5, p6⟩ := P'
  exact ⟨p1, p2, kvs', p3, p4, p5, p6, hf, hl⟩
theorem known_leaf {kvs : List (Str × Value)} {c : Nat} : known kvs (.leaf c) := trivial
theorem wf_leaf {c : Nat} (h : okc c) : wf (.leaf c) := h
theorem wf_without {x : Nat} {d m : Bool} : ∀ {t : Tm}, wf t → wf (without x d m t)
  | .leaf c, h => by
    unfold without; split
    · exact wf_leaf (by decide)
    · exact ⟨wf_leaf (by decide), h⟩
  | .app f a, h => by
    have hf := wf_without (x := x) (d := d) (m := m) h.1
    have ha := wf_without (x := x) (d := d) (m := m) h.2
    unfold without
    split
    · split
      · exact ⟨wf_leaf (by decide), h⟩
      · split
        · exact h.1
        · split
          · exact ⟨⟨wf_leaf (by decide), h.1⟩, ha⟩
          · exact ⟨⟨wf_leaf (by decide), hf⟩, ha⟩
    · split
      · exact ⟨⟨wf_leaf (by decide), hf⟩, h.2⟩
      · exact ⟨⟨wf_leaf (by decide), hf⟩, ha⟩
theorem size_app (f a : Tm) : (Tm.app f a).size = f.size + a.size + 1 := rfl
theorem size_leaf (c : Nat) : (Tm.leaf c).size = 1 := rfl
theorem size_pos (t : Tm) : 0 < t.size := by cases t <;> simp [size_app, size_leaf]
theorem size_without {x : Nat} {d m : Bool} : ∀ {t : Tm}, (without x d m t).size ≤ 3 * t.size
  | .leaf c => by
    unfold without; split <;> simp [size_app, size_leaf]
  | .app f a => by
    have hf := size_without (x := x) (d := d) (m := m) (t := f)
    have ha := size_without (x := x) (d := d) (m := m) (t := a)
    have p1 := size_pos f
    have p2 := size_pos a
    unfold without
    (repeat' split) <;> simp only [size_app, size_leaf] <;> omega

abbrev WPost (w : World) (P : Addr) (kvs : List (Str × Value)) (x : Nat) (d m : Bool) (t : Tm) (news news' : Led) (r : Value) : Prop :=
  (∃ tk, r = .str (txt (without x d m t)) tk) ∧ Ext [P] news news' ∧ ∃ kvs', PState PySem.Challenge.rw_xl0011_01.row.prog w news' P kvs' ∧ known kvs' (without x d m t) ∧ (∀ u, known kvs u → known kvs' u) ∧ kvs'.length ≤ kvs.length + 2 * t.size ∧ wf (without x d m t) ∧ (without x d m t).size ≤ 3 * t.size
def WTel (w : World) (P : Addr) (x : Nat) (d m : Bool) (t : Tm) : Prop :=
  ∀ (kvs : List (Str × Value)) (tx tt : Tok), wf t → known kvs t → 4 * t.size ≤ sizeLine → kvs.length + 2 * t.size ≤ sizeLine → Tel w 190 [.str (txt (.leaf x)) tx, .str (txt t) tt, .bool d, .bool m, .ref P] (30 + 2 * t.size) (fun news => PState PySem.Challenge.rw_xl0011_01.row.prog w news P kvs) (WPost w P kvs x d m t)

theorem without_no {t : Tm} {x : Nat} {d m : Bool} (h : t.has x = false) : without x d m t = .app (.leaf 75) t := by
  cases t with
  | leaf c =>
    have : Nat.beq c x = false := h
    unfold without; rw [this]
  | app f a =>
    have : (match f.has x with | true => true | false => a.has x) = false := h
    unfold without
    cases hf : f.has x with
    | true => rw [hf] at this; cases this
    | false => rw [hf] at this; dsimp only at this ⊢; rw [this]

section
variable {w : World} {mean : ExcName → Option Value} {mg mb : Str → Option Value} {dp un : Nat} {gd : Option (List Code)} {cn : Str} {cs : Scope} {a : Addr} {ccd : Value} {cl : List (Str × Addr)} {outer : List Env} {A₀ : Around} {base h₀ : Heap} {L P : Addr} {m : Str → Option Value} {news : Led} {s : Shared} {Q E : Value → Shared → Prop} {kvs : List (Str × Value)}
theorem has_use {t : Tm} {x : Nat} {b : Bool} {tx ty : Tok} (B : Below A₀ base outer h₀) (F : Fr h₀ L s.heap m) (X : (hd.heap_39 w.params).In h₀) (N : News h₀ L s.heap news) (T : Top topProg looseT mean mg mb h₀) (hk : cs.kind = .function) (hd : dp + 10 < recursionLimit) (hu : un + 8 * 10 < cLine) (hg : AllBare s.gens) (hx : okc x) (hb : t.has x = b)
    (ret : ∀ h' tk' g', Fr h₀ L h' m → News h₀ L h' news → AllBare g' → Q (.bool b) { heap := h', gens := g', drawn := s.drawn, toks := tk', os := s.os }) :
    wpAny (model PySem.Challenge.rw_xl0011_01.row.prog w) (ktrTop dp un gd cn cs L a ccd cl outer) (call (.ref 162) [.str (txt t) tx, .str (txt (.leaf x)) ty]) Q E s :=
  tel_use (has_tel t x b tx ty hx hb) B F X N T hk hd hu hg trivial fun r n' h' tk' g' F' N' G' P' => by
    obtain ⟨rfl, rfl⟩ := P'
    exact ret h' tk' g' F' N' G'
theorem get_use {f l : Tm} {tk : Tok} (B : Below A₀ base outer h₀) (F : Fr h₀ L s.heap m) (X : (hd.heap_39 w.params).In h₀) (N : News h₀ L s.heap news) (T : Top topProg looseT mean mg mb h₀) (hk : cs.kind = .function) (hd : dp + 10 < recursionLimit) (hu : un + 8 * 10 < cLine) (hg : AllBare s.gens) (S : PState PySem.Challenge.rw_xl0011_01.row.prog w news P kvs) (hf : wf f) (hl : wf l) (hkn : known kvs (.app f l))
    (ret : ∀ a' tf tl h' tk' g', (a', tup [.str (txt f) tf, .str (txt l) tl]) ∈ news → known kvs f → known kvs l → Fr h₀ L h' m → News h₀ L h' news → AllBare g' → Q (.ref a') { heap := h', gens := g', drawn := s.drawn, toks := tk', os := s.os }) :
    wpAny (model PySem.Challenge.rw_xl0011_01.row.prog w) (ktrTop dp un gd cn cs L a ccd cl outer) (call (.ref 169) [.ref P, .str (txt (.app f l)) tk]) Q E s :=
  tel_use (getitem_tel f l tk hf hl hkn) B F X N T hk hd hu hg S fun r n' h' tk' g' F' N' G' P' => by
    obtain ⟨rfl, a', tf, tl, rfl, q1, q2, q3⟩ := P'
    exact ret a' tf tl h' tk' g' q1 q2 q3 F' N' G'
theorem on_use {x y : Str} {f l : Tm} {tf tl : Tok} (ex : x = txt f) (ey : y = txt l) (B : Below A₀ base outer h₀) (F : Fr h₀ L s.heap m) (X : (hd.heap_39 w.params).In h₀) (N : News h₀ L s.heap news) (T : Top topProg looseT mean mg mb h₀) (hk : cs.kind = .function) (hd : dp + 20 < recursionLimit) (hu : un + 8 * 20 < cLine) (hg : AllBare s.gens)
    (S : PState PySem.Challenge.rw_xl0011_01.row.prog w news P kvs) (hf : wf f) (hl : wf l) (kf : known kvs f) (kl : known kvs l) (hlen : f.size + l.size + 1 ≤ sizeLine) (hz : kvs.length ≤ sizeLine)
    (ret : ∀ tk news' kvs' h' tk' g', Fr h₀ L h' m → News h₀ L h' news' → AllBare g' → Ext [P] news news' → PState PySem.Challenge.rw_xl0011_01.row.prog w news' P kvs' → known kvs' (.app f l) → (∀ u, known kvs u → known kvs' u) → kvs'.length ≤ kvs.length + 1 → wf (.app f l) → Q (.str (txt (.app f l)) tk) { heap := h', gens := g', drawn := s.drawn, toks := tk', os := s.os }) :
    wpAny (model PySem.Challenge.rw_xl0011_01.row.prog w) (ktrTop dp un gd cn cs L a ccd cl outer) (call (.ref 183) [.str x tf, .str y tl, .ref P]) Q E s :=
  tel_use (on_telE x y f l tf tl ex ey hf hl kf kl hlen hz) B F X N T hk hd hu hg S fun r n' h' tk' g' F' N' G' P' => by
    obtain ⟨⟨tk, rfl⟩, q1, kvs', q2, q3, q4, q5, q6⟩ := P'
    exact ret tk n' kvs' h' tk' g' F' N' G' q1 q2 q3 q4 q5 q6
theorem w_use {x : Nat} {d m1 : Bool} {t : Tm} {tx tt : Tok} (C : WTel w P x d m1 t) (B : Below A₀ base outer h₀) (F : Fr h₀ L s.heap m) (X : (hd.heap_39 w.params).In h₀) (N : News h₀ L s.heap news) (T : Top topProg looseT mean mg mb h₀) (hk : cs.kind = .function) (hd : dp + (30 + 2 * t.size) < recursionLimit) (hu : un + 8 * (30 + 2 * t.size) < cLine) (hg : AllBare s.gens)
    (S : PState PySem.Challenge.rw_xl0011_01.row.prog w news P kvs) (h1 : wf t) (h2 : known kvs t) (h3 : 4 * t.size ≤ sizeLine) (h4 : kvs.length + 2 * t.size ≤ sizeLine)
    (ret : ∀ tk news' kvs' h' tk' g', Fr h₀ L h' m → News h₀ L h' news' → AllBare g' → Ext [P] news news' → PState PySem.Challenge.rw_xl0011_01.row.prog w news' P kvs' → known kvs' (without x d m1 t) → (∀ u, known kvs u → known kvs' u) → kvs'.length ≤ kvs.length + 2 * t.size → wf (without x d m1 t) → (without x d m1 t).size ≤ 3 * t.size → Q (.str (txt (without x d m1 t)) tk) { heap := h', gens := g', drawn := s.drawn, toks := tk', os := s.os }) :
    wpAny (model PySem.Challenge.rw_xl0011_01.row.prog w) (ktrTop dp un gd cn cs L a ccd cl outer) (call (.ref 190) [.str (txt (.leaf x)) tx, .str (txt t) tt, .bool d, .bool m1, .ref P]) Q E s :=
  tel_use (C kvs tx tt h1 h2 h3 h4) B F X N T hk hd hu hg S fun r n' h' tk' g' F' N' G' P' => by
    obtain ⟨⟨tk, rfl⟩, q1, kvs', q2, q3, q4, q5, q6, q7⟩ := P'
    exact ret tk n' kvs' h' tk' g' F' N' G' q1 q2 q3 q4 q5 q6 q7
end
theorem eq_b {prog : Program} {w : World} {A : Around} {E : Value → Shared → Prop} {s : Shared} {x y : Str} {t u : Tok} {Q : Value → Shared → Prop} (b : Bool) (hb : (x == y) = b) (h : Q (.bool b) s) : wpAny (model prog w) A (compareOp .Eq (.str x t) (.str y u)) Q E s :=
  PyProof.Rows.eq_str (by rw [hb]; exact h)
theorem str_beq (x : Str) : (x == x) = true := by simp
theorem beq_txt {t u : Tm} (h : wf t) (k : wf u) (n : t ≠ u) : (txt t == txt u) = false := by
  cases e : (txt t == txt u) with
  | false => rfl
  | true => exact absurd (txt_inj h k (by simpa using e)) n
theorem isLeaf_beq {x : Nat} {l : Tm} (hx : okc x) (h : wf l) : (txt l == txt (.leaf x)) = isLeaf x l := by
  cases l with
  | leaf c =>
    show _ = Nat.beq c x
    by_cases e : c = x
    · subst e; simp
    · have : Nat.beq c x = false := by
        cases q : Nat.beq c x with
        | false => rfl
        | true => exact absurd (Nat.eq_of_beq_eq_true q) e
      rw [this]; exact beq_txt h hx (fun q => e (by injection q))
  | app f a => exact beq_txt h hx (fun q => by cases q)
theorem has_app {x : Nat} {f l : Tm} : (Tm.app f l).has x = (f.has x || l.has x) := by
  show (match f.has x with | true => true | false => l.has x) = _
  cases f.has x <;> rfl
theorem isLeaf_has {x : Nat} {l : Tm} (h : isLeaf x l = true) : l.has x = true := by
  cases l with
  | leaf c => exact h
  | app f a => cases h
theorem without_K {x : Nat} {d m : Bool} {f l : Tm} (h : (Tm.app f l).has x = true) (h1 : (d && isLeaf x l && !f.has x) = true) : without x d m (.app f l) = f := by
  rw [has_app] at h
  unfold without
  cases hf : f.has x with
  | true => rw [hf] at h1; simp at h1
  | false =>
    rw [hf] at h h1
    have hl : l.has x = true := by simpa using h
    have h2 : (d && isLeaf x l) = true := by simpa using h1
    dsimp only
    rw [hl]; dsimp only
    rw [show and d (isLeaf x l) = true from h2]
theorem without_B {x : Nat} {d m : Bool} {f l : Tm} (h : (Tm.app f l).has x = true) (h1 : (d && isLeaf x l && !f.has x) = false) (h2 : (m && !f.has x) = true) : without x d m (.app f l) = .app (.app (.leaf 66) f) (without x d m l) := by
  rw [has_app] at h
  conv => lhs; unfold without
  cases hf : f.has x with
  | true => rw [hf] at h2; simp at h2
  | false =>
    rw [hf] at h h1 h2
    have hl : l.has x = true := by simpa using h
    have h3 : (d && isLeaf x l) = false := by simpa using h1
    have h4 : m = true := by simpa using h2
    dsimp only
    rw [hl]; dsimp only
    rw [show and d (isLeaf x l) = false from h3]; dsimp only
    rw [h4]
theorem without_C {x : Nat} {d m : Bool} {f l : Tm} (_h : (Tm.app f l).has x = true) (h2 : (m && !f.has x) = false) (h3 : (m && !l.has x) = true) : without x d m (.app f l) = .app (.app (.leaf 67) (without x d m f)) l := by
  conv => lhs; unfold without
  have h4 : m = true := by cases m <;> simp_all
  cases hf : f.has x with
  | false => rw [hf, h4] at h2; simp at h2
  | true =>
    dsimp only
    rw [show and m (not (l.has x)) = true from h3]
theorem without_S {x : Nat} {d m : Bool} {f l : Tm} (h : (Tm.app f l).has x = true) (h1 : (d && isLeaf x l && !f.has x) = false) (h2 : (m && !f.has x) = false) (h3 : (m && !l.has x) = false) :
    without x d m (.app f l) = .app (.app (.leaf 83) (without x d m f)) (without x d m l) := by
  rw [has_app] at h
  conv => lhs; unfold without
  cases hf : f.has x with
  | false =>
    rw [hf] at h h1 h2
    have hl : l.has x = true := by simpa using h
    have h5 : (d && isLeaf x l) = false := by simpa using h1
    have h4 : m = false := by simpa using h2
    dsimp only
    rw [hl]; dsimp only
    rw [show and d (isLeaf x l) = false from h5]; dsimp only
    rw [h4]
  | true =>
    dsimp only
    rw [show and m (not (l.has x)) = false from h3]
theorem rm_d {dp n k N : Nat} (h : dp + (30 + n) < N) (hk : k + 1 ≤ 30) : dp + 1 + k < N := by omega
theorem rm_u {un n k N : Nat} (h : un + 8 * (30 + n) < N) (hk : k + 1 ≤ 30) : un + 3 + 8 * k < N := by omega
theorem rm_d2 {dp a c N : Nat} (h : dp + (30 + 2 * c) < N) (hk : a + 1 ≤ c) : dp + 1 + (30 + 2 * a) < N := by omega
theorem rm_u2 {un a c N : Nat} (h : un + 8 * (30 + 2 * c) < N) (hk : a + 1 ≤ c) : un + 3 + 8 * (30 + 2 * a) < N := by omega
theorem w_no {w : World} {P : Addr} {x : Nat} {d m : Bool} {t : Tm} (hx : okc x) (h : t.has x = false) : WTel w P x d m t := by
  intro kvs tx tt hwf hkn hs1 hs2
  have hpos := size_pos t
  unfold Tel
  k_fill
  w_top off
  intro mean mg mb dp un gd cn cs a ccd cl outer A₀ base h₀ L m' news s Q E B F X N T hk hd hu hg hp hret
  have r1 : dp + 1 + 10 < recursionLimit := rm_d hd (by decide)
  have r2 : dp + 1 + 20 < recursionLimit := rm_d hd (by decide)
  have u1 : un + 3 + 8 * 10 < cLine := rm_u hu (by decide)
  have u2 : un + 3 + 8 * 20 < cLine := rm_u hu (by decide)
  refine wpAny_call ?_
  k_dflt ktr_enter
  refine fold_ctx ?_
  intro M9 A9 e9
  refine fold_fn (by k_asm) (by k_asm) ?_
  intro led9 fm9 F9 N9
  repeat' (first
    | (k_unfold; (try dsimp only))
    | ((with_reducible show wpAny _ _ (execs (_ :: _) _) _ _ _); refine wpAny_execs_cons ?_; (try dsimp only); (try k_fold); (try (refine fold_fn (by k_asm) (by k_asm) ?_; intro led9 fm9 F9 N9)))
    | ((with_reducible show wpAny _ _ (eval (PySem.Expr.Call (PySem.Expr.Name _ _) (_ :: _) [] _) _) _ _ _); refine call_args (by k_asm) (by k_asm) (by k_asm) (by k_is) (by rfl) (by rfl) (by k_is) (by rfl) (by (repeat' first | exact ArgsEv.nil | refine' ArgsEv.name (by rfl) (by rfl) (by rfl) ?_ | refine' ArgsEv.str ?_); first | done | fail "open") (by rfl) ?_; (try k_fold))
    | ((with_reducible show wpAny _ _ (call (Value.ref _) _) _ _ _); first
      | (refine has_use (by k_asm) (by k_asm) (by k_asm) (by k_asm) (by k_asm) (by first | exact rfl | assumption) (by assumption) (by assumption) (by assumption) (by assumption) (by assumption) ?_; intro h9 t9 g9 F9 N9 G9)
      | (refine get_use (by k_asm) (by k_asm) (by k_asm) (by k_asm) (by k_asm) (by first | exact rfl | assumption) (by assumption) (by assumption) (by assumption) (by assumption) (by assumption) (by assumption) (by assumption) ?_; intro a9 tf9 tl9 h9 t9 g9 m9 kf9 kl9 F9 N9 G9)
      | (refine on_use (by first | with_reducible exact ofs_K | with_reducible exact ofs_S | with_reducible exact ofs_B | with_reducible exact ofs_C | exact rfl) (by exact rfl) (by k_asm) (by k_asm) (by k_asm) (by k_asm) (by k_asm) (by first | exact rfl | assumption) (by assumption) (by assumption) (by assumption) (by assumption) (by first | assumption | exact wf_leaf (by decide)) (by assumption) (by first | assumption | exact known_leaf | solve_by_elim) (by first | assumption | solve_by_elim) (by ((try simp only [size_app, size_leaf]); omega)) (by omega) ?_; intro tk9 n9 kvs9 h9 t9 g9 F9 N9 G9 x9 S9 kn9 mo9 le9 wf9)
      | (refine w_use (by assumption) (by k_asm) (by k_asm) (by k_asm) (by k_asm) (by k_asm) (by first | exact rfl | assumption) (by assumption) (by assumption) (by assumption) (by assumption) (by assumption) (by first | assumption | solve_by_elim) (by omega) (by omega) ?_; intro tk9 n9 kvs9 h9 t9 g9 F9 N9 G9 x9 S9 kn9 mo9 le9 wf9 sz9))
    | ((with_reducible show wpAny _ _ (compareOp CmpOp.Eq (Value.str _ _) (Value.str _ _)) _ _ _); refine eq_b _ (by first | assumption | exact str_beq _) ?_; (try k_fold))
    | (walk1; (try k_fold)) | (dsimp only; walk1; (try k_fold)) | (leave1; (try dsimp only)) | fail "no step")
  simp only [WPost, without_no h] at hret
  all_goals (refine hret _ _ _ _ _ (by assumption) (by assumption) (by assumption) ⟨⟨_, rfl⟩, by assumption, _, by assumption, by assumption, by assumption, ?_, by assumption, ?_⟩ <;> ((try simp only [size_app, size_leaf]); omega))
theorem w_leaf {w : World} {P : Addr} {x : Nat} {d m : Bool} (hx : okc x) : WTel w P x d m (.leaf x) := by
  intro kvs tx tt hwf hkn hs1 hs2
  have hb : (Tm.leaf x).has x = true := Nat.beq_refl x
  have hw : without x d m (.leaf x) = .leaf 73 := by unfold without; rw [Nat.beq_refl]
  unfold Tel
  k_fill
  w_top off
  intro mean mg mb dp un gd cn cs a ccd cl outer A₀ base h₀ L m' news s Q E B F X N T hk hd hu hg hp hret
  simp only [WPost, hw] at hret
  have r1 : dp + 1 + 10 < recursionLimit := rm_d hd (by decide)
  have r2 : dp + 1 + 20 < recursionLimit := rm_d hd (by decide)
  have u1 : un + 3 + 8 * 10 < cLine := rm_u hu (by decide)
  have u2 : un + 3 + 8 * 20 < cLine := rm_u hu (by decide)
  refine wpAny_call ?_
  k_dflt ktr_enter
  repeat' (first
    | (k_unfold; (try dsimp only))
    | ((with_reducible show wpAny _ _ (execs (_ :: _) _) _ _ _); refine wpAny_execs_cons ?_; (try dsimp only); (try k_fold); (try (refine fold_fn (by k_asm) (by k_asm) ?_; intro led9 fm9 F9 N9)))
    | ((with_reducible show wpAny _ _ (eval (PySem.Expr.Call (PySem.Expr.Name _ _) (_ :: _) [] _) _) _ _ _); refine call_args (by k_asm) (by k_asm) (by k_asm) (by k_is) (by rfl) (by rfl) (by k_is) (by rfl) (by (repeat' first | exact ArgsEv.nil | refine' ArgsEv.name (by rfl) (by rfl) (by rfl) ?_ | refine' ArgsEv.str ?_); first | done | fail "open") (by rfl) ?_; (try k_fold))
    | ((with_reducible show wpAny _ _ (call (Value.ref _) _) _ _ _); first
      | (refine has_use (by k_asm) (by k_asm) (by k_asm) (by k_asm) (by k_asm) (by first | exact rfl | assumption) (by assumption) (by assumption) (by assumption) (by assumption) (by assumption) ?_; intro h9 t9 g9 F9 N9 G9)
      | (refine get_use (by k_asm) (by k_asm) (by k_asm) (by k_asm) (by k_asm) (by first | exact rfl | assumption) (by assumption) (by assumption) (by assumption) (by assumption) (by assumption) (by assumption) (by assumption) ?_; intro a9 tf9 tl9 h9 t9 g9 m9 kf9 kl9 F9 N9 G9)
      | (refine on_use (by first | with_reducible exact ofs_K | with_reducible exact ofs_S | with_reducible exact ofs_B | with_reducible exact ofs_C | exact rfl) (by exact rfl) (by k_asm) (by k_asm) (by k_asm) (by k_asm) (by k_asm) (by first | exact rfl | assumption) (by assumption) (by assumption) (by assumption) (by assumption) (by first | assumption | exact wf_leaf (by decide)) (by assumption) (by first | assumption | exact known_leaf | solve_by_elim) (by first | assumption | solve_by_elim) (by ((try simp only [size_app, size_leaf]); omega)) (by omega) ?_; intro tk9 n9 kvs9 h9 t9 g9 F9 N9 G9 x9 S9 kn9 mo9 le9 wf9)
      | (refine w_use (by assumption) (by k_asm) (by k_asm) (by k_asm) (by k_asm) (by k_asm) (by first | exact rfl | assumption) (by assumption) (by assumption) (by assumption) (by assumption) (by assumption) (by first | assumption | solve_by_elim) (by omega) (by omega) ?_; intro tk9 n9 kvs9 h9 t9 g9 F9 N9 G9 x9 S9 kn9 mo9 le9 wf9 sz9))
    | ((with_reducible show wpAny _ _ (compareOp CmpOp.Eq (Value.str _ _) (Value.str _ _)) _ _ _); refine eq_b _ (by first | assumption | exact str_beq _) ?_; (try k_fold))
    | (walk1; (try k_fold)) | (dsimp only; walk1; (try k_fold)) | (leave1; (try dsimp only)) | fail "no step")
  refine hret _ _ _ _ _ (by assumption) (by assumption) (by assumption) ⟨⟨_, by rw [ofs_I]⟩, Ext.refl, _, by assumption, known_leaf, fun _ h => h, by omega, wf_leaf (by decide), by (simp only [size_leaf]; omega)⟩

theorem w_app {w : World} {P : Addr} {x : Nat} {d m : Bool} {f l : Tm} (hx : okc x) (IHf : WTel w P x d m f) (IHl : WTel w P x d m l) (hb : (Tm.app f l).has x = true) : WTel w P x d m (.app f l) := by
  intro kvs tx tt hwf hkn hs1 hs2
  have hwf1 := hwf.1
  have hwf2 := hwf.2
  have hnl : (txt (.app f l) == txt (.leaf x)) = false := beq_txt hwf hx (fun q => by cases q)
  have hlb := isLeaf_beq hx hwf.2
  have p1 := size_pos f
  have p2 := size_pos l
  unfold Tel
  k_fill
  w_top off
  intro mean mg mb dp un gd cn cs a ccd cl outer A₀ base h₀ L m' news s Q E B F X N T hk hd hu hg hp hret
  rw [size_app] at hs1 hs2 hd hu
  have r1 : dp + 1 + 10 < recursionLimit := rm_d hd (by decide)
  have r2 : dp + 1 + 20 < recursionLimit := rm_d hd (by decide)
  have u1 : un + 3 + 8 * 10 < cLine := rm_u hu (by decide)
  have u2 : un + 3 + 8 * 20 < cLine := rm_u hu (by decide)
  have z1 : f.size + 1 ≤ (Tm.app f l).size := by rw [size_app]; omega
  have z2 : l.size + 1 ≤ (Tm.app f l).size := by rw [size_app]; omega
  rw [size_app] at z1 z2
  have r3 : dp + 1 + (30 + 2 * f.size) < recursionLimit := rm_d2 hd z1
  have r4 : dp + 1 + (30 + 2 * l.size) < recursionLimit := rm_d2 hd z2
  have u3 : un + 3 + 8 * (30 + 2 * f.size) < cLine := rm_u2 hu z1
  have u4 : un + 3 + 8 * (30 + 2 * l.size) < cLine := rm_u2 hu z2
  refine wpAny_call ?_
  k_dflt ktr_enter
  refine fold_ctx ?_
  intro M9 A9 e9
  refine fold_fn (by k_asm) (by k_asm) ?_
  intro led9 fm9 F9 N9
  refine exec_seg (l1 := [_, _, _]) (l2 := [_, _, _, _, _]) ?_
  repeat' (first
    | (k_unfold; (try dsimp only))
    | ((with_reducible show wpAny _ _ (execs (_ :: _) _) _ _ _); refine wpAny_execs_cons ?_; (try dsimp only); (try k_fold); (try (refine fold_fn (by k_asm) (by k_asm) ?_; intro led9 fm9 F9 N9)))
    | ((with_reducible show wpAny _ _ (eval (PySem.Expr.Call (PySem.Expr.Name _ _) (_ :: _) [] _) _) _ _ _); refine call_args (by k_asm) (by k_asm) (by k_asm) (by k_is) (by rfl) (by rfl) (by k_is) (by rfl) (by (repeat' first | exact ArgsEv.nil | refine' ArgsEv.name (by rfl) (by rfl) (by rfl) ?_ | refine' ArgsEv.str ?_); first | done | fail "open") (by rfl) ?_; (try k_fold))
    | ((with_reducible show wpAny _ _ (call (Value.ref _) _) _ _ _); first
      | (refine has_use (by k_asm) (by k_asm) (by k_asm) (by k_asm) (by k_asm) (by first | exact rfl | assumption) (by assumption) (by assumption) (by assumption) (by assumption) (by assumption) ?_; intro h9 t9 g9 F9 N9 G9)
      | (refine get_use (by k_asm) (by k_asm) (by k_asm) (by k_asm) (by k_asm) (by first | exact rfl | assumption) (by assumption) (by assumption) (by assumption) (by assumption) (by assumption) (by assumption) (by assumption) ?_; intro a9 tf9 tl9 h9 t9 g9 m9 kf9 kl9 F9 N9 G9)
      | (refine on_use (by first | with_reducible exact ofs_K | with_reducible exact ofs_S | with_reducible exact ofs_B | with_reducible exact ofs_C | exact rfl) (by exact rfl) (by k_asm) (by k_asm) (by k_asm) (by k_asm) (by k_asm) (by first | exact rfl | assumption) (by assumption) (by assumption) (by assumption) (by assumption) (by first | assumption | exact wf_leaf (by decide)) (by assumption) (by first | assumption | exact known_leaf | solve_by_elim) (by first | assumption | solve_by_elim) (by ((try simp only [size_app, size_leaf]); omega)) (by omega) ?_; intro tk9 n9 kvs9 h9 t9 g9 F9 N9 G9 x9 S9 kn9 mo9 le9 wf9)
      | (refine w_use (by assumption) (by k_asm) (by k_asm) (by k_asm) (by k_asm) (by k_asm) (by first | exact rfl | assumption) (by assumption) (by assumption) (by assumption) (by assumption) (by assumption) (by first | assumption | solve_by_elim) (by omega) (by omega) ?_; intro tk9 n9 kvs9 h9 t9 g9 F9 N9 G9 x9 S9 kn9 mo9 le9 wf9 sz9))
    | ((with_reducible show wpAny _ _ (compareOp CmpOp.Eq (Value.str _ _) (Value.str _ _)) _ _ _); refine eq_b _ (by first | assumption | exact str_beq _) ?_; (try k_fold))
    | (walk1; (try k_fold)) | (dsimp only; walk1; (try k_fold)) | (leave1; (try dsimp only)) | fail "no step")
  unfold Hold
  refine seg_if ((d && isLeaf x l && !f.has x) = false) (by k_asm) (by k_asm) ?_ ?_
  · cases d with
    | false =>
      repeat' (first
        | (k_unfold; (try dsimp only))
        | ((with_reducible show wpAny _ _ (execs (_ :: _) _) _ _ _); refine wpAny_execs_cons ?_; (try dsimp only); (try k_fold); (try (refine fold_fn (by k_asm) (by k_asm) ?_; intro led9 fm9 F9 N9)))
        | ((with_reducible show wpAny _ _ (eval (PySem.Expr.Call (PySem.Expr.Name _ _) (_ :: _) [] _) _) _ _ _); refine call_args (by k_asm) (by k_asm) (by k_asm) (by k_is) (by rfl) (by rfl) (by k_is) (by rfl) (by (repeat' first | exact ArgsEv.nil | refine' ArgsEv.name (by rfl) (by rfl) (by rfl) ?_ | refine' ArgsEv.str ?_); first | done | fail "open") (by rfl) ?_; (try k_fold))
        | ((with_reducible show wpAny _ _ (call (Value.ref _) _) _ _ _); first
          | (refine has_use (by k_asm) (by k_asm) (by k_asm) (by k_asm) (by k_asm) (by first | exact rfl | assumption) (by assumption) (by assumption) (by assumption) (by assumption) (by assumption) ?_; intro h9 t9 g9 F9 N9 G9)
          | (refine get_use (by k_asm) (by k_asm) (by k_asm) (by k_asm) (by k_asm) (by first | exact rfl | assumption) (by assumption) (by assumption) (by assumption) (by assumption) (by assumption) (by assumption) (by assumption) ?_; intro a9 tf9 tl9 h9 t9 g9 m9 kf9 kl9 F9 N9 G9)
          | (refine on_use (by first | with_reducible exact ofs_K | with_reducible exact ofs_S | with_reducible exact ofs_B | with_reducible exact ofs_C | exact rfl) (by exact rfl) (by k_asm) (by k_asm) (by k_asm) (by k_asm) (by k_asm) (by first | exact rfl | assumption) (by assumption) (by assumption) (by assumption) (by assumption) (by first | assumption | exact wf_leaf (by decide)) (by assumption) (by first | assumption | exact known_leaf | solve_by_elim) (by first | assumption | solve_by_elim) (by ((try simp only [size_app, size_leaf]); omega)) (by omega) ?_; intro tk9 n9 kvs9 h9 t9 g9 F9 N9 G9 x9 S9 kn9 mo9 le9 wf9)
          | (refine w_use (by assumption) (by k_asm) (by k_asm) (by k_asm) (by k_asm) (by k_asm) (by first | exact rfl | assumption) (by assumption) (by assumption) (by assumption) (by assumption) (by assumption) (by first | assumption | solve_by_elim) (by omega) (by omega) ?_; intro tk9 n9 kvs9 h9 t9 g9 F9 N9 G9 x9 S9 kn9 mo9 le9 wf9 sz9))
        | ((with_reducible show wpAny _ _ (compareOp CmpOp.Eq (Value.str _ _) (Value.str _ _)) _ _ _); refine eq_b _ (by first | assumption | exact str_beq _) ?_; (try k_fold))
        | (walk1; (try k_fold)) | (dsimp only; walk1; (try k_fold)) | (leave1; (try dsimp only)) | fail "no step")
      exact ⟨_, _, _, rfl, by assumption, by assumption, by assumption, rfl⟩
    | true =>
      cases hil : isLeaf x l with
      | false =>
        rw [hil] at hlb
        repeat' (first
          | (k_unfold; (try dsimp only))
          | ((with_reducible show wpAny _ _ (execs (_ :: _) _) _ _ _); refine wpAny_execs_cons ?_; (try dsimp only); (try k_fold); (try (refine fold_fn (by k_asm) (by k_asm) ?_; intro led9 fm9 F9 N9)))
          | ((with_reducible show wpAny _ _ (eval (PySem.Expr.Call (PySem.Expr.Name _ _) (_ :: _) [] _) _) _ _ _); refine call_args (by k_asm) (by k_asm) (by k_asm) (by k_is) (by rfl) (by rfl) (by k_is) (by rfl) (by (repeat' first | exact ArgsEv.nil | refine' ArgsEv.name (by rfl) (by rfl) (by rfl) ?_ | refine' ArgsEv.str ?_); first | done | fail "open") (by rfl) ?_; (try k_fold))
          | ((with_reducible show wpAny _ _ (call (Value.ref _) _) _ _ _); first
            | (refine has_use (by k_asm) (by k_asm) (by k_asm) (by k_asm) (by k_asm) (by first | exact rfl | assumption) (by assumption) (by assumption) (by assumption) (by assumption) (by assumption) ?_; intro h9 t9 g9 F9 N9 G9)
            | (refine get_use (by k_asm) (by k_asm) (by k_asm) (by k_asm) (by k_asm) (by first | exact rfl | assumption) (by assumption) (by assumption) (by assumption) (by assumption) (by assumption) (by assumption) (by assumption) ?_; intro a9 tf9 tl9 h9 t9 g9 m9 kf9 kl9 F9 N9 G9)
            | (refine on_use (by first | with_reducible exact ofs_K | with_reducible exact ofs_S | with_reducible exact ofs_B | with_reducible exact ofs_C | exact rfl) (by exact rfl) (by k_asm) (by k_asm) (by k_asm) (by k_asm) (by k_asm) (by first | exact rfl | assumption) (by assumption) (by assumption) (by assumption) (by assumption) (by first | assumption | exact wf_leaf (by decide)) (by assumption) (by first | assumption | exact known_leaf | solve_by_elim) (by first | assumption | solve_by_elim) (by ((try simp only [size_app, size_leaf]); omega)) (by omega) ?_; intro tk9 n9 kvs9 h9 t9 g9 F9 N9 G9 x9 S9 kn9 mo9 le9 wf9)
            | (refine w_use (by assumption) (by k_asm) (by k_asm) (by k_asm) (by k_asm) (by k_asm) (by first | exact rfl | assumption) (by assumption) (by assumption) (by assumption) (by assumption) (by assumption) (by first | assumption | solve_by_elim) (by omega) (by omega) ?_; intro tk9 n9 kvs9 h9 t9 g9 F9 N9 G9 x9 S9 kn9 mo9 le9 wf9 sz9))
          | ((with_reducible show wpAny _ _ (compareOp CmpOp.Eq (Value.str _ _) (Value.str _ _)) _ _ _); refine eq_b _ (by first | assumption | exact str_beq _) ?_; (try k_fold))
          | (walk1; (try k_fold)) | (dsimp only; walk1; (try k_fold)) | (leave1; (try dsimp only)) | fail "no step")
        exact ⟨_, _, _, rfl, by assumption, by assumption, by assumption, rfl⟩
      | true =>
        rw [hil] at hlb
        cases hfx : f.has x with
        | false =>
          have hw : without x true m (.app f l) = f := without_K hb (by rw [hil, hfx]; rfl)
          simp only [WPost, hw, size_app] at hret
          repeat' (first
            | (k_unfold; (try dsimp only))
            | ((with_reducible show wpAny _ _ (execs (_ :: _) _) _ _ _); refine wpAny_execs_cons ?_; (try dsimp only); (try k_fold); (try (refine fold_fn (by k_asm) (by k_asm) ?_; intro led9 fm9 F9 N9)))
            | ((with_reducible show wpAny _ _ (eval (PySem.Expr.Call (PySem.Expr.Name _ _) (_ :: _) [] _) _) _ _ _); refine call_args (by k_asm) (by k_asm) (by k_asm) (by k_is) (by rfl) (by rfl) (by k_is) (by rfl) (by (repeat' first | exact ArgsEv.nil | refine' ArgsEv.name (by rfl) (by rfl) (by rfl) ?_ | refine' ArgsEv.str ?_); first | done | fail "open") (by rfl) ?_; (try k_fold))
            | ((with_reducible show wpAny _ _ (call (Value.ref _) _) _ _ _); first
              | (refine has_use (by k_asm) (by k_asm) (by k_asm) (by k_asm) (by k_asm) (by first | exact rfl | assumption) (by assumption) (by assumption) (by assumption) (by assumption) (by assumption) ?_; intro h9 t9 g9 F9 N9 G9)
              | (refine get_use (by k_asm) (by k_asm) (by k_asm) (by k_asm) (by k_asm) (by first | exact rfl | assumption) (by assumption) (by assumption) (by assumption) (by assumption) (by assumption) (by assumption) (by assumption) ?_; intro a9 tf9 tl9 h9 t9 g9 m9 kf9 kl9 F9 N9 G9)
              | (refine on_use (by first | with_reducible exact ofs_K | with_reducible exact ofs_S | with_reducible exact ofs_B | with_reducible exact ofs_C | exact rfl) (by exact rfl) (by k_asm) (by k_asm) (by k_asm) (by k_asm) (by k_asm) (by first | exact rfl | assumption) (by assumption) (by assumption) (by assumption) (by assumption) (by first | assumption | exact wf_leaf (by decide)) (by assumption) (by first | assumption | exact known_leaf | solve_by_elim) (by first | assumption | solve_by_elim) (by ((try simp only [size_app, size_leaf]); omega)) (by omega) ?_; intro tk9 n9 kvs9 h9 t9 g9 F9 N9 G9 x9 S9 kn9 mo9 le9 wf9)
              | (refine w_use (by assumption) (by k_asm) (by k_asm) (by k_asm) (by k_asm) (by k_asm) (by first | exact rfl | assumption) (by assumption) (by assumption) (by assumption) (by assumption) (by assumption) (by first | assumption | solve_by_elim) (by omega) (by omega) ?_; intro tk9 n9 kvs9 h9 t9 g9 F9 N9 G9 x9 S9 kn9 mo9 le9 wf9 sz9))
            | ((with_reducible show wpAny _ _ (compareOp CmpOp.Eq (Value.str _ _) (Value.str _ _)) _ _ _); refine eq_b _ (by first | assumption | exact str_beq _) ?_; (try k_fold))
            | (walk1; (try k_fold)) | (dsimp only; walk1; (try k_fold)) | (leave1; (try dsimp only)) | fail "no step")
          refine hret _ _ _ _ _ (by assumption) (by assumption) (by assumption) ⟨⟨_, rfl⟩, Ext.refl, _, by assumption, by assumption, fun _ h => h, by omega, by assumption, by omega⟩
        | true =>
          repeat' (first
            | (k_unfold; (try dsimp only))
            | ((with_reducible show wpAny _ _ (execs (_ :: _) _) _ _ _); refine wpAny_execs_cons ?_; (try dsimp only); (try k_fold); (try (refine fold_fn (by k_asm) (by k_asm) ?_; intro led9 fm9 F9 N9)))
            | ((with_reducible show wpAny _ _ (eval (PySem.Expr.Call (PySem.Expr.Name _ _) (_ :: _) [] _) _) _ _ _); refine call_args (by k_asm) (by k_asm) (by k_asm) (by k_is) (by rfl) (by rfl) (by k_is) (by rfl) (by (repeat' first | exact ArgsEv.nil | refine' ArgsEv.name (by rfl) (by rfl) (by rfl) ?_ | refine' ArgsEv.str ?_); first | done | fail "open") (by rfl) ?_; (try k_fold))
            | ((with_reducible show wpAny _ _ (call (Value.ref _) _) _ _ _); first
              | (refine has_use (by k_asm) (by k_asm) (by k_asm) (by k_asm) (by k_asm) (by first | exact rfl | assumption) (by assumption) (by assumption) (by assumption) (by assumption) (by assumption) ?_; intro h9 t9 g9 F9 N9 G9)
              | (refine get_use (by k_asm) (by k_asm) (by k_asm) (by k_asm) (by k_asm) (by first | exact rfl | assumption) (by assumption) (by assumption) (by assumption) (by assumption) (by assumption) (by assumption) (by assumption) ?_; intro a9 tf9 tl9 h9 t9 g9 m9 kf9 kl9 F9 N9 G9)
              | (refine on_use (by first | with_reducible exact ofs_K | with_reducible exact ofs_S | with_reducible exact ofs_B | with_reducible exact ofs_C | exact rfl) (by exact rfl) (by k_asm) (by k_asm) (by k_asm) (by k_asm) (by k_asm) (by first | exact rfl | assumption) (by assumption) (by assumption) (by assumption) (by assumption) (by first | assumption | exact wf_leaf (by decide)) (by assumption) (by first | assumption | exact known_leaf | solve_by_elim) (by first | assumption | solve_by_elim) (by ((try simp only [size_app, size_leaf]); omega)) (by omega) ?_; intro tk9 n9 kvs9 h9 t9 g9 F9 N9 G9 x9 S9 kn9 mo9 le9 wf9)
              | (refine w_use (by assumption) (by k_asm) (by k_asm) (by k_asm) (by k_asm) (by k_asm) (by first | exact rfl | assumption) (by assumption) (by assumption) (by assumption) (by assumption) (by assumption) (by first | assumption | solve_by_elim) (by omega) (by omega) ?_; intro tk9 n9 kvs9 h9 t9 g9 F9 N9 G9 x9 S9 kn9 mo9 le9 wf9 sz9))
            | ((with_reducible show wpAny _ _ (compareOp CmpOp.Eq (Value.str _ _) (Value.str _ _)) _ _ _); refine eq_b _ (by first | assumption | exact str_beq _) ?_; (try k_fold))
            | (walk1; (try k_fold)) | (dsimp only; walk1; (try k_fold)) | (leave1; (try dsimp only)) | fail "no step")
          exact ⟨_, _, _, rfl, by assumption, by assumption, by assumption, rfl⟩
  intro h1 g1 k1 F1 N1 G1 c1
  refine seg_if ((m && !f.has x) = false) F1 N1 ?_ ?_
  · cases m with
    | false =>
      repeat' (first
        | (k_unfold; (try dsimp only))
        | ((with_reducible show wpAny _ _ (execs (_ :: _) _) _ _ _); refine wpAny_execs_cons ?_; (try dsimp only); (try k_fold); (try (refine fold_fn (by k_asm) (by k_asm) ?_; intro led9 fm9 F9 N9)))
        | ((with_reducible show wpAny _ _ (eval (PySem.Expr.Call (PySem.Expr.Name _ _) (_ :: _) [] _) _) _ _ _); refine call_args (by k_asm) (by k_asm) (by k_asm) (by k_is) (by rfl) (by rfl) (by k_is) (by rfl) (by (repeat' first | exact ArgsEv.nil | refine' ArgsEv.name (by rfl) (by rfl) (by rfl) ?_ | refine' ArgsEv.str ?_); first | done | fail "open") (by rfl) ?_; (try k_fold))
        | ((with_reducible show wpAny _ _ (call (Value.ref _) _) _ _ _); first
          | (refine has_use (by k_asm) (by k_asm) (by k_asm) (by k_asm) (by k_asm) (by first | exact rfl | assumption) (by assumption) (by assumption) (by assumption) (by assumption) (by assumption) ?_; intro h9 t9 g9 F9 N9 G9)
          | (refine get_use (by k_asm) (by k_asm) (by k_asm) (by k_asm) (by k_asm) (by first | exact rfl | assumption) (by assumption) (by assumption) (by assumption) (by assumption) (by assumption) (by assumption) (by assumption) ?_; intro a9 tf9 tl9 h9 t9 g9 m9 kf9 kl9 F9 N9 G9)
          | (refine on_use (by first | with_reducible exact ofs_K | with_reducible exact ofs_S | with_reducible exact ofs_B | with_reducible exact ofs_C | exact rfl) (by exact rfl) (by k_asm) (by k_asm) (by k_asm) (by k_asm) (by k_asm) (by first | exact rfl | assumption) (by assumption) (by assumption) (by assumption) (by assumption) (by first | assumption | exact wf_leaf (by decide)) (by assumption) (by first | assumption | exact known_leaf | solve_by_elim) (by first | assumption | solve_by_elim) (by ((try simp only [size_app, size_leaf]); omega)) (by omega) ?_; intro tk9 n9 kvs9 h9 t9 g9 F9 N9 G9 x9 S9 kn9 mo9 le9 wf9)
          | (refine w_use (by assumption) (by k_asm) (by k_asm) (by k_asm) (by k_asm) (by k_asm) (by first | exact rfl | assumption) (by assumption) (by assumption) (by assumption) (by assumption) (by assumption) (by first | assumption | solve_by_elim) (by omega) (by omega) ?_; intro tk9 n9 kvs9 h9 t9 g9 F9 N9 G9 x9 S9 kn9 mo9 le9 wf9 sz9))
        | ((with_reducible show wpAny _ _ (compareOp CmpOp.Eq (Value.str _ _) (Value.str _ _)) _ _ _); refine eq_b _ (by first | assumption | exact str_beq _) ?_; (try k_fold))
        | (walk1; (try k_fold)) | (dsimp only; walk1; (try k_fold)) | (leave1; (try dsimp only)) | fail "no step")
      exact ⟨_, _, _, rfl, by assumption, by assumption, by assumption, rfl⟩
    | true =>
      cases hfx : f.has x with
      | true =>
        repeat' (first
          | (k_unfold; (try dsimp only))
          | ((with_reducible show wpAny _ _ (execs (_ :: _) _) _ _ _); refine wpAny_execs_cons ?_; (try dsimp only); (try k_fold); (try (refine fold_fn (by k_asm) (by k_asm) ?_; intro led9 fm9 F9 N9)))
          | ((with_reducible show wpAny _ _ (eval (PySem.Expr.Call (PySem.Expr.Name _ _) (_ :: _) [] _) _) _ _ _); refine call_args (by k_asm) (by k_asm) (by k_asm) (by k_is) (by rfl) (by rfl) (by k_is) (by rfl) (by (repeat' first | exact ArgsEv.nil | refine' ArgsEv.name (by rfl) (by rfl) (by rfl) ?_ | refine' ArgsEv.str ?_); first | done | fail "open") (by rfl) ?_; (try k_fold))
          | ((with_reducible show wpAny _ _ (call (Value.ref _) _) _ _ _); first
            | (refine has_use (by k_asm) (by k_asm) (by k_asm) (by k_asm) (by k_asm) (by first | exact rfl | assumption) (by assumption) (by assumption) (by assumption) (by assumption) (by assumption) ?_; intro h9 t9 g9 F9 N9 G9)
            | (refine get_use (by k_asm) (by k_asm) (by k_asm) (by k_asm) (by k_asm) (by first | exact rfl | assumption) (by assumption) (by assumption) (by assumption) (by assumption) (by assumption) (by assumption) (by assumption) ?_; intro a9 tf9 tl9 h9 t9 g9 m9 kf9 kl9 F9 N9 G9)
            | (refine on_use (by first | with_reducible exact ofs_K | with_reducible exact ofs_S | with_reducible exact ofs_B | with_reducible exact ofs_C | exact rfl) (by exact rfl) (by k_asm) (by k_asm) (by k_asm) (by k_asm) (by k_asm) (by first | exact rfl | assumption) (by assumption) (by assumption) (by assumption) (by assumption) (by first | assumption | exact wf_leaf (by decide)) (by assumption) (by first | assumption | exact known_leaf | solve_by_elim) (by first | assumption | solve_by_elim) (by ((try simp only [size_app, size_leaf]); omega)) (by omega) ?_; intro tk9 n9 kvs9 h9 t9 g9 F9 N9 G9 x9 S9 kn9 mo9 le9 wf9)
            | (refine w_use (by assumption) (by k_asm) (by k_asm) (by k_asm) (by k_asm) (by k_asm) (by first | exact rfl | assumption) (by assumption) (by assumption) (by assumption) (by assumption) (by assumption) (by first | assumption | solve_by_elim) (by omega) (by omega) ?_; intro tk9 n9 kvs9 h9 t9 g9 F9 N9 G9 x9 S9 kn9 mo9 le9 wf9 sz9))
          | ((with_reducible show wpAny _ _ (compareOp CmpOp.Eq (Value.str _ _) (Value.str _ _)) _ _ _); refine eq_b _ (by first | assumption | exact str_beq _) ?_; (try k_fold))
          | (walk1; (try k_fold)) | (dsimp only; walk1; (try k_fold)) | (leave1; (try dsimp only)) | fail "no step")
        exact ⟨_, _, _, rfl, by assumption, by assumption, by assumption, rfl⟩
      | false =>
        have hw := without_B (m := true) hb c1 (by rw [hfx]; rfl)
        simp only [WPost, hw, size_app] at hret
        repeat' (first
          | (k_unfold; (try dsimp only))
          | ((with_reducible show wpAny _ _ (execs (_ :: _) _) _ _ _); refine wpAny_execs_cons ?_; (try dsimp only); (try k_fold); (try (refine fold_fn (by k_asm) (by k_asm) ?_; intro led9 fm9 F9 N9)))
          | ((with_reducible show wpAny _ _ (eval (PySem.Expr.Call (PySem.Expr.Name _ _) (_ :: _) [] _) _) _ _ _); refine call_args (by k_asm) (by k_asm) (by k_asm) (by k_is) (by rfl) (by rfl) (by k_is) (by rfl) (by (repeat' first | exact ArgsEv.nil | refine' ArgsEv.name (by rfl) (by rfl) (by rfl) ?_ | refine' ArgsEv.str ?_); first | done | fail "open") (by rfl) ?_; (try k_fold))
          | ((with_reducible show wpAny _ _ (call (Value.ref _) _) _ _ _); first
            | (refine has_use (by k_asm) (by k_asm) (by k_asm) (by k_asm) (by k_asm) (by first | exact rfl | assumption) (by assumption) (by assumption) (by assumption) (by assumption) (by assumption) ?_; intro h9 t9 g9 F9 N9 G9)
            | (refine get_use (by k_asm) (by k_asm) (by k_asm) (by k_asm) (by k_asm) (by first | exact rfl | assumption) (by assumption) (by assumption) (by assumption) (by assumption) (by assumption) (by assumption) (by assumption) ?_; intro a9 tf9 tl9 h9 t9 g9 m9 kf9 kl9 F9 N9 G9)
            | (refine on_use (by first | with_reducible exact ofs_K | with_reducible exact ofs_S | with_reducible exact ofs_B | with_reducible exact ofs_C | exact rfl) (by exact rfl) (by k_asm) (by k_asm) (by k_asm) (by k_asm) (by k_asm) (by first | exact rfl | assumption) (by assumption) (by assumption) (by assumption) (by assumption) (by first | assumption | exact wf_leaf (by decide)) (by assumption) (by first | assumption | exact known_leaf | solve_by_elim) (by first | assumption | solve_by_elim) (by ((try simp only [size_app, size_leaf]); omega)) (by omega) ?_; intro tk9 n9 kvs9 h9 t9 g9 F9 N9 G9 x9 S9 kn9 mo9 le9 wf9)
            | (refine w_use (by assumption) (by k_asm) (by k_asm) (by k_asm) (by k_asm) (by k_asm) (by first | exact rfl | assumption) (by assumption) (by assumption) (by assumption) (by assumption) (by assumption) (by first | assumption | solve_by_elim) (by omega) (by omega) ?_; intro tk9 n9 kvs9 h9 t9 g9 F9 N9 G9 x9 S9 kn9 mo9 le9 wf9 sz9))
          | ((with_reducible show wpAny _ _ (compareOp CmpOp.Eq (Value.str _ _) (Value.str _ _)) _ _ _); refine eq_b _ (by first | assumption | exact str_beq _) ?_; (try k_fold))
          | (walk1; (try k_fold)) | (dsimp only; walk1; (try k_fold)) | (leave1; (try dsimp only)) | fail "no step")
        refine hret _ _ _ _ _ (by assumption) (by assumption) (by assumption) ⟨⟨_, rfl⟩, by first | assumption | (refine Ext.trans (by assumption) ?_; first | assumption | (refine Ext.trans (by assumption) ?_; first | assumption | (refine Ext.trans (by assumption) ?_; first | assumption | (refine Ext.trans (by assumption) ?_; assumption)))), _, by assumption, by assumption, fun _ h => by solve_by_elim, by omega, by assumption, by (simp only [size_leaf]; omega)⟩
  intro h2 g2 k2 F2 N2 G2 c2
  refine seg_if ((m && !l.has x) = false) F2 N2 ?_ ?_
  · cases m with
    | false =>
      repeat' (first
        | (k_unfold; (try dsimp only))
        | ((with_reducible show wpAny _ _ (execs (_ :: _) _) _ _ _); refine wpAny_execs_cons ?_; (try dsimp only); (try k_fold); (try (refine fold_fn (by k_asm) (by k_asm) ?_; intro led9 fm9 F9 N9)))
        | ((with_reducible show wpAny _ _ (eval (PySem.Expr.Call (PySem.Expr.Name _ _) (_ :: _) [] _) _) _ _ _); refine call_args (by k_asm) (by k_asm) (by k_asm) (by k_is) (by rfl) (by rfl) (by k_is) (by rfl) (by (repeat' first | exact ArgsEv.nil | refine' ArgsEv.name (by rfl) (by rfl) (by rfl) ?_ | refine' ArgsEv.str ?_); first | done | fail "open") (by rfl) ?_; (try k_fold))
        | ((with_reducible show wpAny _ _ (call (Value.ref _) _) _ _ _); first
          | (refine has_use (by k_asm) (by k_asm) (by k_asm) (by k_asm) (by k_asm) (by first | exact rfl | assumption) (by assumption) (by assumption) (by assumption) (by assumption) (by assumption) ?_; intro h9 t9 g9 F9 N9 G9)
          | (refine get_use (by k_asm) (by k_asm) (by k_asm) (by k_asm) (by k_asm) (by first | exact rfl | assumption) (by assumption) (by assumption) (by assumption) (by assumption) (by assumption) (by assumption) (by assumption) ?_; intro a9 tf9 tl9 h9 t9 g9 m9 kf9 kl9 F9 N9 G9)
          | (refine on_use (by first | with_reducible exact ofs_K | with_reducible exact ofs_S | with_reducible exact ofs_B | with_reducible exact ofs_C | exact rfl) (by exact rfl) (by k_asm) (by k_asm) (by k_asm) (by k_asm) (by k_asm) (by first | exact rfl | assumption) (by assumption) (by assumption) (by assumption) (by assumption) (by first | assumption | exact wf_leaf (by decide)) (by assumption) (by first | assumption | exact known_leaf | solve_by_elim) (by first | assumption | solve_by_elim) (by ((try simp only [size_app, size_leaf]); omega)) (by omega) ?_; intro tk9 n9 kvs9 h9 t9 g9 F9 N9 G9 x9 S9 kn9 mo9 le9 wf9)
          | (refine w_use (by assumption) (by k_asm) (by k_asm) (by k_asm) (by k_asm) (by k_asm) (by first | exact rfl | assumption) (by assumption) (by assumption) (by assumption) (by assumption) (by assumption) (by first | assumption | solve_by_elim) (by omega) (by omega) ?_; intro tk9 n9 kvs9 h9 t9 g9 F9 N9 G9 x9 S9 kn9 mo9 le9 wf9 sz9))
        | ((with_reducible show wpAny _ _ (compareOp CmpOp.Eq (Value.str _ _) (Value.str _ _)) _ _ _); refine eq_b _ (by first | assumption | exact str_beq _) ?_; (try k_fold))
        | (walk1; (try k_fold)) | (dsimp only; walk1; (try k_fold)) | (leave1; (try dsimp only)) | fail "no step")
      exact ⟨_, _, _, rfl, by assumption, by assumption, by assumption, rfl⟩
    | true =>
      cases hlx : l.has x with
      | true =>
        repeat' (first
          | (k_unfold; (try dsimp only))
          | ((with_reducible show wpAny _ _ (execs (_ :: _) _) _ _ _); refine wpAny_execs_cons ?_; (try dsimp only); (try k_fold); (try (refine fold_fn (by k_asm) (by k_asm) ?_; intro led9 fm9 F9 N9)))
          | ((with_reducible show wpAny _ _ (eval (PySem.Expr.Call (PySem.Expr.Name _ _) (_ :: _) [] _) _) _ _ _); refine call_args (by k_asm) (by k_asm) (by k_asm) (by k_is) (by rfl) (by rfl) (by k_is) (by rfl) (by (repeat' first | exact ArgsEv.nil | refine' ArgsEv.name (by rfl) (by rfl) (by rfl) ?_ | refine' ArgsEv.str ?_); first | done | fail "open") (by rfl) ?_; (try k_fold))
          | ((with_reducible show wpAny _ _ (call (Value.ref _) _) _ _ _); first
            | (refine has_use (by k_asm) (by k_asm) (by k_asm) (by k_asm) (by k_asm) (by first | exact rfl | assumption) (by assumption) (by assumption) (by assumption) (by assumption) (by assumption) ?_; intro h9 t9 g9 F9 N9 G9)
            | (refine get_use (by k_asm) (by k_asm) (by k_asm) (by k_asm) (by k_asm) (by first | exact rfl | assumption) (by assumption) (by assumption) (by assumption) (by assumption) (by assumption) (by assumption) (by assumption) ?_; intro a9 tf9 tl9 h9 t9 g9 m9 kf9 kl9 F9 N9 G9)
            | (refine on_use (by first | with_reducible exact ofs_K | with_reducible exact ofs_S | with_reducible exact ofs_B | with_reducible exact ofs_C | exact rfl) (by exact rfl) (by k_asm) (by k_asm) (by k_asm) (by k_asm) (by k_asm) (by first | exact rfl | assumption) (by assumption) (by assumption) (by assumption) (by assumption) (by first | assumption | exact wf_leaf (by decide)) (by assumption) (by first | assumption | exact known_leaf | solve_by_elim) (by first | assumption | solve_by_elim) (by ((try simp only [size_app, size_leaf]); omega)) (by omega) ?_; intro tk9 n9 kvs9 h9 t9 g9 F9 N9 G9 x9 S9 kn9 mo9 le9 wf9)
            | (refine w_use (by assumption) (by k_asm) (by k_asm) (by k_asm) (by k_asm) (by k_asm) (by first | exact rfl | assumption) (by assumption) (by assumption) (by assumption) (by assumption) (by assumption) (by first | assumption | solve_by_elim) (by omega) (by omega) ?_; intro tk9 n9 kvs9 h9 t9 g9 F9 N9 G9 x9 S9 kn9 mo9 le9 wf9 sz9))
          | ((with_reducible show wpAny _ _ (compareOp CmpOp.Eq (Value.str _ _) (Value.str _ _)) _ _ _); refine eq_b _ (by first | assumption | exact str_beq _) ?_; (try k_fold))
          | (walk1; (try k_fold)) | (dsimp only; walk1; (try k_fold)) | (leave1; (try dsimp only)) | fail "no step")
        exact ⟨_, _, _, rfl, by assumption, by assumption, by assumption, rfl⟩
      | false =>
        have hw := without_C (d := d) hb c2 (by rw [hlx]; rfl)
        simp only [WPost, hw, size_app] at hret
        repeat' (first
          | (k_unfold; (try dsimp only))
          | ((with_reducible show wpAny _ _ (execs (_ :: _) _) _ _ _); refine wpAny_execs_cons ?_; (try dsimp only); (try k_fold); (try (refine fold_fn (by k_asm) (by k_asm) ?_; intro led9 fm9 F9 N9)))
          | ((with_reducible show wpAny _ _ (eval (PySem.Expr.Call (PySem.Expr.Name _ _) (_ :: _) [] _) _) _ _ _); refine call_args (by k_asm) (by k_asm) (by k_asm) (by k_is) (by rfl) (by rfl) (by k_is) (by rfl) (by (repeat' first | exact ArgsEv.nil | refine' ArgsEv.name (by rfl) (by rfl) (by rfl) ?_ | refine' ArgsEv.str ?_); first | done | fail "open") (by rfl) ?_; (try k_fold))
          | ((with_reducible show wpAny _ _ (call (Value.ref _) _) _ _ _); first
            | (refine has_use (by k_asm) (by k_asm) (by k_asm) (by k_asm) (by k_asm) (by first | exact rfl | assumption) (by assumption) (by assumption) (by assumption) (by assumption) (by assumption) ?_; intro h9 t9 g9 F9 N9 G9)
            | (refine get_use (by k_asm) (by k_asm) (by k_asm) (by k_asm) (by k_asm) (by first | exact rfl | assumption) (by assumption) (by assumption) (by assumption) (by assumption) (by assumption) (by assumption) (by assumption) ?_; intro a9 tf9 tl9 h9 t9 g9 m9 kf9 kl9 F9 N9 G9)
            | (refine on_use (by first | with_reducible exact ofs_K | with_reducible exact ofs_S | with_reducible exact ofs_B | with_reducible exact ofs_C | exact rfl) (by exact rfl) (by k_asm) (by k_asm) (by k_asm) (by k_asm) (by k_asm) (by first | exact rfl | assumption) (by assumption) (by assumption) (by assumption) (by assumption) (by first | assumption | exact wf_leaf (by decide)) (by assumption) (by first | assumption | exact known_leaf | solve_by_elim) (by first | assumption | solve_by_elim) (by ((try simp only [size_app, size_leaf]); omega)) (by omega) ?_; intro tk9 n9 kvs9 h9 t9 g9 F9 N9 G9 x9 S9 kn9 mo9 le9 wf9)
            | (refine w_use (by assumption) (by k_asm) (by k_asm) (by k_asm) (by k_asm) (by k_asm) (by first | exact rfl | assumption) (by assumption) (by assumption) (by assumption) (by assumption) (by assumption) (by first | assumption | solve_by_elim) (by omega) (by omega) ?_; intro tk9 n9 kvs9 h9 t9 g9 F9 N9 G9 x9 S9 kn9 mo9 le9 wf9 sz9))
          | ((with_reducible show wpAny _ _ (compareOp CmpOp.Eq (Value.str _ _) (Value.str _ _)) _ _ _); refine eq_b _ (by first | assumption | exact str_beq _) ?_; (try k_fold))
          | (walk1; (try k_fold)) | (dsimp only; walk1; (try k_fold)) | (leave1; (try dsimp only)) | fail "no step")
        refine hret _ _ _ _ _ (by assumption) (by assumption) (by assumption) ⟨⟨_, rfl⟩, by first | assumption | (refine Ext.trans (by assumption) ?_; first | assumption | (refine Ext.trans (by assumption) ?_; first | assumption | (refine Ext.trans (by assumption) ?_; first | assumption | (refine Ext.trans (by assumption) ?_; assumption)))), _, by assumption, by assumption, fun _ h => by solve_by_elim, by omega, by assumption, by (simp only [size_leaf]; omega)⟩
  intro h3 g3 k3 F3 N3 G3 c3
  have hw := without_S hb c1 c2 c3
  simp only [WPost, hw, size_app] at hret
  repeat' (first
    | (k_unfold; (try dsimp only))
    | ((with_reducible show wpAny _ _ (execs (_ :: _) _) _ _ _); refine wpAny_execs_cons ?_; (try dsimp only); (try k_fold); (try (refine fold_fn (by k_asm) (by k_asm) ?_; intro led9 fm9 F9 N9)))
    | ((with_reducible show wpAny _ _ (eval (PySem.Expr.Call (PySem.Expr.Name _ _) (_ :: _) [] _) _) _ _ _); refine call_args (by k_asm) (by k_asm) (by k_asm) (by k_is) (by rfl) (by rfl) (by k_is) (by rfl) (by (repeat' first | exact ArgsEv.nil | refine' ArgsEv.name (by rfl) (by rfl) (by rfl) ?_ | refine' ArgsEv.str ?_); first | done | fail "open") (by rfl) ?_; (try k_fold))
    | ((with_reducible show wpAny _ _ (call (Value.ref _) _) _ _ _); first
      | (refine has_use (by k_asm) (by k_asm) (by k_asm) (by k_asm) (by k_asm) (by first | exact rfl | assumption) (by assumption) (by assumption) (by assumption) (by assumption) (by assumption) ?_; intro h9 t9 g9 F9 N9 G9)
      | (refine get_use (by k_asm) (by k_asm) (by k_asm) (by k_asm) (by k_asm) (by first | exact rfl | assumption) (by assumption) (by assumption) (by assumption) (by assumption) (by assumption) (by assumption) (by assumption) ?_; intro a9 tf9 tl9 h9 t9 g9 m9 kf9 kl9 F9 N9 G9)
      | (refine on_use (by first | with_reducible exact ofs_K | with_reducible exact ofs_S | with_reducible exact ofs_B | with_reducible exact ofs_C | exact rfl) (by exact rfl) (by k_asm) (by k_asm) (by k_asm) (by k_asm) (by k_asm) (by first | exact rfl | assumption) (by assumption) (by assumption) (by assumption) (by assumption) (by first | assumption | exact wf_leaf (by decide)) (by assumption) (by first | assumption | exact known_leaf | solve_by_elim) (by first | assumption | solve_by_elim) (by ((try simp only [size_app, size_leaf]); omega)) (by omega) ?_; intro tk9 n9 kvs9 h9 t9 g9 F9 N9 G9 x9 S9 kn9 mo9 le9 wf9)
      | (refine w_use (by assumption) (by k_asm) (by k_asm) (by k_asm) (by k_asm) (by k_asm) (by first | exact rfl | assumption) (by assumption) (by assumption) (by assumption) (by assumption) (by assumption) (by first | assumption | solve_by_elim) (by omega) (by omega) ?_; intro tk9 n9 kvs9 h9 t9 g9 F9 N9 G9 x9 S9 kn9 mo9 le9 wf9 sz9))
    | ((with_reducible show wpAny _ _ (compareOp CmpOp.Eq (Value.str _ _) (Value.str _ _)) _ _ _); refine eq_b _ (by first | assumption | exact str_beq _) ?_; (try k_fold))
    | (walk1; (try k_fold)) | (dsimp only; walk1; (try k_fold)) | (leave1; (try dsimp only)) | fail "no step")
  refine hret _ _ _ _ _ (by assumption) (by assumption) (by assumption) ⟨⟨_, rfl⟩, by first | assumption | (refine Ext.trans (by assumption) ?_; first | assumption | (refine Ext.trans (by assumption) ?_; first | assumption | (refine Ext.trans (by assumption) ?_; first | assumption | (refine Ext.trans (by assumption) ?_; assumption)))), _, by assumption, by assumption, fun _ h => by solve_by_elim, by omega, by assumption, by (simp only [size_leaf]; omega)⟩
theorem w_all {w : World} {P : Addr} {x : Nat} {d m : Bool} (hx : okc x) : ∀ t : Tm, wf t → WTel w P x d m t
  | .leaf c, hwf => by
    cases h : (Tm.leaf c).has x with
    | false => exact w_no hx h
    | true =>
      have e : c = x := Nat.eq_of_beq_eq_true h
      subst e
      exact w_leaf hx
  | .app f l, hwf => by
    cases hb : (Tm.app f l).has x with
    | false => exact w_no hx hb
    | true => exact w_app hx (w_all hx f hwf.1) (w_all hx l hwf.2) hb
end
section
open PySem PySem.W PyProof.Rows
open PySem.Calls PySem.Spec
set_option maxRecDepth 100000
set_option maxHeartbeats 8000000
noncomputable abbrev KH (w : World) : Frag := hd.heap_39 w.params
abbrev pileObj (dx : Addr) (items : List Value) (n : Nat) : Obj := { cls := .ref 118, dict := some dx, data := .seq items.toArray n }
abbrev sizeDict (h : Int) (tk ti : Tok) (n : Nat) : Obj := { cls := .type "dict", data := .dict #[⟨h, .str "_initial_size" tk, .int 3 ti⟩] n }
theorem k_sub (w : World) : mroIn (KH w) 118 (.type "list") = some true := by kernel_rfl
theorem k_ga (w : World) : findIn (KH w) (.ref 118) "__getattribute__" = some (some (.builtin "list.__getattribute__")) := by kernel_rfl
theorem canon_list_ga : Manifest.canonical "list.__getattribute__" = "object.__getattribute__" := by decide +kernel
theorem k_gat (w : World) : findIn (KH w) (.ref 118) "__getattr__" = some none := by kernel_rfl
theorem k_append (w : World) : findIn (KH w) (.ref 118) "append" = some (some (.builtin "list.append")) := by kernel_rfl
theorem t_append (w : World) : typeIn (KH w) (.builtin "list.append") = some (.type "method_descriptor") := by kernel_rfl

theorem check_meth {M : Model} {A : Around} {E : Value → Shared → Prop} {s : Shared} {i owner n : String} {self : Value} {rest : List Value} {kw : List (Str × Value)} {Q : Unit → Shared → Prop}
    (hk : builtinKind i = some .method) (hs : splitId i = some (owner, n)) (hi : Looks M s.heap (isInstance self (.type owner)) true) (ha : argsOk i ⟨self :: rest, kw⟩) (q : Q () s) :
    wpAny M A (checkBuiltinCall i ⟨self :: rest, kw⟩) Q E s := by
  simp only [checkBuiltinCall, hk, hs]
  refine wpAny_bind (hi.here ?_)
  simp only [Bool.not_true, Bool.false_eq_true, if_false]
  cases hsig : Manifest.signature? i with
  | none => exact wpAny_pure q
  | some sig =>
    simp only [argsOk, hsig] at ha
    have h2 : Bind.checkArgs i sig ⟨self :: rest, kw⟩ = pure () := ha
    show wpAny M A (Bind.checkArgs i sig ⟨self :: rest, kw⟩) Q E s
    rw [h2]; exact wpAny_pure q
section
variable {prog : Program} {w : World} {A : Around} {E : Value → Shared → Prop} {s : Shared} {h₀ : Heap} {L p dx : Addr} {m : Str → Option Value} {news : Led} {items : List Value} {n : Nat}
theorem pile_inst {hs : Int} {tk ti : Tok} {n2 : Nat} (N : News h₀ L s.heap news) (hp : (p, pileObj dx items n) ∈ news) (hdx : (dx, sizeDict hs tk ti n2) ∈ news) : InstAt s.heap p (pileObj dx items n) 118 (some (sizeDict hs tk ti n2)) :=
  ⟨(N _ hp).1, rfl, rfl, (N _ hdx).1⟩
theorem pile_is {ox : Obj} {od : Option Obj} (X : (KH w).In s.heap) (I : InstAt s.heap p ox 118 od) : Looks (model prog w) s.heap (isInstance (.ref p) (.type "list")) true :=
  I.type.andThen (looks_mroIn X (k_sub w))
theorem method_bi {pl : Sem Bool} {Q : Value × List Value → Shared → Prop} {x C : Addr} {ox : Obj} {od : Option Obj} {K : Frag} {name : Str} {f : Value} (X : K.In s.heap) (I : InstAt s.heap x ox C od) (hga : findIn K (.ref C) "__getattribute__" = some (some (.builtin "list.__getattribute__"))) (hk : findIn K (.ref C) "__getattr__" = some none)
    (hf : findIn K (.ref C) name = some (some f)) (ht : typeIn K f = some (.type "method_descriptor")) (hs : shadowIn od name = some false) (h : Q (f, [.ref x]) s) :
    wpAny (model prog w) A (getMethod (.ref x) name pl) Q E s := by
  have hcan := canon_list_ga
  unfold getMethod specialOf
  refine wpAny_bind (wpAny_bind (I.type.here ((looks_findIn X hga).here ?_)))
  dsimp only
  rw [hcan, if_neg (by decide)]
  refine wpAny_bind (wpAny_bind (I.type.here ((looks_findIn X hk).here ?_)))
  refine wpAny_bind (wpAny_bind (I.type.here ((looks_findIn X hf).here (wpAny_bind ((looks_typeIn X ht).here ?_)))))
  rw [if_neg (by decide +kernel)]
  refine wpAny_bind (wpAny_loadPart I.at_ ?_)
  have hd := I.dict
  cases e : ox.dict with
  | none => exact wpAny_bind (wpAny_rule (wpAny_pure h))
  | some dx =>
    cases od with
    | none => rw [e] at hd; exact hd.elim
    | some o =>
      rw [e] at hd
      obtain ⟨r, a, b⟩ := Option.map_eq_some_iff.mp hs
      refine wpAny_bind (wpAny_bind (wpAny_loadPart hd ?_))
      rw [nsLook_of a]
      refine wpAny_pure ?_
      rw [b]
      exact wpAny_bind (wpAny_rule (wpAny_pure h))
theorem seq_line (l : List Value) (n : Nat) (h : l.length ≤ sizeLine + 1) : (Data.seq l.toArray n).pastItsLine = none := by
  show (if l.toArray.size > sizeLine + 1 then _ else _) = _
  rw [if_neg (by rw [List.size_toArray]; omega)]
theorem entry_append : entryFor table "list.append" = some Builtin.«list.append» := entryFor_of_tree (by kernel_rfl)
theorem args_append (a b : Value) : argsOk "list.append" ⟨[a, b], []⟩ := by unfold argsOk; kernel_rfl
/-- an update of an object of the ledger -/
theorem upd_put {f : Obj → Obj} {a : Addr} {o o' : Obj} (F : Fr h₀ L s.heap m) (N : News h₀ L s.heap news) (ha : (a, o) ∈ news) (e : f o = o') (hf : o'.isFreed = false) :
    Fr h₀ L (s.heap.update a f) m ∧ News h₀ L (s.heap.update a f) (put news a o') ∧ (s.heap.update a f).get? a = some o' := by
  have hm := N _ ha
  have hs : Heap.SameBut a s.heap (s.heap.update a f) := Heap.SameBut.update ..
  have hg : (s.heap.update a f).get? a = some o' := by
    have := Heap.get?_update_self f hm.1 (by rw [e]; exact hf)
    rw [this, e]
  exact ⟨F.change hs hm.2.1 hm.2.2, news_put N ha hs hg, hg⟩
theorem append_pile {v : Value} {od : Option Obj} {Q : Value → Shared → Prop} (X : (KH w).In s.heap) (F : Fr h₀ L s.heap m) (N : News h₀ L s.heap news) (I : InstAt s.heap p (pileObj dx items n) 118 od) (hp : (p, pileObj dx items n) ∈ news) (hz : items.length < sizeLine)
    (h : ∀ h', Fr h₀ L h' m → News h₀ L h' (put news p (pileObj dx (items ++ [v]) (n + 1))) → Q .none { s with heap := h' }) :
    wpAny (model prog w) A (call (.builtin "list.append") [.ref p, v]) Q E s := by
  obtain ⟨F', N', hg⟩ := upd_put (f := Obj.mapSeq fun xs => xs.push v) (o' := pileObj dx (items ++ [v]) (n + 1)) F N hp (by
    show Obj.mapSeq _ (pileObj dx items n) = _
    simp [Obj.mapSeq]) rfl
  refine wpAny_call (codeAny_call_builtin (by decide +kernel) entry_append (check_meth (i := "list.append") (owner := "list") (n := "append") (by decide +kernel) (by decide +kernel) (pile_is X I) (args_append _ _) ?_))
  have ho := I.at_
  obtain ⟨hh, g, d, t, os⟩ := s
  repeat (any_goals (first | assumption | wp_step))
  rw [show (pileObj dx (items ++ [v]) (n + 1)).data.pastItsLine = none from seq_line _ _ (by rw [List.length_append]; simp only [List.length_cons, List.length_nil]; omega)]
  exact wpAny_pure (wpAny_pure (h _ F' N'))
end
end
section
open PySem PySem.W PyProof.Rows
open PySem.Calls PySem.Spec
set_option maxRecDepth 100000
set_option maxHeartbeats 8000000
theorem slot_md_get : Slot "method_descriptor" "__get__" "method_descriptor.__get__" :=
  .of (owner := "method_descriptor") (n := "__get__") (by rw [typeLookup_type, builtinLookup_eq_fast]; kernel_rfl) (by decide +kernel) (by decide +kernel) (by decide +kernel)
    (by first | exact .inl (by decide +kernel) | exact .inr (by decide +kernel)) (by rw [isSubtype_type]; kernel_rfl)
theorem entry_md_get : entryFor table "method_descriptor.__get__" = some Builtin.«method_descriptor.__get__» := entryFor_of_tree (by kernel_rfl)
theorem args_md_get (a b c : Value) : argsOk "method_descriptor.__get__" ⟨[a, b, c], []⟩ := by unfold argsOk; kernel_rfl
theorem ty_llen : typeOf (.builtin "list.__len__") = pure (.type "wrapper_descriptor") := by show builtinType _ = _; rw [builtinType_eq_fast]; kernel_rfl
theorem ty_linit : typeOf (.builtin "list.__init__") = pure (.type "wrapper_descriptor") := by show builtinType _ = _; rw [builtinType_eq_fast]; kernel_rfl
theorem ty_lpop : typeOf (.builtin "list.pop") = pure (.type "method_descriptor") := by show builtinType _ = _; rw [builtinType_eq_fast]; kernel_rfl
theorem own_llen : (".".intercalate ("list.__len__".cutAt '.').dropLast) = "list" := by decide +kernel
theorem own_linit : (".".intercalate ("list.__init__".cutAt '.').dropLast) = "list" := by decide +kernel
theorem own_lpop : (".".intercalate ("list.pop".cutAt '.').dropLast) = "list" := by decide +kernel
theorem told_pop : Manifest.toldItsClass.contains "list.pop" = false := by decide +kernel
section
variable {prog : Program} {w : World} {A : Around} {E : Value → Shared → Prop} {h : Heap} {g : Array GenState} {d : Drawn} {t : Nat} {os : OsState}
theorem wd_get_pile {id : String} {p : Addr} {C : Value} {Q : Value → Shared → Prop} (hty : typeOf (.builtin id) = pure (.type "wrapper_descriptor")) (how : (".".intercalate (id.cutAt '.').dropLast) = "list")
    (hi : Looks (model prog w) h (isInstance (.ref p) (.type "list")) true) (hC : (C == Value.none) = false)
    (hq : Q (.ref h.objs.size) ⟨h.push { cls := .type "method-wrapper", data := .fields #[.builtin id, .ref p] }, g, d, t, os⟩) :
    wpAny (model prog w) A (call (.builtin "wrapper_descriptor.__get__") [.builtin id, .ref p, C]) Q E ⟨h, g, d, t, os⟩ := by
  have hT5 : (⟨h, g, d, t, os⟩ : Shared).TypeIs (.builtin id) "wrapper_descriptor" := hty
  refine wpAny_call (codeAny_call_builtin slot_wd_get.plain entry_wd_get (slot_wd_get.check _ _ _ _ _ _ _ _ hT5 (args_wd_get _ _ _) ?_))
  unfold Builtin.«wrapper_descriptor.__get__»
  repeat (any_goals (first | ((fail_if_success (with_reducible show wpAny _ _ _ _ _ _)); assumption) | ((with_reducible show wpAny _ _ (isInstance _ _) _ _ _); rw [how]; refine hi.here ?_) | (with_reducible first | refine wpAny_pure ?_ | refine wpAny_bind ?_ | refine wpAny_holding ?_ | refine wpAny_standAt ?_ | refine wpAny_point ?_ | refine wpAny_rule ?_ | refine wpAny_letGo ?_ | refine wpAny_fresh' ?_ | refine wpAny_alloc' ?_ | refine wpAny_attempt ?_ | refine wpAny_throw ?_ | refine wpAny_of_eq (by assumption) ?_ | refine wpAny_typeOf (by assumption) ?_ | refine wpAny_specialOf_val (by assumption) (by assumption) ?_ | refine wpAny_specialOf (by assumption) (by assumption) ?_ | refine wpAny_isInstance_val (by assumption) (by assumption) ?_ | refine wpAny_isInstance (by assumption) (by assumption) ?_ | refine wpAny_call ?_ | refine wpAny_runValue ?_ | refine wpAny_run ?_) | ((with_reducible first | show wpAny _ _ (mkInt _) _ _ _ | show wpAny _ _ (mkStr _) _ _ _); wp_step) | wp_delta | ((with_reducible show wpAny _ _ (ite _ _ _) _ _ _); first | ((with_reducible refine wpAny_ite_false ?hc ?_); (case hc => rfl)) | ((with_reducible refine wpAny_ite_true ?hc ?_); (case hc => rfl)) | ((with_reducible refine wpAny_ite_false ?hc ?_); (case hc => simp [*]; done)) | ((with_reducible refine wpAny_ite_true ?hc ?_); (case hc => simp [*]; done))) | ((with_reducible first | refine wpAny_load' ?a ?_ | refine wpAny_loadPart' ?a ?_ | refine wpAny_update' ?a ?_ | refine wpAny_updatePart' ?a ?_); (case a => (heap_get; done))) | wp_step))
theorem md_get_pile {p : Addr} {C : Addr} {Q : Value → Shared → Prop} (htC : ∀ s' : Shared, s'.heap = h → Looks (model prog w) s'.heap (isType (.ref C)) true)
    (hi : Looks (model prog w) h (isInstance (.ref p) (.type "list")) true)
    (hq : Q (.ref h.objs.size) ⟨h.push { cls := .type "builtin_function_or_method", data := .fields #[.builtin "list.pop", .ref p] }, g, d, t, os⟩) :
    wpAny (model prog w) A (call (.builtin "method_descriptor.__get__") [.builtin "list.pop", .ref p, .ref C]) Q E ⟨h, g, d, t, os⟩ := by
  have hT5 : (⟨h, g, d, t, os⟩ : Shared).TypeIs (.builtin "list.pop") "method_descriptor" := ty_lpop
  have how := own_lpop
  have htold := told_pop
  refine wpAny_call (codeAny_call_builtin slot_md_get.plain entry_md_get (slot_md_get.check _ _ _ _ _ _ _ _ hT5 (args_md_get _ _ _) ?_))
  unfold Builtin.«method_descriptor.__get__»
  repeat (any_goals (first | ((fail_if_success (with_reducible show wpAny _ _ _ _ _ _)); assumption) | ((with_reducible show wpAny _ _ (isInstance _ _) _ _ _); rw [how]; refine hi.here ?_) | (with_reducible first | refine wpAny_pure ?_ | refine wpAny_bind ?_ | refine wpAny_holding ?_ | refine wpAny_standAt ?_ | refine wpAny_point ?_ | refine wpAny_rule ?_ | refine wpAny_letGo ?_ | refine wpAny_fresh' ?_ | refine wpAny_alloc' ?_ | refine wpAny_attempt ?_ | refine wpAny_throw ?_ | refine wpAny_of_eq (by assumption) ?_ | refine wpAny_typeOf (by assumption) ?_ | refine wpAny_specialOf_val (by assumption) (by assumption) ?_ | refine wpAny_specialOf (by assumption) (by assumption) ?_ | refine wpAny_isInstance_val (by assumption) (by assumption) ?_ | refine wpAny_isInstance (by assumption) (by assumption) ?_ | refine wpAny_call ?_ | refine wpAny_runValue ?_ | refine wpAny_run ?_) | ((with_reducible first | show wpAny _ _ (mkInt _) _ _ _ | show wpAny _ _ (mkStr _) _ _ _); wp_step) | wp_delta | ((with_reducible show wpAny _ _ (ite _ _ _) _ _ _); first | ((with_reducible refine wpAny_ite_false ?hc ?_); (case hc => rfl)) | ((with_reducible refine wpAny_ite_true ?hc ?_); (case hc => rfl)) | ((with_reducible refine wpAny_ite_false ?hc ?_); (case hc => simp [*]; done)) | ((with_reducible refine wpAny_ite_true ?hc ?_); (case hc => simp [*]; done))) | ((with_reducible first | refine wpAny_load' ?a ?_ | refine wpAny_loadPart' ?a ?_ | refine wpAny_update' ?a ?_ | refine wpAny_updatePart' ?a ?_); (case a => (heap_get; done))) | wp_step))
theorem sup_ga {so D x C : Addr} {id T gid bt : String} {l₀ l : List Value} {K : Frag} {name : Str} {tk : Tok} {Q : Fin → Shared → Prop}
    (hso : h.get? so = some { cls := .type "super", dict := none, data := .fields #[.ref D, .ref x, .ref C], slots := #[] }) (hno : Looks (model prog w) h (opaqueClassAbove (.ref C)) none)
    (hC : Looks (model prog w) h (mroOf (.ref C)) l₀) (hl : (l₀.dropWhile (· != .ref D)).drop 1 = l) (X : K.In h)
    (hf : alongIn K name l = some (some (.builtin id))) (hty : typeOf (.builtin id) = pure (.type T)) (hlk : typeLookup (.type T) "__get__" = pure (some (.builtin gid))) (hxC : x ≠ C) (hn : (name == ("__class__" : Str)) = false)
    (hcall : ∀ (A' : Around) (Q' : Value → Shared → Prop) (E' : Value → Shared → Prop), Q' (.ref h.objs.size) ⟨h.push { cls := .type bt, data := .fields #[.builtin id, .ref x] }, g, d, t, os⟩ → wpAny (model prog w) A' (call (.builtin gid) [.builtin id, .ref x, .ref C]) Q' E' ⟨h, g, d, t, os⟩)
    (hq : Q (.done (.ret (.ref h.objs.size))) ⟨h.push { cls := .type bt, data := .fields #[.builtin id, .ref x] }, g, d, t, os⟩) :
    wpAny (model prog w) A (Builtin.«super.__getattribute__» ⟨[.ref so, .str name tk], []⟩) Q E ⟨h, g, d, t, os⟩ := by
  have hne : (Value.ref x == Value.ref C) = false := by simp [hxC]
  have hTf : (⟨h, g, d, t, os⟩ : Shared).TypeIs (.builtin id) T := hty
  have hdt : ({ cls := .type "super", dict := none, data := .fields #[.ref D, .ref x, .ref C], slots := #[] } : Obj).data = .fields #[.ref D, .ref x, .ref C] := rfl
  have f0 : (#[.ref D, .ref x, .ref C] : Array Value)[0]? = some (.ref D) := rfl
  have f1 : (#[.ref D, .ref x, .ref C] : Array Value)[1]? = some (.ref x) := rfl
  have f2 : (#[.ref D, .ref x, .ref C] : Array Value)[2]? = some (.ref C) := rfl
  unfold Builtin.«super.__getattribute__»
  repeat (first
    | (with_reducible refine wpAny_field hso hdt f0 ?_) | (with_reducible refine wpAny_field hso hdt f1 ?_) | (with_reducible refine wpAny_field hso hdt f2 ?_)
    | (with_reducible refine ks_wpAny_notOpaque hno ?_)
    | (with_reducible refine Looks.at hC ?_; rw [hl])
    | (refine ks_forIn_along X (fun _ _ => rfl) rfl ?_ hf)
    | (with_reducible refine wpAny_typeOf hTf ?_)
    | ((with_reducible show wpAny _ _ (call (.builtin gid) _) _ _ _); refine hcall _ _ _ ?_)
    | (with_reducible refine ⟨_, rfl, ?_⟩)
    | (simp only [hn, hne, Bool.or_false, Bool.false_eq_true, if_false])
    | wp_step
    | dsimp only)
  all_goals exact hq
theorem sup_getMethod {so D x C : Addr} {id T gid bt : String} {l₀ l : List Value} {K : Frag} {name : Str} {pl : Sem Bool} {Q : Value × List Value → Shared → Prop}
    (hso : h.get? so = some { cls := .type "super", dict := none, data := .fields #[.ref D, .ref x, .ref C], slots := #[] }) (hno : Looks (model prog w) h (opaqueClassAbove (.ref C)) none)
    (hC : Looks (model prog w) h (mroOf (.ref C)) l₀) (hl : (l₀.dropWhile (· != .ref D)).drop 1 = l) (X : K.In h)
    (hf : alongIn K name l = some (some (.builtin id))) (hty : typeOf (.builtin id) = pure (.type T)) (hlk' : typeLookup (.type T) "__get__" = pure (some (.builtin gid))) (hxC : x ≠ C) (hn : (name == ("__class__" : Str)) = false)
    (hcall : ∀ (A' : Around) (Q' : Value → Shared → Prop) (E' : Value → Shared → Prop), Q' (.ref h.objs.size) ⟨h.push { cls := .type bt, data := .fields #[.builtin id, .ref x] }, g, d, t + 1, os⟩ → wpAny (model prog w) A' (call (.builtin gid) [.builtin id, .ref x, .ref C]) Q' E' ⟨h, g, d, t + 1, os⟩)
    (hq : Q (.ref h.objs.size, []) ⟨h.push { cls := .type bt, data := .fields #[.builtin id, .ref x] }, g, d, t + 1, os⟩) :
    wpAny (model prog w) A (getMethod (.ref so) name pl) Q E ⟨h, g, d, t, os⟩ := by
  have hlk := F.ks_slot_super_ga.lookup
  have hcan := F.ks_canon_super_ga
  have hT : ∀ t', (⟨h, g, d, t', os⟩ : Shared).TypeIs (.ref so) "super" := fun _ => ⟨_, hso, rfl⟩
  unfold getMethod
  refine wpAny_bind (wpAny_specialOf (hT _) hlk ?_)
  show wpAny _ _ (if (Manifest.canonical "super.__getattribute__" != "object.__getattribute__") = true then _ else _) _ _ _
  rw [if_pos hcan]
  unfold getAttr getAttrBy
  refine wpAny_bind (wpAny_bind (wpAny_mkText (wpAny_holding (wpAny_bind (wpAny_typeOf (hT _) (wpAny_bind (wpAny_of_eq hlk ?_)))))))
  show wpAny _ _ (getAttrByItsOwn (.ref so) (.str name t) (.type "super") (.builtin "super.__getattribute__") true false) _ _ _
  unfold getAttrByItsOwn hookBefore callGetattribute boundAndCalled
  refine wpAny_bind (wpAny_of_eq (show (if onTheHeap (.type "super") then typeLookup (.type "super") "__getattr__" else pure none) = pure none from rfl) ?_)
  refine wpAny_bind (wpAny_attempt (wpAny_holding ?_))
  show wpAny _ _ (bindSpecial (.builtin "super.__getattribute__") (.ref so) >>= _) _ _ _
  refine wpAny_bind (wpAny_of_eq (F.ks_slot_super_ga.bind _) ?_)
  refine wpAny_mono (Q := fun v s' => v = .ref h.objs.size ∧ s' = ⟨h.push { cls := .type bt, data := .fields #[.builtin id, .ref x] }, g, d, t + 1, os⟩) (E := fun _ _ => False)
    (wpAny_call_entry F.ks_slot_super_ga (hT _) F.ks_entry_super_ga (sup_ga hso hno hC hl X hf hty hlk' hxC hn hcall ⟨_, rfl, rfl, rfl⟩) (F.ks_gaArgs_super _ _)) (fun v s' hv => ?_) fun _ _ z => z.elim
  obtain ⟨rfl, rfl⟩ := hv
  exact wpAny_pure (wpAny_pure hq)
end
end
section
open PySem PySem.W PyProof.Rows
open PySem.Calls PySem.Spec
set_option maxRecDepth 100000
set_option maxHeartbeats 8000000
theorem cbc_len (p : Addr) : checkBoundCall "list.__len__" ⟨[.ref p], []⟩ = pure () := by kernel_rfl
theorem cbc_init (p : Addr) : checkBoundCall "list.__init__" ⟨[.ref p], []⟩ = pure () := by kernel_rfl
theorem entry_llen : entryFor table "list.__len__" = some Builtin.«list.__len__» := entryFor_of_tree (by kernel_rfl)
theorem entry_linit : entryFor table "list.__init__" = some Builtin.«list.__init__» := entryFor_of_tree (by kernel_rfl)
theorem entry_lpop : entryFor table "list.pop" = some Builtin.«list.pop» := entryFor_of_tree (by kernel_rfl)
theorem k_mod (w : World) : mroIn (KH w) 118 (.type "module") = some false := by kernel_rfl
theorem k_typ (w : World) : mroIn (KH w) 118 (.type "type") = some false := by kernel_rfl
theorem sig_pop : Manifest.signature? "list.pop" = some ⟨.positional, "list.pop", "pop", .self, [⟨"index", .posOnly, false⟩]⟩ := by kernel_rfl
theorem kind_pop : builtinKind "list.pop" = some .method := by decide +kernel
theorem va_pop : Manifest.varargsMethods.contains "list.pop" = false := by decide +kernel
theorem k_qual (w : World) : (clsIn (KH w) 118).map (fun cd => cd.qualname.toString) = some "_Accumulator" := by kernel_rfl
theorem chk_pop (p : Addr) : Bind.checkArgs "list.pop" ⟨.positional, "_Accumulator.pop", "pop", .self, [⟨"index", .posOnly, false⟩]⟩ ⟨[.ref p], []⟩ = pure () := by kernel_rfl
theorem full_pop : (toString "_Accumulator" ++ toString "." ++ toString (Bind.lastOf "list.pop") : String) = "_Accumulator.pop" := by decide +kernel
theorem k_cls (w : World) : typeIn (KH w) (.ref 118) = some (.type "type") := by kernel_rfl
theorem mapSeq_erase (items : List Value) (v : Value) (dx : Addr) (n : Nat) : Obj.mapSeq (fun x_1 => x_1.eraseIdxIfInBounds items.length) (pileObj dx (items ++ [v]) n) = pileObj dx items (n + 1) := by
  have e : (items ++ [v]).toArray.eraseIdxIfInBounds items.length = items.toArray := by
    rw [List.eraseIdxIfInBounds_toArray]
    congr 1
    rw [List.eraseIdx_append_of_length_le (Nat.le_refl _)]
    simp
  show (let size := (items ++ [v]).toArray.size; let ys := (items ++ [v]).toArray.eraseIdxIfInBounds items.length; (⟨.ref 118, some dx, .seq ys (if ys.size == size then n else n + 1), #[]⟩ : Obj)) = _
  simp only [e]
  have h2 : (items.toArray.size == (items ++ [v]).toArray.size) = false := by simp
  rw [h2]
  rfl
section
variable {prog : Program} {w : World} {A : Around} {E : Value → Shared → Prop} {s : Shared} {h₀ : Heap} {L p q dx : Addr} {m : Str → Option Value} {news : Led} {items : List Value} {n : Nat}
theorem bound_slot {id : String} {R : Result → Shared → Prop} (hq : s.heap.get? q = some { cls := .type "method-wrapper", data := .fields #[.builtin id, .ref p] }) (hc : checkBoundCall id ⟨[.ref p], []⟩ = pure ()) (hquiet : (Code.builtin id ⟨[.ref p], []⟩).quiet = true)
    (h : codeAny (model prog w) A (.builtin id ⟨[.ref p], []⟩) R s) : codeAny (model prog w) A (.call (.ref q) ⟨[], []⟩) R s := by
  refine codeAny_of_tree ?_
  show wpAny _ _ (callAny (.ref q) _) _ _ _
  obtain ⟨hh, g, dr, t, os⟩ := s
  dsimp only at hq
  refine nd_load hq ?_
  show wpAny _ _ (do checkBoundCall id ⟨[.ref p], []⟩; again (.builtin id ⟨[.ref p], []⟩)) _ _ _
  rw [hc]
  exact wpAny_bind (wpAny_pure (wpAny_pure ⟨hquiet, h⟩))
theorem llen_call {Q : Value → Shared → Prop} (hq : s.heap.get? q = some { cls := .type "method-wrapper", data := .fields #[.builtin "list.__len__", .ref p] }) (hp : s.heap.get? p = some (pileObj dx items n))
    (h : Q (.int items.length s.toks) { s with toks := s.toks + 1 }) : wpAny (model prog w) A (call (.ref q) []) Q E s := by
  refine wpAny_call (bound_slot hq (cbc_len p) (Code.quiet_builtin _ (by decide +kernel)) (codeAny_builtin entry_llen ?_))
  unfold Builtin.«list.__len__»
  have hsz : items.toArray.size = items.length := List.size_toArray
  obtain ⟨hh, g, dr, t, os⟩ := s
  repeat (any_goals (first | ((fail_if_success (with_reducible show wpAny _ _ _ _ _ _)); assumption) | (with_reducible first | refine wpAny_pure ?_ | refine wpAny_bind ?_ | refine wpAny_holding ?_ | refine wpAny_standAt ?_ | refine wpAny_point ?_ | refine wpAny_rule ?_ | refine wpAny_letGo ?_ | refine wpAny_fresh' ?_ | refine wpAny_alloc' ?_ | refine wpAny_attempt ?_ | refine wpAny_throw ?_ | refine wpAny_of_eq (by assumption) ?_ | refine wpAny_typeOf (by assumption) ?_ | refine wpAny_specialOf_val (by assumption) (by assumption) ?_ | refine wpAny_specialOf (by assumption) (by assumption) ?_ | refine wpAny_isInstance_val (by assumption) (by assumption) ?_ | refine wpAny_isInstance (by assumption) (by assumption) ?_ | refine wpAny_call ?_ | refine wpAny_runValue ?_ | refine wpAny_run ?_) | ((with_reducible first | show wpAny _ _ (mkInt _) _ _ _ | show wpAny _ _ (mkStr _) _ _ _); wp_step) | wp_delta | ((with_reducible show wpAny _ _ (ite _ _ _) _ _ _); first | ((with_reducible refine wpAny_ite_false ?hc ?_); (case hc => rfl)) | ((with_reducible refine wpAny_ite_true ?hc ?_); (case hc => rfl)) | ((with_reducible refine wpAny_ite_false ?hc ?_); (case hc => simp [*]; done)) | ((with_reducible refine wpAny_ite_true ?hc ?_); (case hc => simp [*]; done))) | ((with_reducible first | refine wpAny_load' ?a ?_ | refine wpAny_loadPart' ?a ?_ | refine wpAny_update' ?a ?_ | refine wpAny_updatePart' ?a ?_); (case a => (heap_get; done))) | wp_step))
theorem linit_call {Q : Value → Shared → Prop} (F : Fr h₀ L s.heap m) (N : News h₀ L s.heap news) (hq : s.heap.get? q = some { cls := .type "method-wrapper", data := .fields #[.builtin "list.__init__", .ref p] }) (hp : (p, pileObj dx [] n) ∈ news)
    (h : ∀ h', Fr h₀ L h' m → News h₀ L h' (put news p (pileObj dx [] n)) → Q .none { s with heap := h' }) : wpAny (model prog w) A (call (.ref q) []) Q E s := by
  refine wpAny_call (bound_slot hq (cbc_init p) (Code.quiet_builtin _ (by decide +kernel)) (codeAny_builtin entry_linit ?_))
  unfold Builtin.«list.__init__»
  obtain ⟨F', N', hg⟩ := upd_put (f := Obj.mapSeq fun _ => #[]) (o' := pileObj dx [] n) F N hp rfl rfl
  have ho := (N _ hp).1
  obtain ⟨hh, g, dr, t, os⟩ := s
  repeat (any_goals (first | ((fail_if_success (with_reducible show wpAny _ _ _ _ _ _)); assumption) | (with_reducible first | refine wpAny_pure ?_ | refine wpAny_bind ?_ | refine wpAny_holding ?_ | refine wpAny_standAt ?_ | refine wpAny_point ?_ | refine wpAny_rule ?_ | refine wpAny_letGo ?_ | refine wpAny_fresh' ?_ | refine wpAny_alloc' ?_ | refine wpAny_attempt ?_ | refine wpAny_throw ?_ | refine wpAny_of_eq (by assumption) ?_ | refine wpAny_typeOf (by assumption) ?_ | refine wpAny_specialOf_val (by assumption) (by assumption) ?_ | refine wpAny_specialOf (by assumption) (by assumption) ?_ | refine wpAny_isInstance_val (by assumption) (by assumption) ?_ | refine wpAny_isInstance (by assumption) (by assumption) ?_ | refine wpAny_call ?_ | refine wpAny_runValue ?_ | refine wpAny_run ?_) | ((with_reducible first | show wpAny _ _ (mkInt _) _ _ _ | show wpAny _ _ (mkStr _) _ _ _); wp_step) | wp_delta | ((with_reducible show wpAny _ _ (ite _ _ _) _ _ _); first | ((with_reducible refine wpAny_ite_false ?hc ?_); (case hc => rfl)) | ((with_reducible refine wpAny_ite_true ?hc ?_); (case hc => rfl)) | ((with_reducible refine wpAny_ite_false ?hc ?_); (case hc => simp [*]; done)) | ((with_reducible refine wpAny_ite_true ?hc ?_); (case hc => simp [*]; done))) | ((with_reducible first | refine wpAny_load' ?a ?_ | refine wpAny_loadPart' ?a ?_ | refine wpAny_update' ?a ?_ | refine wpAny_updatePart' ?a ?_); (case a => (heap_get; done))) | wp_step))
  exact h _ F' N'
theorem lpop_call {Q : Value → Shared → Prop} {v : Value} (X : (KH w).In s.heap) (F : Fr h₀ L s.heap m) (N : News h₀ L s.heap news) (hq : s.heap.get? q = some { cls := .type "builtin_function_or_method", data := .fields #[.builtin "list.pop", .ref p] }) (hp : (p, pileObj dx (items ++ [v]) n) ∈ news)
    (hz : items.length ≤ sizeLine)
    (h : ∀ h', Fr h₀ L h' m → News h₀ L h' (put news p (pileObj dx items (n + 1))) → Q v { s with heap := h' }) : wpAny (model prog w) A (call (.ref q) []) Q E s := by
  refine wpAny_call (codeAny_of_tree ?_)
  show wpAny _ _ (callAny (.ref q) _) _ _ _
  have ho := (N _ hp).1
  have hiM : Looks (model prog w) s.heap (isInstance (.ref p) (.type "module")) false := ((Looks.ld ho).andThen .now).andThen (looks_mroIn X (k_mod w))
  have hiT : Looks (model prog w) s.heap (isInstance (.ref p) (.type "type")) false := ((Looks.ld ho).andThen .now).andThen (looks_mroIn X (k_typ w))
  have hc := looks_typeIn (M := model prog w) X (k_cls w)
  obtain ⟨F', N', hg⟩ := upd_put (f := Obj.mapSeq fun x_1 => x_1.eraseIdxIfInBounds items.length) (o' := pileObj dx items (n + 1)) F N hp (mapSeq_erase items v dx n) rfl
  obtain ⟨hh, g, dr, t, os⟩ := s
  dsimp only at hq
  refine nd_load hq ?_
  show wpAny _ _ (do checkBoundCall "list.pop" ⟨[.ref p], []⟩; again (.builtin "list.pop" ⟨[.ref p], []⟩)) _ _ _
  obtain ⟨cd, hcd, hqn⟩ := Option.map_eq_some_iff.mp (k_qual w)
  have L1 := looks_clsIn (M := model prog w) X hcd
  have f1 := sig_pop
  have f2 := kind_pop
  have f3 := va_pop
  have f4 := chk_pop p
  have f5 := full_pop
  dsimp only at L1 hc hiM ho
  refine wpAny_bind ?_
  unfold checkBoundCall
  simp only [f1, f2]
  refine wpAny_ite_false (by decide) ?_
  refine wpAny_bind (hiM.here ?_)
  rw [f3]
  refine wpAny_ite_false rfl ?_
  refine wpAny_bind ?_
  unfold isType loadHead
  refine wpAny_bind (wpAny_loadPart ho (wpAny_pure ?_))
  refine wpAny_ite_false (by rfl) ?_
  refine wpAny_bind (((Looks.ld ho).andThen .now : Looks (model prog w) hh (typeOf (.ref p)) (.ref 118)).here ?_)
  dsimp only
  refine wpAny_bind (L1.here (wpAny_bind (hc.here ?_)))
  refine wpAny_ite_true (by rfl) ?_
  rw [hqn, f5, f4]
  refine wpAny_pure (wpAny_pure ⟨Code.quiet_builtin _ (by decide +kernel), codeAny_builtin entry_lpop ?_⟩)
  unfold Builtin.«list.pop»
  have e1 : (items ++ [v]).toArray.isEmpty = false := by simp
  have e2 : (Builtin.List.listFitsIndex (-1)) = true := by decide
  repeat (any_goals (first | ((fail_if_success (with_reducible show wpAny _ _ _ _ _ _)); assumption) | (with_reducible first | refine wpAny_pure ?_ | refine wpAny_bind ?_ | refine wpAny_holding ?_ | refine wpAny_standAt ?_ | refine wpAny_point ?_ | refine wpAny_rule ?_ | refine wpAny_letGo ?_ | refine wpAny_fresh' ?_ | refine wpAny_alloc' ?_ | refine wpAny_attempt ?_ | refine wpAny_throw ?_ | refine wpAny_of_eq (by assumption) ?_ | refine wpAny_typeOf (by assumption) ?_ | refine wpAny_specialOf_val (by assumption) (by assumption) ?_ | refine wpAny_specialOf (by assumption) (by assumption) ?_ | refine wpAny_isInstance_val (by assumption) (by assumption) ?_ | refine wpAny_isInstance (by assumption) (by assumption) ?_ | refine wpAny_call ?_ | refine wpAny_runValue ?_ | refine wpAny_run ?_) | ((with_reducible first | show wpAny _ _ (mkInt _) _ _ _ | show wpAny _ _ (mkStr _) _ _ _); wp_step) | wp_delta | ((with_reducible show wpAny _ _ (ite _ _ _) _ _ _); first | ((with_reducible refine wpAny_ite_false ?hc ?_); (case hc => rfl)) | ((with_reducible refine wpAny_ite_true ?hc ?_); (case hc => rfl)) | ((with_reducible refine wpAny_ite_false ?hc ?_); (case hc => simp [*]; done)) | ((with_reducible refine wpAny_ite_true ?hc ?_); (case hc => simp [*]; done))) | ((with_reducible first | refine wpAny_load' ?a ?_ | refine wpAny_loadPart' ?a ?_ | refine wpAny_update' ?a ?_ | refine wpAny_updatePart' ?a ?_); (case a => (heap_get; done))) | wp_step))
  have e3 : ((seqIndex? (-1) (items ++ [v]).toArray.size).bind fun k => Option.map (fun x => (k, x)) (items ++ [v]).toArray[k]?) = some (items.length, v) := by
    have : (items ++ [v]).toArray.size = items.length + 1 := by simp
    rw [this]
    have h2 : seqIndex? (-1) (items.length + 1) = some items.length := by
      unfold seqIndex?
      simp only [show ((-1 : Int) < 0) from by decide, if_true]
      have : (-1 : Int) + ((items.length + 1 : Nat) : Int) = (items.length : Int) := by omega
      rw [this]
      simp
      omega
    rw [h2]
    simp
  rw [e3]
  dsimp only
  repeat (any_goals (first | ((fail_if_success (with_reducible show wpAny _ _ _ _ _ _)); assumption) | (with_reducible first | refine wpAny_pure ?_ | refine wpAny_bind ?_ | refine wpAny_holding ?_ | refine wpAny_standAt ?_ | refine wpAny_point ?_ | refine wpAny_rule ?_ | refine wpAny_letGo ?_ | refine wpAny_fresh' ?_ | refine wpAny_alloc' ?_ | refine wpAny_attempt ?_ | refine wpAny_throw ?_ | refine wpAny_of_eq (by assumption) ?_ | refine wpAny_typeOf (by assumption) ?_ | refine wpAny_specialOf_val (by assumption) (by assumption) ?_ | refine wpAny_specialOf (by assumption) (by assumption) ?_ | refine wpAny_isInstance_val (by assumption) (by assumption) ?_ | refine wpAny_isInstance (by assumption) (by assumption) ?_ | refine wpAny_call ?_ | refine wpAny_runValue ?_ | refine wpAny_run ?_) | ((with_reducible first | show wpAny _ _ (mkInt _) _ _ _ | show wpAny _ _ (mkStr _) _ _ _); wp_step) | wp_delta | ((with_reducible show wpAny _ _ (ite _ _ _) _ _ _); first | ((with_reducible refine wpAny_ite_false ?hc ?_); (case hc => rfl)) | ((with_reducible refine wpAny_ite_true ?hc ?_); (case hc => rfl)) | ((with_reducible refine wpAny_ite_false ?hc ?_); (case hc => simp [*]; done)) | ((with_reducible refine wpAny_ite_true ?hc ?_); (case hc => simp [*]; done))) | ((with_reducible first | refine wpAny_load' ?a ?_ | refine wpAny_loadPart' ?a ?_ | refine wpAny_update' ?a ?_ | refine wpAny_updatePart' ?a ?_); (case a => (heap_get; done))) | wp_step))
  rw [show (pileObj dx items (n + 1)).data.pastItsLine = none from seq_line _ _ (by omega)]
  exact wpAny_pure (wpAny_pure (h _ F' N'))
end
end
section
open PySem PySem.W PyProof.Rows
open PySem.Calls PySem.Spec
set_option maxRecDepth 100000
set_option maxHeartbeats 8000000
theorem k_getitem (w : World) : findIn (KH w) (.ref 118) "__getitem__" = some (some (.builtin "list.__getitem__")) := by kernel_rfl
theorem k_setitem (w : World) : findIn (KH w) (.ref 118) "__setitem__" = some (some (.builtin "list.__setitem__")) := by kernel_rfl
theorem k_deque (w : World) : mroIn (KH w) 118 (.type "collections.deque") = some false := by kernel_rfl
theorem pl_gi : plainId "list.__getitem__" = true := by decide +kernel
theorem pl_si : plainId "list.__setitem__" = true := by decide +kernel
theorem entry_gi : entryFor table "list.__getitem__" = some Builtin.«list.__getitem__» := entryFor_of_tree (by kernel_rfl)
theorem entry_si : entryFor table "list.__setitem__" = some Builtin.«list.__setitem__» := entryFor_of_tree (by kernel_rfl)
theorem args_gi (a b : Value) : argsOk "list.__getitem__" ⟨[a, b], []⟩ := by unfold argsOk; kernel_rfl
theorem args_si (a b c : Value) : argsOk "list.__setitem__" ⟨[a, b, c], []⟩ := by unfold argsOk; kernel_rfl
theorem kind_gi : builtinKind "list.__getitem__" = some .method := by decide +kernel
theorem kind_si : builtinKind "list.__setitem__" = some .slot := by decide +kernel
theorem split_gi : splitId "list.__getitem__" = some ("list", "__getitem__") := by decide +kernel
theorem split_si : splitId "list.__setitem__" = some ("list", "__setitem__") := by decide +kernel
section
variable {prog : Program} {w : World} {A : Around} {E : Value → Shared → Prop} {s : Shared} {h₀ : Heap} {L p q dx : Addr} {m : Str → Option Value} {news : Led} {items : List Value} {n : Nat}
theorem call_by {id : String} {b : Builtin} {args : List Value} {Q : Value → Shared → Prop} (hp : plainId id = true) (hb : entryFor table id = some b)
    (hk : ∀ (A' : Around) (Q' : Unit → Shared → Prop) (E' : Value → Shared → Prop), Q' () s → wpAny (model prog w) A' (checkBuiltinCall id ⟨args, []⟩) Q' E' s)
    (hc : wpAny (model prog w) A.in1 (b ⟨args, []⟩) (fun fin s' => ∃ v, fin = .done (.ret v) ∧ Q v s') E s) : wpAny (model prog w) A (call (.builtin id) args) Q E s := by
  refine wpAny_call (codeAny_call_builtin hp hb (hk _ _ _ ?_))
  exact wpAny_mono hc (fun fin s' h' => by obtain ⟨v, rfl, hv⟩ := h'; exact hv) fun _ _ h' => h'
theorem pile_special {ox : Obj} {od : Option Obj} {name : Str} {f : Option Value} {Q : Option Value → Shared → Prop} (X : (KH w).In s.heap) (I : InstAt s.heap p ox 118 od) (hf : findIn (KH w) (.ref 118) name = some f) (h : Q f s) :
    wpAny (model prog w) A (specialOf (.ref p) name) Q E s := by
  unfold specialOf
  exact wpAny_bind (I.type.here ((looks_findIn X hf).here h))
theorem pile_key {ox : Obj} {od : Option Obj} {k : Value} {name : Str} {Q : Value → Shared → Prop} (X : (KH w).In s.heap) (I : InstAt s.heap p ox 118 od) (h : Q k s) : wpAny (model prog w) A (sequenceKey (.ref p) k name) Q E s := by
  unfold sequenceKey
  refine wpAny_bind (I.type.here ?_)
  dsimp only
  unfold seqItemTypes
  have hL := looks_mroIn (M := model prog w) X (k_deque w)
  have hA : wpAny (model prog w) A (["collections.deque"].anyM fun n => isSubtype (.ref 118) (.type n)) (fun b s' => b = false ∧ s' = s) E s := by
    rw [List.anyM_cons]
    exact wpAny_bind (hL.here (wpAny_pure ⟨rfl, rfl⟩))
  refine wpAny_bind (wpAny_mono hA (fun b s' hb => ?_) fun _ _ z => z)
  obtain ⟨rfl, rfl⟩ := hb
  exact wpAny_pure h
theorem pile_getslice {od : Option Obj} {sl : Addr} {vl vu vs : Value} {lo hi st : Option Int} {Q : Value → Shared → Prop} (X : (KH w).In s.heap) (I : InstAt s.heap p (pileObj dx items n) 118 od)
    (hs : s.heap.IsSliceOf sl vl vu vs) (pl : IsPart vl lo) (pu : IsPart vu hi) (ps : IsPart vs st) (h0 : st ≠ some 0)
    (h : Q (.ref s.heap.objs.size) { s with heap := s.heap.push { cls := .type "list", data := .seq (slicePick items.toArray lo hi st) } })
    (hsz : items.length ≤ sizeLine) : wpAny (model prog w) A (getItem (.ref p) (.ref sl)) Q E s := by
  have hp := I.at_
  obtain ⟨os, hos, hcs, hds⟩ := id hs
  have hTs : s.TypeIs (.ref sl) "slice" := ⟨os, hos, hcs⟩
  unfold getItem
  try with_reducible refine wpAny_holding ?_
  refine wpAny_bind (pile_key X I ?_)
  unfold callSpecial?
  refine wpAny_bind (wpAny_bind (pile_special X I (k_getitem w) ?_))
  dsimp only
  try with_reducible refine wpAny_holding ?_
  rw [slot_list_getitem.bind]
  refine wpAny_bind (wpAny_pure (wpAny_bind ?_))
  show wpAny _ _ (call (.builtin "list.__getitem__") [.ref p, .ref sl]) _ _ _
  refine call_by (id := "list.__getitem__") (args := [.ref p, .ref sl]) (b := Builtin.«list.__getitem__») pl_gi entry_gi (fun _ _ _ hq => check_meth (i := "list.__getitem__") (owner := "list") (n := "__getitem__") (self := .ref p) (rest := [.ref sl]) (kw := []) kind_gi split_gi (pile_is X I) (args_gi _ _) hq) ?_
  show wpAny _ _ (Builtin.List.listSubscript? (.ref sl) >>= _) _ _ s
  refine wpAny_bind ?_
  unfold Builtin.List.listSubscript?
  refine wpAny_bind (wpAny_specialOf hTs slice_no_index ?_)
  simp only [Option.isNone_none, if_true]
  refine wpAny_pure ?_
  show wpAny _ _ (typeOf (.ref sl) >>= _) _ _ s
  refine wpAny_bind (wpAny_typeOf hTs ?_)
  rw [if_neg (by decide)]
  rw [listSliceParts_eq]
  have hstep : ¬ ((rawPart st == rawInt 0) = true) := by
    cases st with
    | none => exact Bool.false_ne_true
    | some c =>
      intro hh
      have : c = 0 := by simpa [rawPart, rawInt] using hh
      exact h0 (by rw [this])
  refine wpAny_bind (wpAny_bind (wpAny_field hos hds (x := vs) rfl (wpAny_bind (wpAny_listPart ps ?_))))
  rw [if_neg hstep]
  refine wpAny_bind (wpAny_field hos hds (x := vl) rfl (wpAny_bind (wpAny_listPart pl ?_)))
  refine wpAny_bind (wpAny_field hos hds (x := vu) rfl (wpAny_bind (wpAny_listPart pu (wpAny_pure ?_))))
  refine wpAny_bind (m := Builtin.List.listItems (.ref p)) ?_
  unfold Builtin.List.listItems
  refine wpAny_bind (wpAny_seqItems hp rfl (wpAny_pure ?_))
  refine wpAny_bind (wpAny_of_eq (sliceIndices_raw lo hi st items.toArray.size h0) ?_)
  refine wpAny_bind (wpAny_newObj_type (wpAny_pure ⟨_, rfl, wpAny_pure (wpAny_pure h)⟩) (Nat.le_trans (slicePick_size_le items.toArray lo hi st) (by rw [List.size_toArray]; exact hsz)))
theorem pile_tail {value : PySem.Expr} {l u : Option PySem.Expr} {pos : Pos} {ox : Obj} {od : Option Obj} {sl : Addr} {Q : Value → Shared → Prop} (X : (KH w).In s.heap) (I : InstAt s.heap p ox 118 od)
    (h : wpAny (model prog w) A (getItem (.ref p) (.ref sl)) Q E s) : wpAny (model prog w) A (subscriptTail value (.Slice l u none pos) (.ref p) (.ref sl)) Q E s := by
  unfold subscriptTail
  refine wpAny_bind ?_
  unfold getitemInPython
  refine wpAny_bind (pile_special X I (k_getitem w) ?_)
  refine wpAny_pure (wpAny_bind ?_)
  show wpAny _ _ (operate [.ref sl, .ref p] (getItem (.ref p) (.ref sl))) _ _ s
  refine wpAny_operating ?_
  refine wpAny_mono h (fun r s' hr => ?_) fun _ _ z => z
  exact wpAny_bind (wpAny_letTemporaryGo (wpAny_pure hr))
theorem pile_setslice {od : Option Obj} {sl l0 : Addr} {k : Nat} {tk : Tok} {Q : Unit → Shared → Prop} (X : (KH w).In s.heap) (F : Fr h₀ L s.heap m) (N : News h₀ L s.heap news) (hp : (p, pileObj dx items n) ∈ news) (I : InstAt s.heap p (pileObj dx items n) 118 od)
    (hs : s.heap.IsSliceOf sl (.int k tk) .none .none) (hl : s.heap.IsList l0 #[]) (hk : k ≤ items.length) (hne : l0 ≠ p)
    (hsz : items.length ≤ sizeLine)
    (h : ∀ h' n', Fr h₀ L h' m → News h₀ L h' (put news p (pileObj dx (items.take k) n')) → Q () { s with heap := h' }) : wpAny (model prog w) A (setItem (.ref p) (.ref sl) (.ref l0)) Q E s := by
  have hp' := I.at_
  obtain ⟨os, hos, hcs, hds⟩ := id hs
  obtain ⟨o, ho, hc, hn, hd⟩ := id hl
  have hTs : s.TypeIs (.ref sl) "slice" := ⟨os, hos, hcs⟩
  unfold setItem
  try with_reducible refine wpAny_holding ?_
  refine wpAny_bind (pile_key X I ?_)
  unfold callSpecial?
  refine wpAny_bind (wpAny_bind (pile_special X I (k_setitem w) ?_))
  dsimp only
  try with_reducible refine wpAny_holding ?_
  rw [slot_list_setitem.bind]
  refine wpAny_bind (wpAny_pure (wpAny_bind ?_))
  show wpAny _ _ (call (.builtin "list.__setitem__") [.ref p, .ref sl, .ref l0]) _ _ _
  refine call_by (id := "list.__setitem__") (args := [.ref p, .ref sl, .ref l0]) (b := Builtin.«list.__setitem__») pl_si entry_si (fun _ _ _ hq => check_slot (i := "list.__setitem__") (owner := "list") (n := "__setitem__") (self := .ref p) (rest := [.ref sl, .ref l0]) (kw := []) kind_si split_si (pile_is X I) (args_si _ _ _) hq) ?_
  show wpAny _ _ (Builtin.List.listSubscript? (.ref sl) >>= _) _ _ s
  refine wpAny_bind ?_
  unfold Builtin.List.listSubscript?
  refine wpAny_bind (wpAny_specialOf hTs slice_no_index ?_)
  simp only [Option.isNone_none, if_true]
  refine wpAny_pure ?_
  show wpAny _ _ (typeOf (.ref sl) >>= _) _ _ s
  refine wpAny_bind (wpAny_typeOf hTs ?_)
  rw [if_neg (by decide)]
  rw [listSliceParts_eq]
  refine wpAny_bind (wpAny_bind (wpAny_field hos hds (x := .none) rfl (wpAny_bind (wpAny_listPart .none ?_))))
  rw [if_neg (by exact Bool.false_ne_true)]
  refine wpAny_bind (wpAny_field hos hds (x := .int k tk) rfl (wpAny_bind (wpAny_listPart (.int k tk) ?_)))
  refine wpAny_bind (wpAny_field hos hds (x := .none) rfl (wpAny_bind (wpAny_listPart .none (wpAny_pure ?_))))
  have hsr : Builtin.List.listSameRef (.ref p) (.ref l0) = false := by
    show (p == l0) = false
    simp [Ne.symm hne]
  simp only [hsr, Bool.false_eq_true, if_false]
  refine wpAny_bind ?_
  unfold Builtin.List.listAllItems
  refine wpAny_bind (wpAny_typeOf hl.typeIs ?_)
  refine wpAny_ite_true (by rfl) ?_
  unfold Builtin.List.listItems
  refine wpAny_bind (wpAny_seqItems ho hd (wpAny_pure ?_))
  refine wpAny_bind (m := Builtin.List.listItems (.ref p)) ?_
  unfold Builtin.List.listItems
  refine wpAny_bind (wpAny_seqItems hp' rfl (wpAny_pure ?_))
  refine wpAny_bind (wpAny_of_eq (sliceIndices_raw (some (k : Int)) none none items.toArray.size (by simp)) ?_)
  have hb : sliceBounds (some (k : Int)) none none items.toArray.size = ((k : Int), (items.length : Int), 1) := by
    simp only [sliceBounds, Option.getD_none, List.size_toArray]
    have h1 : ¬ ((k : Int) < 0) := by omega
    simp only [h1, if_false, show (1 : Int) > 0 by decide, if_true]
    congr 1
    omega
  rw [hb]
  dsimp only
  refine wpAny_ite_true (by rfl) ?_
  refine wpAny_bind (wpAny_rule ?_)
  have htl : Builtin.List.listTooLong (items.toArray.size + (#[] : Array Value).size) = false := by
    unfold Builtin.List.listTooLong
    simp only [List.size_toArray]
    exact decide_eq_false (by simp; omega)
  rw [htl]
  refine wpAny_ite_false rfl ?_
  have hmax : (max (k : Int) (items.length : Int)).toNat = items.length := by omega
  have hk0 : ((k : Int)).toNat = k := by omega
  simp only [hmax, hk0]
  have hf : Obj.mapSeq (fun xs => xs.extract 0 k ++ #[] ++ xs.extract items.length xs.size) (pileObj dx items n) = pileObj dx (items.take k) (if k = items.length then n else n + 1) := by
    have e : items.toArray.extract 0 k ++ #[] ++ items.toArray.extract items.length items.toArray.size = (items.take k).toArray := by
      simp
    show (⟨.ref 118, some dx, .seq (items.toArray.extract 0 k ++ #[] ++ items.toArray.extract items.length items.toArray.size) (if (items.toArray.extract 0 k ++ #[] ++ items.toArray.extract items.length items.toArray.size).size == items.toArray.size then n else n + 1), #[]⟩ : Obj) = _
    rw [e]
    by_cases hkl : k = items.length
    · simp [hkl]
    · have : ¬ (min k items.length = items.length) := by omega
      simp [hkl, this]
  obtain ⟨F', N', hg⟩ := upd_put (f := Obj.mapSeq fun xs => xs.extract 0 k ++ #[] ++ xs.extract items.length xs.size) F N hp hf rfl
  refine wpAny_bind ?_
  show wpAny _ _ (updateSeq p _) _ _ _
  unfold updateSeq
  refine wpAny_bind (wpAny_load hp' ?_)
  refine wpAny_bind (wpAny_update hp' ?_)
  refine wpAny_lookBehind hg (seq_line _ _ (by rw [List.length_take]; omega)) ?_
  refine wpAny_bind (wpAny_letGo (wpAny_bind (wpAny_pure (wpAny_pure ⟨_, rfl, wpAny_pure (wpAny_pure (h _ _ F' N'))⟩))))
end
end
section
open PySem PySem.W PyProof.Rows
open PySem.Calls PySem.Spec
set_option maxRecDepth 100000
set_option maxHeartbeats 8000000
theorem k_slen (w : World) : ks_superIn (KH w) 118 118 "__len__" = some (some (.builtin "list.__len__")) := by kernel_rfl
theorem k_sinit (w : World) : ks_superIn (KH w) 118 118 "__init__" = some (some (.builtin "list.__init__")) := by kernel_rfl
theorem k_spop (w : World) : ks_superIn (KH w) 118 118 "pop" = some (some (.builtin "list.pop")) := by kernel_rfl
theorem k_third (w : World) : nsIn (KH w) cStatics "thirdparty.any" = some none := by kernel_rfl
structure Pile (news : Led) (p dx : Addr) (items : List Value) : Prop where
  obj : ∃ n, (p, pileObj dx items n) ∈ news
  dict : ∃ h tk ti n, (dx, sizeDict h tk ti n) ∈ news
  ne : p ≠ dx
theorem Pile.ext {news news' : Led} {p dx : Addr} {items : List Value} {X : List Addr} (P : Pile news p dx items) (h : Ext X news news') (h1 : p ∉ X) (h2 : dx ∉ X) : Pile news' p dx items := by
  obtain ⟨⟨n, a⟩, ⟨q, tk, ti, n2, b⟩, c⟩ := P
  exact ⟨⟨n, h _ _ a h1⟩, ⟨q, tk, ti, n2, h _ _ b h2⟩, c⟩
theorem Pile.put {news : Led} {p dx : Addr} {items items' : List Value} {n : Nat} (P : Pile news p dx items) : Pile (put news p (pileObj dx items' n)) p dx items' := by
  obtain ⟨⟨n', a⟩, ⟨q, tk, ti, n2, b⟩, c⟩ := P
  exact ⟨⟨n, put_self a⟩, ⟨q, tk, ti, n2, put_other b (Ne.symm c)⟩, c⟩
section
variable {prog : Program} {w : World} {A : Around} {E : Value → Shared → Prop} {s : Shared} {h₀ : Heap} {L p q dx so : Addr} {m : Str → Option Value} {news : Led} {items : List Value} {n : Nat}
theorem method_fnL {pl : Sem Bool} {Q : Value × List Value → Shared → Prop} {x C : Addr} {ox : Obj} {od : Option Obj} {K : Frag} {name : Str} {f : Addr} (X₀ : K.In h₀) (F : Fr h₀ L s.heap m) (I : InstAt s.heap x ox C od) (hga : findIn K (.ref C) "__getattribute__" = some (some (.builtin "list.__getattribute__"))) (hk : findIn K (.ref C) "__getattr__" = some none)
    (hf : findIn K (.ref C) name = some (some (.ref f))) (ht : typeIn K (.ref f) = some (.type "function")) (hs : shadowIn od name = some false) (h : Q (.ref f, [.ref x]) s) :
    wpAny (model prog w) A (getMethod (.ref x) name pl) Q E s := by
  have X := X₀.keeps F.keep
  have hcan := canon_list_ga
  unfold getMethod specialOf
  refine wpAny_bind (wpAny_bind (I.type.here ((looks_findIn X hga).here ?_)))
  dsimp only
  rw [hcan, if_neg (by decide)]
  refine wpAny_bind (wpAny_bind (I.type.here ((looks_findIn X hk).here ?_)))
  refine wpAny_bind (wpAny_bind (I.type.here ((looks_findIn X hf).here (wpAny_bind ((looks_typeIn X ht).here ?_)))))
  rw [if_neg (by decide +kernel)]
  refine wpAny_bind (wpAny_loadPart I.at_ ?_)
  have hd := I.dict
  cases e : ox.dict with
  | none => exact wpAny_bind (wpAny_rule (wpAny_pure h))
  | some dx =>
    cases od with
    | none => rw [e] at hd; exact hd.elim
    | some o =>
      rw [e] at hd
      obtain ⟨r, a, b⟩ := Option.map_eq_some_iff.mp hs
      refine wpAny_bind (wpAny_bind (wpAny_loadPart hd ?_))
      rw [nsLook_of a]
      refine wpAny_pure ?_
      rw [b]
      exact wpAny_bind (wpAny_rule (wpAny_pure h))
theorem sup_K {ox : Obj} {od : Option Obj} {name : Str} {id T gid bt : String} {pl : Sem Bool} {Q : Value × List Value → Shared → Prop} (F : Fr h₀ L s.heap m) (X₀ : (KH w).In h₀) (N : News h₀ L s.heap news) (hso : (so, ks_superObj 118 p 118) ∈ news) (I : InstAt s.heap p ox 118 od)
    (hm : ks_superIn (KH w) 118 118 name = some (some (.builtin id))) (hty : typeOf (.builtin id) = pure (.type T)) (hlk : typeLookup (.type T) "__get__" = pure (some (.builtin gid))) (hn : (name == ("__class__" : Str)) = false)
    (hcall : ∀ (s' : Shared), s'.heap = s.heap → ∀ (A' : Around) (Q' : Value → Shared → Prop) (E' : Value → Shared → Prop), Q' (.ref s.heap.objs.size) { s' with heap := s.heap.push { cls := .type bt, data := .fields #[.builtin id, .ref p] } } → wpAny (model prog w) A' (call (.builtin gid) [.builtin id, .ref p, .ref 118]) Q' E' s')
    (h : ∀ q h', Fr h₀ L h' m → News h₀ L h' ((q, { cls := .type bt, data := .fields #[.builtin id, .ref p] }) :: news) → (∀ p ∈ news, p.1 < q) → Q (.ref q, []) { s with heap := h', toks := s.toks + 1 }) : wpAny (model prog w) A (getMethod (.ref so) name pl) Q E s := by
  have X : (KH w).In s.heap := X₀.keeps F.keep
  obtain ⟨hh, g, d, t, os⟩ := s
  cases hc : clsIn (KH w) 118 with
  | none => unfold ks_superIn at hm; rw [hc] at hm; cases hm
  | some cd =>
    unfold ks_superIn at hm
    rw [hc] at hm
    refine sup_getMethod (N _ hso).1 (looks_opaque X (k_third w)) (l₀ := cd.mro) ?_ rfl X hm hty hlk (ks_ne X I hc) hn (fun A' Q' E' hq => hcall ⟨hh, g, d, t + 1, os⟩ rfl A' Q' E' hq) ?_
    · exact fun A Q E s k q => wpAny_bind ((looks_clsIn X hc) A _ E s k (wpAny_pure q))
    · obtain ⟨F', N', l'⟩ := ks_newsPush (s := ⟨hh, g, d, t, os⟩) (o := { cls := .type bt, data := .fields #[.builtin id, .ref p] }) F N rfl (Heap.get?_push_at rfl rfl) (fun b o e => Heap.get?_push_of_some _ e)
      exact h _ _ F' N' l'
theorem pile_isC {s' : Shared} (X : (KH w).In s'.heap) : Looks (model prog w) s'.heap (isType (.ref 118)) true := by
  obtain ⟨o, ho, hd⟩ : ∃ o, (KH w).lookup 118 = some o ∧ (match o.data with | .cls _ => true | _ => false) = true := by
    have : ((KH w).lookup 118).any (fun o => match o.data with | .cls _ => true | _ => false) = true := by kernel_rfl
    obtain ⟨o, ho, h⟩ := any_some this
    exact ⟨o, ho, h⟩
  intro A Q E s'' k q
  unfold isType loadHead
  refine wpAny_bind (wpAny_loadPart (k _ _ (X _ _ ho)) (wpAny_pure ?_))
  obtain ⟨oc, od, dd, sl⟩ := o
  cases dd <;> first | exact q | exact Bool.noConfusion (hd : false = true)
theorem sup_len {ox : Obj} {od : Option Obj} {pl : Sem Bool} {Q : Value × List Value → Shared → Prop} (F : Fr h₀ L s.heap m) (X₀ : (KH w).In h₀) (N : News h₀ L s.heap news) (hso : (so, ks_superObj 118 p 118) ∈ news) (I : InstAt s.heap p ox 118 od)
    (h : ∀ q h', Fr h₀ L h' m → News h₀ L h' ((q, { cls := .type "method-wrapper", data := .fields #[.builtin "list.__len__", .ref p] }) :: news) → (∀ p ∈ news, p.1 < q) → Q (.ref q, []) { s with heap := h', toks := s.toks + 1 }) : wpAny (model prog w) A (getMethod (.ref so) "__len__" pl) Q E s :=
  sup_K F X₀ N hso I (k_slen w) ty_llen slot_wd_get.lookup (by decide) (fun s' e A' Q' E' hq => by
    obtain ⟨hh, g, d, t, os⟩ := s'
    dsimp only at e
    subst e
    exact wd_get_pile ty_llen own_llen (pile_is (X₀.keeps F.keep) I) rfl hq) h
theorem sup_init {ox : Obj} {od : Option Obj} {pl : Sem Bool} {Q : Value × List Value → Shared → Prop} (F : Fr h₀ L s.heap m) (X₀ : (KH w).In h₀) (N : News h₀ L s.heap news) (hso : (so, ks_superObj 118 p 118) ∈ news) (I : InstAt s.heap p ox 118 od)
    (h : ∀ q h', Fr h₀ L h' m → News h₀ L h' ((q, { cls := .type "method-wrapper", data := .fields #[.builtin "list.__init__", .ref p] }) :: news) → (∀ p ∈ news, p.1 < q) → Q (.ref q, []) { s with heap := h', toks := s.toks + 1 }) : wpAny (model prog w) A (getMethod (.ref so) "__init__" pl) Q E s :=
  sup_K F X₀ N hso I (k_sinit w) ty_linit slot_wd_get.lookup (by decide) (fun s' e A' Q' E' hq => by
    obtain ⟨hh, g, d, t, os⟩ := s'
    dsimp only at e
    subst e
    exact wd_get_pile ty_linit own_linit (pile_is (X₀.keeps F.keep) I) rfl hq) h
theorem sup_pop {ox : Obj} {od : Option Obj} {pl : Sem Bool} {Q : Value × List Value → Shared → Prop} (F : Fr h₀ L s.heap m) (X₀ : (KH w).In h₀) (N : News h₀ L s.heap news) (hso : (so, ks_superObj 118 p 118) ∈ news) (I : InstAt s.heap p ox 118 od)
    (h : ∀ q h', Fr h₀ L h' m → News h₀ L h' ((q, { cls := .type "builtin_function_or_method", data := .fields #[.builtin "list.pop", .ref p] }) :: news) → (∀ p ∈ news, p.1 < q) → Q (.ref q, []) { s with heap := h', toks := s.toks + 1 }) : wpAny (model prog w) A (getMethod (.ref so) "pop" pl) Q E s :=
  sup_K F X₀ N hso I (k_spop w) ty_lpop slot_md_get.lookup (by decide) (fun s' e A' Q' E' hq => by
    obtain ⟨hh, g, d, t, os⟩ := s'
    dsimp only at e
    subst e
    exact md_get_pile (fun s'' e2 => pile_isC (by rw [e2]; exact X₀.keeps F.keep)) (pile_is (X₀.keeps F.keep) I) hq) h
end
end
section
open PySem PySem.W PyProof.Rows
open PySem.Calls PySem.Spec
set_option maxRecDepth 100000
set_option maxHeartbeats 8000000
abbrev lst (vs : List Value) : Obj := { cls := .type "list", data := .seq vs.toArray }
section
variable {prog : Program} {w : World} {A : Around} {E : Value → Shared → Prop} {s : Shared} {h₀ : Heap} {L p q dx so sl l0 : Addr} {m : Str → Option Value} {news : Led} {items : List Value} {n : Nat}
theorem tail_K {value : PySem.Expr} {l u : Option PySem.Expr} {pos : Pos} {od : Option Obj} {k : Int} {tk : Tok} {Q : Value → Shared → Prop} (X₀ : (KH w).In h₀) (F : Fr h₀ L s.heap m) (N : News h₀ L s.heap news) (I : InstAt s.heap p (pileObj dx items n) 118 od)
    (hsl : (sl, ({ cls := .type "slice", data := .fields #[.int k tk, .none, .none] } : Obj)) ∈ news) (h0 : 0 ≤ k) (hk : k ≤ items.length) (hsz : items.length ≤ sizeLine)
    (h : ∀ l0 h', Fr h₀ L h' m → News h₀ L h' ((l0, lst (items.drop k.toNat)) :: news) → (∀ p ∈ news, p.1 < l0) → Q (.ref l0) { s with heap := h' }) :
    wpAny (model prog w) A (subscriptTail value (.Slice l u none pos) (.ref p) (.ref sl)) Q E s := by
  have X := X₀.keeps F.keep
  obtain ⟨k', rfl⟩ : ∃ k' : Nat, k = (k' : Int) := ⟨k.toNat, by omega⟩
  have e : slicePick items.toArray (some (k' : Int)) none none = (items.drop k').toArray := by
    rw [slicePick_from _ _ (by rw [List.size_toArray]; omega)]
  refine pile_tail X I (pile_getslice X I ⟨_, (N _ hsl).1, rfl, rfl⟩ (.int _ _) .none .none (by simp) ?_ hsz)
  rw [e]
  exact h _ _ (F.push _) (N.push F _) fun p hp => Heap.lt_size (N p hp).1
theorem set_K {od : Option Obj} {k : Int} {tk : Tok} {Q : Unit → Shared → Prop} (X₀ : (KH w).In h₀) (F : Fr h₀ L s.heap m) (N : News h₀ L s.heap news) (hp : (p, pileObj dx items n) ∈ news) (I : InstAt s.heap p (pileObj dx items n) 118 od)
    (hsl : (sl, ({ cls := .type "slice", data := .fields #[.int k tk, .none, .none] } : Obj)) ∈ news) (hl : (l0, lst []) ∈ news) (h0 : 0 ≤ k) (hk : k ≤ items.length) (hsz : items.length ≤ sizeLine)
    (h : ∀ h' n', Fr h₀ L h' m → News h₀ L h' (put news p (pileObj dx (items.take k.toNat) n')) → Q () { s with heap := h' }) :
    wpAny (model prog w) A (setItem (.ref p) (.ref sl) (.ref l0)) Q E s := by
  have X := X₀.keeps F.keep
  obtain ⟨k', rfl⟩ : ∃ k' : Nat, k = (k' : Int) := ⟨k.toNat, by omega⟩
  have hne : l0 ≠ p := by
    rintro rfl
    have e1 := (N _ hp).1
    have e2 := (N _ hl).1
    rw [e1] at e2
    injection e2 with e3
    injection e3 with e4
    cases e4
  exact pile_setslice X F N hp I ⟨_, (N _ hsl).1, rfl, rfl⟩ ⟨_, (N _ hl).1, rfl, 0, rfl⟩ (by omega) hne hsz fun h' n' F' N' => h h' n' F' N'
abbrev sliceObj (k : Int) (tk : Tok) : Obj := { cls := .type "slice", data := .fields #[.int k tk, .none, .none] }
theorem tail_P {h : Heap} {g : Array GenState} {d : Drawn} {t : Nat} {os : OsState} {value : PySem.Expr} {l u : Option PySem.Expr} {pos : Pos} {od : Option Obj} {k : Int} {tk : Tok} {Q : Value → Shared → Prop} (X₀ : (KH w).In h₀) (F : Fr h₀ L h m) (N : News h₀ L h news) (I : InstAt h p (pileObj dx items n) 118 od)
    (h0 : 0 ≤ k) (hk : k ≤ items.length) (hsz : items.length ≤ sizeLine)
    (hq : ∀ l0 h', Fr h₀ L h' m → News h₀ L h' ((l0, lst (items.drop k.toNat)) :: (h.objs.size, sliceObj k tk) :: news) → Q (.ref l0) ⟨h', g, d, t, os⟩) :
    wpAny (model prog w) A (subscriptTail value (.Slice l u none pos) (.ref p) (.ref h.objs.size)) Q E ⟨h.push (sliceObj k tk), g, d, t, os⟩ := by
  obtain ⟨i1, i2, i3, i4⟩ := I
  refine tail_K (s := ⟨h.push (sliceObj k tk), g, d, t, os⟩) (od := od) X₀ (F.push _) (N.push F (sliceObj k tk)) ⟨Heap.get?_push_of_some _ i1, i2, i3, ?_⟩ (.head _) h0 hk hsz fun l0 h' F' N' _ => hq l0 h' F' N'
  revert i4
  dsimp only
  cases od with
  | none => exact id
  | some o => exact fun e => Heap.get?_push_of_some _ e
theorem pset_P {h : Heap} {g : Array GenState} {d : Drawn} {t : Nat} {os : OsState} {od : Option Obj} {k : Int} {tk : Tok} {Q : Unit → Shared → Prop} (X₀ : (KH w).In h₀) (F : Fr h₀ L h m) (N : News h₀ L h news) (hp : (p, pileObj dx items n) ∈ news) (I : InstAt h p (pileObj dx items n) 118 od)
    (hl : (l0, lst []) ∈ news) (h0 : 0 ≤ k) (hk : k ≤ items.length) (hsz : items.length ≤ sizeLine)
    (hq : ∀ h' n', Fr h₀ L h' m → News h₀ L h' (put ((h.objs.size, sliceObj k tk) :: news) p (pileObj dx (items.take k.toNat) n')) → Q () ⟨h', g, d, t, os⟩) :
    wpAny (model prog w) A (setItem (.ref p) (.ref h.objs.size) (.ref l0)) Q E ⟨h.push (sliceObj k tk), g, d, t, os⟩ := by
  obtain ⟨i1, i2, i3, i4⟩ := I
  refine set_K (s := ⟨h.push (sliceObj k tk), g, d, t, os⟩) (od := od) X₀ (F.push _) (N.push F (sliceObj k tk)) (.tail _ hp) ⟨Heap.get?_push_of_some _ i1, i2, i3, ?_⟩ (.head _) (.tail _ hl) h0 hk hsz fun h' n' F' N' => hq h' n' F' N'
  revert i4
  dsimp only
  cases od with
  | none => exact id
  | some o => exact fun e => Heap.get?_push_of_some _ e
theorem callWith_bound0 {M : Model} {pos : Pos} {T : String} {vs : Array Value} {env : Env} {Q : Value → Shared → Prop} (hq : s.heap.get? q = some { cls := .type T, data := .fields vs }) (hT : T = "builtin_function_or_method" ∨ T = "method-wrapper")
    (h : wpAny M A (call (.ref q) []) Q E s) : wpAny M A (callWith pos (.ref q) [] (backTo pos (starEach [] env)) []) Q E s := by
  unfold callWith
  refine wpAny_bind (wpAny_holding ?_)
  show wpAny M A (pure (⟨[], []⟩ : Args)) _ E s
  refine wpAny_pure (wpAny_bind (wpAny_standAt ?_))
  refine wpAny_bind (m := keeperOf (.ref q)) ?_
  unfold keeperOf
  refine wpAny_bind (wpAny_load hq ?_)
  have tail : ∀ {t : Sem Value}, wpAny M A t Q E s → wpAny M A (t >>= fun r => holding [r] point >>= fun _ => pure r) Q E s :=
    fun ht => wpAny_bind (wpAny_mono ht (fun r s₂ hr => wpAny_bind (wpAny_holding (wpAny_point (wpAny_pure hr)))) fun _ _ x => x)
  rcases hT with rfl | rfl
  · exact wpAny_pure (tail h)
  · exact wpAny_pure (tail h)
theorem news_ne {h : Heap} {a b : Addr} {o1 o2 : Obj} (N : News h₀ L h news) (h1 : (a, o1) ∈ news) (h2 : (b, o2) ∈ news) (hne : o1.cls ≠ o2.cls) : a ≠ b := by
  rintro rfl
  have e1 := (N _ h1).1
  have e2 := (N _ h2).1
  rw [e1] at e2
  injection e2 with e3
  exact hne (congrArg Obj.cls e3)
theorem mem_skip {x q : Addr × Obj} {l : Led} (h : x ∈ l) : x ∈ q :: l := .tail _ h
theorem pile_instH {h : Heap} {hs : Int} {tk ti : Tok} {n2 : Nat} (N : News h₀ L h news) (hp : (p, pileObj dx items n) ∈ news) (hdx : (dx, sizeDict hs tk ti n2) ∈ news) : InstAt h p (pileObj dx items n) 118 (some (sizeDict hs tk ti n2)) :=
  ⟨(N _ hp).1, rfl, rfl, (N _ hdx).1⟩
end
local macro_rules | `(tactic| k_mem) => `(tactic| (refine mem_skip ?_; k_mem))
local macro_rules | `(tactic| k_inst) => `(tactic| exact pile_instH (by k_asm) (by k_mem) (by k_mem))
local macro_rules | `(tactic| k_room) => `(tactic| ((try simp only [depth_under_make]); (try dsimp only [ktrTop, Around.deeper]); omega))


theorem count_tel {w : World} (p dx : Addr) (items : List Value) :
    Tel w 115 [.ref p] 10 (fun news => Pile news p dx items) (fun news news' r => (∃ tk, r = .int items.length tk) ∧ Ext [] news news' ∧ Pile news' p dx items) := by
  unfold Tel
  k_fill
  w_top off
  intro mean mg mb dp un gd cn cs a ccd cl outer A₀ base h₀ L m news s Q E B F X N T hk hd hu hg hp hret
  obtain ⟨⟨n, hpo⟩, ⟨hh, tk, ti, n2, hpd⟩, hne⟩ := hp
  refine wpAny_call ?_
  k_dflt (refine' ks_code_super ?k1 ?k2 ?k3 ?k4 ?k5 ?kA ?kF ?kK ?k6 ?k7 ?k8 ?k9 ?kB ?_ ?c1 ?c2 ?c3 ?c4; (case kA | kF => exact rfl); (case kK => first | exact rfl | assumption); (case k1 | k2 => k_asm); (case k3 | k4 | k5 => k_asm); (case k6 | k7 => k_is); (case k8 => k_room); (case k9 => exact BindsTo.of_eq rfl); (case kB => exact locs rfl); (case c1 => decide); (case c2 | c3 | c4 => exact rfl); intro g' L' h' FG' F' N' B' X' T' l1; (try dsimp only))
  try (refine fold_ctx ?_; intro M9 A9 e9)
  repeat' (first
    | (k_unfold; (try dsimp only))
    | ((with_reducible show wpAny _ _ (callWith _ (Value.ref _) _ _ _) _ _ _); (k_here; k_dflt (refine' callWith_bound0 ?k1 ?k2 ?_; (case k1 => exact News.get (by k_asm) (List.Mem.head _)); (case k2 => first | exact Or.inl rfl | exact Or.inr rfl); k_whole)))
    | ((with_reducible show wpAny _ _ (call (Value.ref _) _) _ _ _); (k_here; k_dflt (refine' llen_call ?k1 ?k2 ?_; (case k1 => exact (News.get (by k_asm) (List.Mem.head _))); (case k2 => exact News.get (by k_asm) (by k_mem)); k_whole)))
    | ((with_reducible show wpAny _ _ (getMethod (Value.ref _) _ _) _ _ _); (k_here; k_dflt (first | (refine' sup_len ?k1 ?k2 ?k3 ?k4 ?k5 ?_; (case k1 | k2 | k3 => k_asm); (case k4 => k_mem); (case k5 => k_inst)) | (refine' sup_init ?k1 ?k2 ?k3 ?k4 ?k5 ?_; (case k1 | k2 | k3 => k_asm); (case k4 => k_mem); (case k5 => k_inst)) | (refine' sup_pop ?k1 ?k2 ?k3 ?k4 ?k5 ?_; (case k1 | k2 | k3 => k_asm); (case k4 => k_mem); (case k5 => k_inst))); intro q' h' F' N' l1; (try dsimp only)))
    | (walk1) | (dsimp only; walk1) | (leave1; (try dsimp only)) | fail "no step")
  exact hret _ _ _ _ _ (by assumption) (by assumption) hg ⟨⟨_, rfl⟩, Ext.trans Ext.cons Ext.cons, ⟨_, .tail _ (.tail _ hpo)⟩, ⟨_, _, _, _, .tail _ (.tail _ hpd)⟩, hne⟩
theorem push_tel {w : World} (p dx : Addr) (items : List Value) (x y : Str) (tx ty : Tok) (hz : items.length < sizeLine) :
    Tel w 62 [.ref p, .str x tx, .str y ty] 10 (fun news => Pile news p dx items) (fun news news' r => r = .none ∧ Ext [p] news news' ∧ ∃ a, Pile news' p dx (items ++ [.ref a]) ∧ (a, tup [.str x tx, .str y ty]) ∈ news') := by
  unfold Tel
  k_fill
  w_top off
  intro mean mg mb dp un gd cn cs a ccd cl outer A₀ base h₀ L m news s Q E B F X N T hk hd hu hg hp hret
  obtain ⟨⟨n, hpo⟩, ⟨hh, tk, ti, n2, hpd⟩, hne⟩ := hp
  refine wpAny_call ?_
  k_dflt (refine' code_def ?k1 ?k2 ?k3 ?k4 ?k5 ?kA ?kF ?kK ?k6 ?k7 ?k8 ?k9 ?kB ?_ ?c2 ?c3 ?c4 ?c5; (case kA | kF => exact rfl); (case kK => assumption); (case k1 | k2 => k_asm); (case k3 | k4 | k5 => k_asm); (case k6 | k7 => k_is); (case k8 => ktr_room); (case k9 => first | exact BindsTo.of_eq rfl | exact binds_K (by k_in) rfl (by k_is) rfl rfl rfl); (case c5 => decide); (case kB => exact locs rfl); (case c2 | c3 | c4 => exact rfl); k_whole; intro g' L' h' FG' F' N' B' X' T'; (try dsimp only); (try k_fold))
  try (refine fold_ctx ?_; intro M9 A9 e9)
  repeat' (first
    | (k_unfold; (try dsimp only))
    | ((with_reducible show wpAny _ _ (call (Value.builtin "list.append") _) _ _ _); (k_here; k_dflt (refine' append_pile ?k1 ?k2 ?k3 ?k4 ?k5 ?k6 ?_; (case k1 => exact Frag.In.keeps (by k_asm) (Fr.keep (by k_asm))); (case k2 | k3 => k_asm); (case k4 => k_inst); (case k5 => k_mem); (case k6 => assumption); k_whole); intro h' F' N'))
    | ((with_reducible show wpAny _ _ (getMethod (Value.ref _) _ _) _ _ _); (k_here; (with_reducible show wpAny _ _ (getMethod (Value.ref _) (Str.ofString "append") _) _ _ _); k_dflt (refine' method_bi ?k1 ?k3 ?k4 ?k5 ?k6 ?k7 ?k8 ?_; (case k1 => exact Frag.In.keeps (by k_asm) (Fr.keep (by k_asm))); (case k3 => k_inst); (case k4 => exact k_ga _); (case k5 => exact k_gat _); (case k6 => exact k_append _); (case k7 => exact t_append _); (case k8 => kernel_rfl); k_whole)))
    | ((with_reducible show wpAny _ _ (execs (_ :: _) _) _ _ _); (k_here; (with_reducible refine wpAny_execs_cons ?_); (try dsimp only); (try (refine fold_fn (by k_asm) (by k_asm) ?_; intro led9 fm9 F9 N9))))
    | (walk1) | (dsimp only; walk1) | (leave1; (try dsimp only)) | fail "no step")
  exact hret _ _ _ _ _ (by assumption) (by assumption) hg ⟨rfl, Ext.trans Ext.cons (Ext.put (List.mem_singleton.mpr rfl)), _, Pile.put ⟨⟨_, .tail _ hpo⟩, ⟨_, _, _, _, .tail _ hpd⟩, hne⟩, put_other (.head _) (news_ne (news := (_, tup [.str x tx, .str y ty]) :: news) (by assumption) (.head _) (.tail _ hpo) (by intro e; have e' : Value.type "tuple" = Value.ref 118 := e; cases e'))⟩
theorem popfrom_tel {w : World} (p dx : Addr) (items : List Value) (k : Int) (tk : Tok) (h0 : 0 ≤ k) (hk : k ≤ items.length) (hsz : items.length ≤ sizeLine) :
    Tel w 70 [.ref p, .int k tk] 10 (fun news => Pile news p dx items) (fun news news' r => Ext [p] news news' ∧ ∃ l, r = .ref l ∧ (l, lst (items.drop k.toNat)) ∈ news' ∧ Pile news' p dx (items.take k.toNat)) := by
  unfold Tel
  k_fill
  w_top off
  intro mean mg mb dp un gd cn cs a ccd cl outer A₀ base h₀ L m news s Q E B F X N T hk hd hu hg hp hret
  obtain ⟨⟨n, hpo⟩, ⟨hh, tk, ti, n2, hpd⟩, hne⟩ := hp
  refine wpAny_call ?_
  k_dflt (refine' code_def ?k1 ?k2 ?k3 ?k4 ?k5 ?kA ?kF ?kK ?k6 ?k7 ?k8 ?k9 ?kB ?_ ?c2 ?c3 ?c4 ?c5; (case kA | kF => exact rfl); (case kK => assumption); (case k1 | k2 => k_asm); (case k3 | k4 | k5 => k_asm); (case k6 | k7 => k_is); (case k8 => ktr_room); (case k9 => first | exact BindsTo.of_eq rfl | exact binds_K (by k_in) rfl (by k_is) rfl rfl rfl); (case c5 => decide); (case kB => exact locs rfl); (case c2 | c3 | c4 => exact rfl); k_whole; intro g' L' h' FG' F' N' B' X' T'; (try dsimp only); (try k_fold))
  try (refine fold_ctx ?_; intro M9 A9 e9)
  repeat' (first
    | (k_unfold; (try dsimp only))
    | ((with_reducible show wpAny _ _ (setItem (Value.ref _) _ _) _ _ _); (k_here; k_dflt (refine' pset_P ?k1 ?k2 ?k3 ?k4 ?k5 ?k7 ?k8 ?k9 ?k10 ?_; (case k1 | k2 | k3 => k_asm); (case k4 => k_mem); (case k5 => k_inst); (case k7 => k_mem); (case k8 | k9 | k10 => assumption); k_whole); intro h' n' F' N'))
    | ((with_reducible show wpAny _ _ (execs (_ :: _) _) _ _ _); (k_here; (with_reducible refine wpAny_execs_cons ?_); (try dsimp only); (try (refine fold_fn (by k_asm) (by k_asm) ?_; intro led9 fm9 F9 N9))))
    | ((with_reducible show wpAny _ _ (subscriptTail _ _ _ _) _ _ _); (k_here; (with_reducible show wpAny _ _ (subscriptTail _ _ (Value.ref _) (Value.ref _)) _ _ _); k_dflt (refine' tail_P ?k1 ?k2 ?k3 ?k4 ?k6 ?k7 ?k8 ?_; (case k1 | k2 | k3 => k_asm); (case k4 => k_inst); (case k6 | k7 | k8 => assumption); k_whole); intro l' h' F' N'))
    | (walk1) | (dsimp only; walk1) | (leave1; (try dsimp only)) | fail "no step")
  exact hret _ _ _ _ _ (by assumption) (by assumption) hg ⟨Ext.trans (Ext.trans (Ext.trans Ext.cons Ext.cons) (Ext.trans Ext.cons Ext.cons)) (Ext.put (List.mem_singleton.mpr rfl)), _, rfl,
    put_other (.tail _ (.tail _ (.head _))) (news_ne (news := (_, PySem.W.listOf #[] 0) :: (_, lst (items.drop k.toNat)) :: (_, sliceObj k _) :: news) (by assumption) (.tail _ (.head _)) (.tail _ (.tail _ (.tail _ hpo))) (by intro e; have e' : Value.type "list" = Value.ref 118 := e; cases e')),
    Pile.put ⟨⟨_, .tail _ (.tail _ (.tail _ (.tail _ hpo)))⟩, ⟨_, _, _, _, .tail _ (.tail _ (.tail _ (.tail _ hpd)))⟩, hne⟩⟩
section
open PySem PySem.W PyProof.Rows
open PySem.Calls PySem.Spec
set_option maxRecDepth 100000
set_option maxHeartbeats 8000000
theorem popfrom0_tel {w : World} (p dx : Addr) (items : List Value) (hsz : items.length ≤ sizeLine) :
    Tel w 70 [.ref p] 10 (fun news => Pile news p dx items) (fun news news' r => Ext [p] news news' ∧ ∃ l, r = .ref l ∧ (l, lst items) ∈ news' ∧ Pile news' p dx []) := by
  unfold Tel
  k_fill
  w_top off
  intro mean mg mb dp un gd cn cs a ccd cl outer A₀ base h₀ L m news s Q E B F X N T hk hd hu hg hp hret
  obtain ⟨⟨n, hpo⟩, ⟨hh, tk, ti, n2, hpd⟩, hne⟩ := hp
  have h0 : (0 : Int) ≤ 0 := Int.le_refl _
  have hkk : (0 : Int) ≤ items.length := Int.natCast_nonneg _
  refine wpAny_call ?_
  k_dflt (refine' code_def ?k1 ?k2 ?k3 ?k4 ?k5 ?kA ?kF ?kK ?k6 ?k7 ?k8 ?k9 ?kB ?_ ?c2 ?c3 ?c4 ?c5; (case kA | kF => exact rfl); (case kK => assumption); (case k1 | k2 => k_asm); (case k3 | k4 | k5 => k_asm); (case k6 | k7 => k_is); (case k8 => ktr_room); (case k9 => first | exact BindsTo.of_eq rfl | exact binds_K (by k_in) rfl (by k_is) rfl rfl rfl); (case c5 => decide); (case kB => exact locs rfl); (case c2 | c3 | c4 => exact rfl); k_whole; intro g' L' h' FG' F' N' B' X' T'; (try dsimp only); (try k_fold))
  try (refine fold_ctx ?_; intro M9 A9 e9)
  repeat' (first
    | (k_unfold; (try dsimp only))
    | ((with_reducible show wpAny _ _ (setItem (Value.ref _) _ _) _ _ _); (k_here; k_dflt (refine' pset_P ?k1 ?k2 ?k3 ?k4 ?k5 ?k7 ?k8 ?k9 ?k10 ?_; (case k1 | k2 | k3 => k_asm); (case k4 => k_mem); (case k5 => k_inst); (case k7 => k_mem); (case k8 | k9 | k10 => assumption); k_whole); intro h' n' F' N'))
    | ((with_reducible show wpAny _ _ (execs (_ :: _) _) _ _ _); (k_here; (with_reducible refine wpAny_execs_cons ?_); (try dsimp only); (try (refine fold_fn (by k_asm) (by k_asm) ?_; intro led9 fm9 F9 N9))))
    | ((with_reducible show wpAny _ _ (subscriptTail _ _ _ _) _ _ _); (k_here; (with_reducible show wpAny _ _ (subscriptTail _ _ (Value.ref _) (Value.ref _)) _ _ _); k_dflt (refine' tail_P ?k1 ?k2 ?k3 ?k4 ?k6 ?k7 ?k8 ?_; (case k1 | k2 | k3 => k_asm); (case k4 => k_inst); (case k6 | k7 | k8 => assumption); k_whole); intro l' h' F' N'))
    | (walk1) | (dsimp only; walk1) | (leave1; (try dsimp only)) | fail "no step")
  exact hret _ _ _ _ _ (by assumption) (by assumption) hg ⟨Ext.trans (Ext.trans (Ext.trans Ext.cons Ext.cons) (Ext.trans Ext.cons Ext.cons)) (Ext.put (List.mem_singleton.mpr rfl)), _, rfl,
    put_other (.tail _ (.tail _ (.head _))) (news_ne (news := (_, PySem.W.listOf #[] 0) :: (_, lst (items.drop (Int.toNat 0))) :: (_, sliceObj 0 _) :: news) (by assumption) (.tail _ (.head _)) (.tail _ (.tail _ (.tail _ hpo))) (by intro e; have e' : Value.type "list" = Value.ref 118 := e; cases e')),
    Pile.put ⟨⟨_, .tail _ (.tail _ (.tail _ (.tail _ hpo)))⟩, ⟨_, _, _, _, .tail _ (.tail _ (.tail _ (.tail _ hpd)))⟩, hne⟩⟩
theorem pop_tel {w : World} (p dx : Addr) (items : List Value) (v : Value) (hsz : items.length < sizeLine) :
    Tel w 78 [.ref p] 20 (fun news => Pile news p dx (items ++ [v])) (fun news news' r => Ext [p] news news' ∧ r = v ∧ Pile news' p dx items) := by
  unfold Tel
  k_fill
  w_top off
  intro mean mg mb dp un gd cn cs a ccd cl outer A₀ base h₀ L m news s Q E B F X N T hk hd hu hg hp hret
  obtain ⟨⟨n, hpo⟩, ⟨hh, tk, ti, n2, hpd⟩, hne⟩ := hp
  have hlen : (items ++ [v]).length = items.length + 1 := by simp
  refine wpAny_call ?_
  k_dflt (refine' ks_code_super ?k1 ?k2 ?k3 ?k4 ?k5 ?kA ?kF ?kK ?k6 ?k7 ?k8 ?k9 ?kB ?_ ?c1 ?c2 ?c3 ?c4; (case kA | kF => exact rfl); (case kK => first | exact rfl | assumption); (case k1 | k2 => k_asm); (case k3 | k4 | k5 => k_asm); (case k6 | k7 => k_is); (case k8 => k_room); (case k9 => exact BindsTo.of_eq rfl); (case kB => exact locs rfl); (case c1 => decide); (case c2 | c3 | c4 => exact rfl); intro g' L' h' FG' F' N' B' X' T' l1; (try dsimp only))
  iterate 13 (first
    | (k_unfold; (try dsimp only))
    | ((with_reducible show wpAny _ _ (call (Value.ref _) _) _ _ _); (k_here; (with_reducible refine fold_q ?_); intro Q9 hQ9; k_dflt (refine' tel_use (count_tel _ _ _) ?k1 ?k2 ?k3 ?k4 ?k5 ?k6 ?k7 ?k8 ?k9 ?k10 ?_; (case k1 | k2 => k_asm); (case k3 | k4 | k5 => k_asm); (case k6 => first | exact rfl | assumption); (case k7 => ktr_room); (case k8 => ktr_units); (case k9 => assumption); (case k10 => exact ⟨⟨_, by assumption⟩, ⟨_, _, _, _, by assumption⟩, by assumption⟩)); intro r9 n9 h9 t9 g9 F9 N9 G9 P9; obtain ⟨⟨tk9, e9⟩, x9, ⟨nn9, po9⟩, ⟨_, _, _, _, pd9⟩, _⟩ := P9; subst e9; (with_reducible refine hQ9 _ _ ?_); clear hQ9 Q9))
    | ((with_reducible show wpAny _ _ (getMethod (Value.ref _) _ _) _ _ _); (k_here; k_dflt (refine' method_fnL ?k1 ?k2 ?k3 ?k4 ?k5 ?k6 ?k7 ?k8 ?_; (case k1 | k2 => k_asm); (case k3 => k_inst); (case k4 => exact k_ga _); (case k5 => exact k_gat _); (case k6 | k7 => k_is); (case k8 => kernel_rfl); k_whole)))
    | ((fail_if_success (with_reducible show wpAny _ _ _ _ _ _)); first
      | (k_here; with_reducible refine ks_wpAt_execs_cons ?_)
      | fail "no own line")
    | (walk1) | (dsimp only; walk1) | (leave1; (try dsimp only)) | fail "no step")
  case refine_1 => exfalso; rename_i ha; rw [hlen] at ha; omega
  iterate 4 (first
    | (k_unfold; (try dsimp only))
    | ((fail_if_success (with_reducible show wpAny _ _ _ _ _ _)); first
      | (k_here; with_reducible refine ks_wpAt_execs_cons ?_)
      | fail "no own line")
    | (walk1) | (dsimp only; walk1) | (leave1; (try dsimp only)) | fail "no step")
  refine ks_wpAt_Return_some ?_
  refine ks_wpAt_MethodCall ?_
  try (refine fold_ctx ?_; intro M9 A9 e9)
  repeat' (first
    | (k_unfold; (try dsimp only))
    | ((with_reducible show wpAny _ _ (call (Value.ref _) _) _ _ _); (k_here; k_dflt (refine' lpop_call ?k0 ?k1 ?k2 ?k3 ?k4 ?k5 ?_; (case k0 => exact Frag.In.keeps (by k_asm) (Fr.keep (by k_asm))); (case k1 | k2 => k_asm); (case k3 => exact News.get (by k_asm) (List.Mem.head _)); (case k4 => k_mem); (case k5 => omega); k_whole); intro h' F' N'))
    | ((with_reducible show wpAny _ _ (callWith _ (Value.ref _) _ _ _) _ _ _); (k_here; k_dflt (refine' callWith_bound0 ?k1 ?k2 ?_; (case k1 => exact News.get (by k_asm) (List.Mem.head _)); (case k2 => first | exact Or.inl rfl | exact Or.inr rfl); k_whole)))
    | ((with_reducible show wpAny _ _ (getMethod (Value.ref _) _ _) _ _ _); (k_here; k_dflt (first | (refine' sup_len ?k1 ?k2 ?k3 ?k4 ?k5 ?_; (case k1 | k2 | k3 => k_asm); (case k4 => k_mem); (case k5 => k_inst)) | (refine' sup_init ?k1 ?k2 ?k3 ?k4 ?k5 ?_; (case k1 | k2 | k3 => k_asm); (case k4 => k_mem); (case k5 => k_inst)) | (refine' sup_pop ?k1 ?k2 ?k3 ?k4 ?k5 ?_; (case k1 | k2 | k3 => k_asm); (case k4 => k_mem); (case k5 => k_inst))); intro q' h' F' N' l1; (try dsimp only)))
    | (walk1) | (dsimp only; walk1) | (leave1; (try dsimp only)) | fail "no step")
  refine hret _ _ _ _ _ (by assumption) (by assumption) (by assumption) ⟨Ext.trans (Ext.weaken (by assumption) (fun b hb => absurd hb (by simp))) (Ext.trans (Ext.trans Ext.cons Ext.cons) (Ext.put (List.mem_singleton.mpr rfl))), rfl,
    Pile.put (Pile.ext ⟨⟨_, by assumption⟩, ⟨_, _, _, _, by assumption⟩, hne⟩ (X := []) (Ext.trans Ext.cons Ext.cons) (by simp) (by simp))⟩
end
section
open PySem PySem.W PyProof.Rows
open PySem.Calls PySem.Spec
set_option maxRecDepth 100000
set_option maxHeartbeats 8000000
theorem k_setattr (w : World) : findIn (KH w) (.ref 118) "__setattr__" = some (some (.builtin "object.__setattr__")) := by kernel_rfl
theorem pass_list (self : Value) : refuseLoop self "__setattr__" [.type "list", .type "object"] = pure () := by kernel_rfl
theorem k_mro (w : World) : (clsIn (KH w) 118).map (fun cd => (cd.mro, cd.hasDict, cd.hasDel, cd.abstract)) = some ([.ref 118, .type "list", .type "object"], true, false, false) := by kernel_rfl
theorem k_taker (w : World) : takerIn (KH w) 118 "_initial_size" = some none := by kernel_rfl
theorem k_init (w : World) : findIn (KH w) (.ref 118) "__init__" = some (some (.ref 55)) := by kernel_rfl
theorem k_obj (w : World) : mroIn (KH w) 118 (.type "object") = some true := by kernel_rfl
theorem osa_body (self v : Value) (name : Str) (tk : Tok) : Builtin.«object.__setattr__» ⟨[self, .str name tk, v], []⟩ = (do
    Builtin.ObjectAttr.refuseIfOverridden self "__setattr__"
    let tp ← typeOf self
    let attr ← typeLookup tp name
    match ← Builtin.ObjectAttr.storeTaker? attr with
    | some a => Builtin.ObjectAttr.setByDescriptor a self v
    | none => Builtin.ObjectAttr.storeInOwnDict self tp (.str name tk) name v attr.isSome) := by kernel_rfl
section
variable {prog : Program} {w : World} {A : Around} {E : Value → Shared → Prop} {s : Shared} {h₀ : Heap} {L p q dx : Addr} {m : Str → Option Value} {news : Led} {items : List Value} {n : Nat}
theorem setattr_pile {v : Value} {n2 : Nat} {Q : Unit → Shared → Prop} (X₀ : (KH w).In h₀) (F : Fr h₀ L s.heap m) (N : News h₀ L s.heap news) (hp : (p, pileObj dx items n) ∈ news) (hdx : (dx, ({ cls := .type "dict", data := .dict #[] n2 } : Obj)) ∈ news)
    (h : ∀ h' hh tk tk', Fr h₀ L h' m → News h₀ L h' (put news dx ({ cls := .type "dict", data := .dict #[⟨hh, .str "_initial_size" tk, v⟩] (n2 + 1) } : Obj)) → Q () { s with heap := h', toks := tk' }) :
    wpAny (model prog w) A (setAttr (.ref p) "_initial_size" v) Q E s := by
  have I : InstAt s.heap p (pileObj dx items n) 118 (some ({ cls := .type "dict", data := .dict #[] n2 } : Obj)) := ⟨(N _ hp).1, rfl, rfl, (N _ hdx).1⟩
  have X := X₀.keeps F.keep
  obtain ⟨hh, g, d, t, os⟩ := s
  dsimp only at I X
  unfold setAttr
  refine wpAny_bind (wpAny_mkText ?_)
  refine wpAny_bind ?_
  unfold callSpecial?
  refine wpAny_bind (pile_special X I (k_setattr w) ?_)
  dsimp only
  refine wpAny_holding ?_
  have SF := PySem.F.store_object
  rw [SF.slot.bind]
  refine wpAny_bind (wpAny_pure (wpAny_bind ?_))
  show wpAny _ _ (call (.builtin "object.__setattr__") [.ref p, .str "_initial_size" t, v]) _ _ _
  have hi : Looks (model prog w) hh (isInstance (.ref p) (.type "object")) true := I.type.andThen (looks_mroIn X (k_obj w))
  refine call_by (id := "object.__setattr__") (args := [.ref p, .str "_initial_size" t, v]) (b := Builtin.«object.__setattr__») SF.slot.plain SF.entry (fun _ _ _ hq => check_slot (i := "object.__setattr__") (owner := "object") (n := "__setattr__") (self := .ref p) (rest := [.str "_initial_size" t, v]) (kw := []) SF.kind SF.split hi (SF.args _ _ _) hq) ?_
  rw [osa_body, refuse_eq]
  obtain ⟨cd, hcd, hmr⟩ := Option.map_eq_some_iff.mp (k_mro w)
  have L1 := looks_clsIn (M := model prog w) X hcd
  have hm : Looks (model prog w) hh (mroOf (.ref 118)) [.ref 118, .type "list", .type "object"] := by
    have e : cd.mro = [.ref 118, .type "list", .type "object"] := congrArg Prod.fst hmr
    rw [← e]
    exact L1.andThen .now
  refine wpAny_bind (wpAny_bind (I.type.here (wpAny_bind (hm.here ?_))))
  rw [refuseLoop_ref, pass_list]
  refine wpAny_pure (wpAny_bind (I.type.here ?_))
  obtain ⟨attr, ha, hr⟩ := Option.bind_eq_some_iff.mp (k_taker w)
  have L3 : Looks (model prog w) hh (Builtin.ObjectAttr.storeTaker? attr) none := by
    cases attr with
    | none => cases hr; exact .now
    | some a =>
      obtain ⟨b, hb, hbb⟩ := Option.map_eq_some_iff.mp hr
      refine (looks_takesIn X hb).andThen ?_
      cases b with
      | true => cases hbb
      | false => exact .now
  refine wpAny_bind ((looks_findIn X ha).here (wpAny_bind (L3.here ?_)))
  dsimp only
  unfold Builtin.ObjectAttr.storeInOwnDict
  refine wpAny_bind (wpAny_pure (wpAny_bind ?_))
  have hdict : cd.hasDict = true := congrArg (fun x => x.2.1) hmr
  have hpx := (N _ hp).1
  have hdd := (N _ hdx).1
  dsimp only at hpx hdd
  show wpAny _ _ (instanceDict p true) _ _ _
  unfold instanceDict
  refine wpAny_bind (wpAny_loadPart hpx ?_)
  dsimp only
  refine wpAny_bind (L1.here ?_)
  rw [hdict]
  refine wpAny_pure (a := some dx) ?_
  dsimp only
  unfold Builtin.ObjectAttr.storeInDict Builtin.ObjectAttr.newKeyGuard
  refine wpAny_bind (wpAny_pure (wpAny_bind ?_))
  unfold nsSet
  refine wpAny_bind (wpAny_bind (wpAny_askSetting (wpAny_pure (wpAny_bind (wpAny_mkText (wpAny_bind (wpAny_loadPart hdd ?_)))))))
  dsimp only
  rw [aRefKeyMayBeTheName_at]
  refine wpAny_ite_false (by simp) ?_
  obtain ⟨F', N', hg⟩ := upd_put (s := ⟨hh, g, d, t, os⟩) (f := Obj.putName "_initial_size" (PyData.keyHash w.params "_initial_size") (.str "_initial_size" (t + 1)) v) (o' := { cls := .type "dict", data := .dict #[⟨PyData.keyHash w.params "_initial_size", .str "_initial_size" (t + 1), v⟩] (n2 + 1) }) F N hdx (by rfl) rfl
  refine wpAny_updatePart hdd ?_
  refine wpAny_bind (wpAny_lookBehind hg (pastItsLine_dict (by simp [sizeLine])) ?_)
  exact wpAny_pure ⟨_, rfl, wpAny_pure (wpAny_pure (h _ _ _ _ F' N'))⟩
end
end
section
open PySem PySem.W PyProof.Rows
open PySem.Calls PySem.Spec
set_option maxRecDepth 100000
set_option maxHeartbeats 8000000
theorem k_call (w : World) : specialIn (KH w) (.ref 118) "__call__" = some (some (.builtin "type.__call__")) := by kernel_rfl
theorem k_itype (w : World) : instIn (KH w) (.ref 118) (.type "type") = some true := by kernel_rfl
theorem k_self (w : World) : mroIn (KH w) 118 (.ref 118) = some true := by kernel_rfl
theorem k_made (w : World) : ((KH w).lookup 118).any (fun o => (o.slots.toList[4]?).join == some (.builtin "list.__new__") && (match o.data with | .cls _ => true | _ => false)) = true := by kernel_rfl
theorem lnew_kind : builtinKind "list.__new__" = some .builtinFn := by decide +kernel
theorem lnew_split : splitId "list.__new__" = some ("list", "__new__") := by decide +kernel
theorem lnew_sig (a b : Value) : (match Manifest.signature? "list.__new__" with | some sig => Bind.checkArgs "list.__new__" sig ⟨[a, b], []⟩ | none => pure ()) = pure () := by kernel_rfl
section
variable {prog : Program} {w : World} {A : Around} {R : Result → Shared → Prop} {h : Heap} {g : Array GenState} {d : Drawn} {t : Nat} {os : OsState}
theorem looks_made {M : Model} (X : (KH w).In h) : Looks M h (Bind.madeBy (.ref 118)) (some "list.__new__") := by
  obtain ⟨o, ho, hh⟩ := any_some (k_made w)
  obtain ⟨h1, h2⟩ := Bool.and_eq_true_iff.mp hh
  obtain ⟨cd, hcd, hmr⟩ := Option.map_eq_some_iff.mp (k_mro w)
  have L1 := looks_clsIn (M := M) X hcd
  have hm : Looks M h (mroOf (.ref 118)) [.ref 118, .type "list", .type "object"] := by
    have e : cd.mro = [.ref 118, .type "list", .type "object"] := congrArg Prod.fst hmr
    rw [← e]
    exact L1.andThen .now
  intro A Q E s k q
  unfold Bind.madeBy
  refine wpAny_bind (hm A _ E s k ?_)
  rw [List.forIn_cons]
  refine wpAny_bind (wpAny_bind (wpAny_bind (wpAny_bind (wpAny_loadPart (k _ _ (X _ _ ho)) (wpAny_pure ?_)))))
  dsimp only
  rw [← Array.getElem?_toList, beq_iff_eq.mp h1]
  exact wpAny_pure (wpAny_pure (wpAny_pure q))
theorem looks_base {M : Model} (X : (KH w).In h) : Looks M h (Bind.staticBase (.ref 118)) (.ref 118) := by
  obtain ⟨cd, hcd, hmr⟩ := Option.map_eq_some_iff.mp (k_mro w)
  have L1 := looks_clsIn (M := M) X hcd
  have hm : Looks M h (mroOf (.ref 118)) [.ref 118, .type "list", .type "object"] := by
    have e : cd.mro = [.ref 118, .type "list", .type "object"] := congrArg Prod.fst hmr
    rw [← e]
    exact L1.andThen .now
  intro A Q E s k q
  unfold Bind.staticBase
  refine wpAny_bind (hm A _ E s k ?_)
  rw [List.forIn_cons]
  exact wpAny_bind (wpAny_bind (wpAny_bind (looks_made X A _ E s k (wpAny_pure (wpAny_pure (wpAny_pure q))))))
theorem new_pile {v : Value} (X : (KH w).In h)
    (hq : R (.ok (.ret (.ref (h.objs.size + 1)))) ⟨(h.push emptyDict).push (pileObj h.objs.size [] 0), g, d, t, os⟩) :
    codeAny (model prog w) A (.call (.builtin "list.__new__") ⟨[.ref 118, v], []⟩) R ⟨h, g, d, t, os⟩ := by
  have hT := pile_isC (prog := prog) (s' := ⟨h, g, d, t, os⟩) X
  have hS := looks_mroIn (M := model prog w) X (k_sub w)
  have hB := looks_base (M := model prog w) X
  have hM := looks_made (M := model prog w) X
  dsimp only at hT
  refine codeAny_of_tree ?_
  show wpAny _ _ (do checkBuiltinCall "list.__new__" ⟨[.ref 118, v], []⟩; again (.builtin "list.__new__" ⟨[.ref 118, v], []⟩)) _ _ _
  refine wpAny_bind ?_
  simp only [checkBuiltinCall, lnew_kind, lnew_split]
  refine wpAny_ite_true (by rfl) ?_
  refine wpAny_bind (hT.here ?_)
  refine wpAny_ite_false (by rfl) ?_
  refine wpAny_bind (hS.here ?_)
  refine wpAny_ite_false (by rfl) ?_
  refine wpAny_bind (hB.here (wpAny_bind (hM.here ?_)))
  dsimp only
  refine wpAny_ite_false (by simp) ?_
  refine wpAny_of_eq (lnew_sig (.ref 118) v) ?_
  refine wpAny_pure ⟨plainId_quiet F.plain_list_new _, codeAny_builtin_stack F.entry_list_new rfl fun p st => ?_⟩
  rw [Around.under_plainId F.plain_list_new _]
  have hown := owner_list_new
  simp only [hown]
  refine wpAny_bind (hT.here ?_)
  refine wpAny_ite_false (by rfl) ?_
  refine wpAny_bind (hS.here ?_)
  refine wpAny_ite_false (by rfl) ?_
  obtain ⟨cd, hcd, hmr⟩ := Option.map_eq_some_iff.mp (k_mro w)
  have hdel : cd.hasDel = false := congrArg (fun x => x.2.2.1) hmr
  refine wpAny_bind (wpAny_pure ?_)
  refine wpAny_ite_false (by rfl) ?_
  refine wpAny_bind (wpAny_newObj_type ?_ (by size_fits))
  dsimp only
  refine wpAny_bind ?_
  show wpAny _ _ (newObjAsIs (.ref 118) (.seq #[]) (some h.objs.size)) _ _ _
  unfold newObjAsIs classHasDel
  have L1 := looks_clsIn (M := model prog w) X hcd
  obtain ⟨o118, ho118, hd118⟩ : ∃ o, h.get? 118 = some o ∧ o.data = .cls cd := by
    unfold clsIn at hcd
    split at hcd
    · rename_i c d cd' sl ho
      cases hcd
      exact ⟨_, X _ _ ho, rfl⟩
    · cases hcd
  refine wpAny_bind (wpAny_alloc (wpAny_bind (wpAny_bind (wpAny_load (Heap.get?_push_of_some _ (Heap.get?_push_of_some _ ho118)) ?_))))
  rw [hd118]
  dsimp only
  rw [hdel]
  refine wpAny_pure (wpAny_pure (wpAny_pure ?_))
  show R _ _
  have e : (h.push emptyDict).objs.size = h.objs.size + 1 := Heap.size_push ..
  rw [← e] at hq
  exact hq
end
end
section
open PySem PySem.W PyProof.Rows
open PySem.Calls PySem.Spec
set_option maxRecDepth 100000
set_option maxHeartbeats 8000000
section
variable {prog : Program} {w : World} {A : Around} {R : Result → Shared → Prop} {h : Heap} {g : Array GenState} {d : Drawn} {t : Nat} {os : OsState}
theorem make_pile {v : Value} (X : (KH w).In h)
    (hq : codeAny (model prog w) (A.under (.builtin "type.__call__" ⟨[.ref 118, v], []⟩)) (.call (.ref 55) ⟨[.ref (h.objs.size + 1), v], []⟩) (InitBack (h.objs.size + 1) R) ⟨(h.push emptyDict).push (pileObj h.objs.size [] 0), g, d, t, os⟩) :
    codeAny (model prog w) A (.call (.ref 118) ⟨[v], []⟩) R ⟨h, g, d, t, os⟩ := by
  obtain ⟨cd, hcd, hmr⟩ := Option.map_eq_some_iff.mp (k_mro w)
  have L1 := looks_clsIn (M := model prog w) X hcd
  obtain ⟨o118, ho118, hd118⟩ : ∃ o, h.get? 118 = some o ∧ o.data = .cls cd := by
    unfold clsIn at hcd
    split at hcd
    · rename_i c d cd' sl ho
      cases hcd
      exact ⟨_, X _ _ ho, rfl⟩
    · cases hcd
  have hcl : Looks (model prog w) h (specialOf (.ref 118) "__call__") (some (.builtin "type.__call__")) := looks_specialIn X (k_call w)
  have htyp := looks_instIn (M := model prog w) X (k_itype w)
  have hM := looks_made (M := model prog w) X
  have hself := looks_mroIn (M := model prog w) X (k_self w)
  have hm : Looks (model prog w) h (mroOf (.ref 118)) [.ref 118, .type "list", .type "object"] := by
    have e : cd.mro = [.ref 118, .type "list", .type "object"] := congrArg Prod.fst hmr
    rw [← e]
    exact L1.andThen .now
  refine codeAny_of_tree ?_
  show wpAny _ _ (callAny (.ref 118) _) _ _ _
  obtain ⟨oc, od, odd, osl⟩ := o118
  dsimp only at hd118
  subst hd118
  refine nd_load ho118 ?_
  show wpAny _ _ (callAny.viaDunder (.ref 118) _) _ _ _
  unfold callAny.viaDunder
  refine wpAny_bind (hcl.here ?_)
  dsimp only
  rw [tc_bind]
  refine wpAny_bind (wpAny_pure (wpAny_bind (wpAny_pure ?_)))
  refine wpAny_pure (a := Fin.again (.call (.builtin "type.__call__") ⟨[.ref 118, v], []⟩)) (And.intro rfl ?_)
  refine codeAny_call_builtin_at (Code.quiet_builtin _ (by decide +kernel)) entry_typeCall (check_slot (i := "type.__call__") (self := .ref 118) (rest := [v]) (kw := []) tc_kind tc_split htyp (tc_args _ _ _) ?_)
  unfold Builtin.«type.__call__»
  refine wpAny_ite_false (by rfl) ?_
  refine wpAny_bind (hm.here ?_)
  refine wpAny_ite_false (by rfl) ?_
  refine wpAny_bind (hM.here ?_)
  dsimp only
  refine wpAny_bind (wpAny_pure (wpAny_bind (wpAny_holding (wpAny_call ?_))))
  refine new_pile X ?_
  have k : ∀ b o, h.get? b = some o → ((h.push emptyDict).push (pileObj h.objs.size [] 0)).get? b = some o := fun b o e => Heap.get?_push_of_some _ (Heap.get?_push_of_some _ e)
  have hx : ((h.push emptyDict).push (pileObj h.objs.size [] 0)).get? (h.objs.size + 1) = some (pileObj h.objs.size [] 0) := by heap_get
  have t1 : Looks (model prog w) ((h.push emptyDict).push (pileObj h.objs.size [] 0)) (typeOf (.ref (h.objs.size + 1))) (.ref 118) := (Looks.ld hx).andThen .now
  have s1 := hself.keeps k
  have i1 : Looks (model prog w) ((h.push emptyDict).push (pileObj h.objs.size [] 0)) (typeLookup (.ref 118) "__init__") (some (.ref 55)) := looks_findIn (fun a o e => k _ _ (X a o e)) (k_init w)
  have b1 : Looks (model prog w) ((h.push emptyDict).push (pileObj h.objs.size [] 0)) (bindSpecial (.ref 55) (.ref (h.objs.size + 1))) (.ref 55, [.ref (h.objs.size + 1)]) := bind_fn (fun a o e => k _ _ (X a o e)) _ (by kernel_rfl)
  unfold isInstance callSpecial? specialOf
  refine wpAny_bind (wpAny_bind (t1.here (s1.here ?_)))
  refine wpAny_ite_false (by rfl) ?_
  refine wpAny_bind (wpAny_holding (wpAny_bind (wpAny_bind (t1.here (i1.here ?_)))))
  dsimp only
  refine wpAny_holding (wpAny_bind (b1.here (wpAny_bind (wpAny_call ?_))))
  refine codeAny_mono hq fun r s' z => ?_
  rcases r with e | (v | _ | _ | _) <;> first | exact z | exact z.elim | skip
  obtain ⟨rfl, z⟩ := z
  exact wpAny_pure (wpAny_ite_false (by rfl) (wpAny_pure z))
end
end
section
open PySem PySem.W PyProof.Rows
open PySem.Calls PySem.Spec
set_option maxRecDepth 100000
set_option maxHeartbeats 8000000
section
variable {prog : Program} {w : World} {A : Around} {E : Value → Shared → Prop} {s : Shared} {h₀ : Heap} {L p q dx : Addr} {m : Str → Option Value} {news : Led} {items : List Value} {n : Nat}
theorem setattr_K {ti : Tok} {n2 : Nat} {Q : Unit → Shared → Prop} (X₀ : (KH w).In h₀) (F : Fr h₀ L s.heap m) (N : News h₀ L s.heap news) (hp : (p, pileObj dx items n) ∈ news) (hdx : (dx, ({ cls := .type "dict", data := .dict #[] n2 } : Obj)) ∈ news) (hne : p ≠ dx)
    (h : ∀ h' news' hh tk tk', Fr h₀ L h' m → News h₀ L h' news' → Ext [dx] news news' → (p, pileObj dx items n) ∈ news' → (dx, sizeDict hh tk ti (n2 + 1)) ∈ news' → Q () { s with heap := h', toks := tk' }) :
    wpAny (model prog w) A (setAttr (.ref p) "_initial_size" (.int 3 ti)) Q E s :=
  setattr_pile X₀ F N hp hdx fun h' hh tk tk' F' N' => h h' _ hh tk tk' F' N' (Ext.put (List.mem_singleton.mpr rfl)) (put_other hp hne) (put_self hdx)
theorem linit_K {Q : Value → Shared → Prop} {od : Obj} (F : Fr h₀ L s.heap m) (N : News h₀ L s.heap news) (hq : s.heap.get? q = some { cls := .type "method-wrapper", data := .fields #[.builtin "list.__init__", .ref p] }) (hp : (p, pileObj dx [] n) ∈ news) (hdx : (dx, od) ∈ news) (hne : p ≠ dx)
    (h : ∀ h' news', Fr h₀ L h' m → News h₀ L h' news' → Ext [p] news news' → (p, pileObj dx [] n) ∈ news' → (dx, od) ∈ news' → Q .none { s with heap := h' }) : wpAny (model prog w) A (call (.ref q) []) Q E s :=
  linit_call F N hq hp fun h' F' N' => h h' _ F' N' (Ext.put (List.mem_singleton.mpr rfl)) (put_self hp) (put_other hdx (Ne.symm hne))
end
theorem acc_tel {w : World} (ti : Tok) :
    Tel w 118 [.int 3 ti] 20 (fun _ => True) (fun news news' r => ∃ p dx, r = .ref p ∧ Ext [] news news' ∧ Pile news' p dx [] ∧ ∀ q ∈ news, q.1 ≠ p ∧ q.1 ≠ dx) := by
  unfold Tel
  k_fill
  w_top off
  intro mean mg mb dp un gd cn cs a ccd cl outer A₀ base h₀ L m news s Q E B F X N T hk hd hu hg hp hret
  have X1 := X.keeps F.keep
  obtain ⟨hh, g, d, t, os⟩ := s
  refine wpAny_call (make_pile X1 ?_)
  have F1 := (F.push emptyDict).push (pileObj hh.objs.size [] 0)
  have N1 := (N.push F emptyDict).push (F.push _) (pileObj hh.objs.size [] 0)
  rw [Heap.size_push] at N1
  have hlt : ∀ q ∈ news, q.1 < hh.objs.size := fun q hq => Heap.lt_size (N q hq).1
  have hpx : (hh.objs.size + 1, pileObj hh.objs.size [] 0) ∈ (hh.objs.size + 1, pileObj hh.objs.size [] 0) :: (hh.objs.size, emptyDict) :: news := .head _
  have hdx : (hh.objs.size, emptyDict) ∈ (hh.objs.size + 1, pileObj hh.objs.size [] 0) :: (hh.objs.size, emptyDict) :: news := .tail _ (.head _)
  have hx1 : Ext [] news ((hh.objs.size + 1, pileObj hh.objs.size [] 0) :: (hh.objs.size, emptyDict) :: news) := Ext.trans Ext.cons Ext.cons
  have hne : hh.objs.size + 1 ≠ hh.objs.size := by omega
  have hfr : ∀ q ∈ news, q.1 ≠ hh.objs.size + 1 ∧ q.1 ≠ hh.objs.size := fun q hq => ⟨Nat.ne_of_lt (Nat.lt_succ_of_lt (hlt q hq)), Nat.ne_of_lt (hlt q hq)⟩
  clear F N X1
  generalize ((hh.objs.size + 1, pileObj hh.objs.size [] 0) :: (hh.objs.size, emptyDict) :: news) = news1 at *
  generalize hh.objs.size + 1 = px at *
  generalize hh.objs.size = dx at *
  generalize ((hh.push emptyDict).push (pileObj dx [] 0)) = h1 at *
  k_dflt (refine' ks_code_super ?k1 ?k2 ?k3 ?k4 ?k5 ?kA ?kF ?kK ?k6 ?k7 ?k8 ?k9 ?kB ?_ ?c1 ?c2 ?c3 ?c4; (case kA | kF => exact rfl); (case kK => first | exact rfl | assumption); (case k1 | k2 => k_asm); (case k3 | k4 | k5 => k_asm); (case k6 | k7 => k_is); (case k8 => k_room); (case k9 => first | exact BindsTo.of_eq rfl | exact binds_K (by k_in) rfl (by k_is) rfl rfl rfl); (case kB => exact locs rfl); (case c1 => decide); (case c2 | c3 | c4 => exact rfl); intro g' L' h' FG' F' N' B' X' T' l1; (try dsimp only))
  try (refine fold_ctx ?_; intro M9 A9 e9)
  repeat' (first
    | (k_unfold; (try dsimp only))
    | ((with_reducible show wpAny _ _ (call (Value.ref _) _) _ _ _); (k_here; k_dflt (refine' linit_K ?k1 ?k2 ?k3 ?k4 ?k5 ?k6 ?_; (case k1 | k2 => k_asm); (case k3 => exact News.get (by k_asm) (List.Mem.head _)); (case k4 | k5 => k_mem); (case k6 => assumption); k_whole); intro h' n9 F' N' x9 m9 d9))
    | ((with_reducible show wpAny _ _ (setAttr (Value.ref _) _ _) _ _ _); (k_here; k_dflt (refine' setattr_K ?k1 ?k2 ?k3 ?k4 ?k5 ?k6 ?_; (case k1 | k2 | k3 => k_asm); (case k4 | k5 => k_mem); (case k6 => assumption); k_whole); intro h' n9 hh9 tk9 tk8 F' N' x9 m9 d9))
    | ((with_reducible show wpAny _ _ (callWith _ (Value.ref _) _ _ _) _ _ _); (k_here; k_dflt (refine' callWith_bound0 ?k1 ?k2 ?_; (case k1 => exact News.get (by k_asm) (List.Mem.head _)); (case k2 => first | exact Or.inl rfl | exact Or.inr rfl); k_whole)))
    | ((with_reducible show wpAny _ _ (getMethod (Value.ref _) _ _) _ _ _); (k_here; k_dflt (first | (refine' sup_len ?k1 ?k2 ?k3 ?k4 ?k5 ?_; (case k1 | k2 | k3 => k_asm); (case k4 => k_mem); (case k5 => k_inst)) | (refine' sup_init ?k1 ?k2 ?k3 ?k4 ?k5 ?_; (case k1 | k2 | k3 => k_asm); (case k4 => k_mem); (case k5 => k_inst)) | (refine' sup_pop ?k1 ?k2 ?k3 ?k4 ?k5 ?_; (case k1 | k2 | k3 => k_asm); (case k4 => k_mem); (case k5 => k_inst))); intro q' h' F' N' l1; (try dsimp only)))
    | ((fail_if_success (with_reducible show wpAny _ _ _ _ _ _)); first
      | (k_here; (with_reducible show PySem.wpAt _ _ _ (PySem.exec (PySem.Stmt.Expr (PySem.Expr.Call (PySem.Expr.Attribute (PySem.Expr.Call _ _ _ _) _ _) _ _ _) _) _) _ _ _); k_dflt (refine ks_wpAt_Expr_any ?_))
      | (k_here; (with_reducible show PySem.wpAt _ _ _ (PySem.eval (PySem.Expr.Call (PySem.Expr.Attribute (PySem.Expr.Call _ _ _ _) _ _) _ _ _) _) _ _ _); k_dflt (refine ks_wpAt_MethodCall ?_))
      | (k_here; with_reducible refine ks_wpAt_execs_cons ?_)
      | fail "no own line")
    | (walk1) | (dsimp only; walk1) | (leave1; (try dsimp only)) | fail "no step")
  rename Ext [px] _ _ => e2
  rename Ext [dx] _ _ => e1
  refine hret _ _ _ _ _ (by assumption) (by assumption) hg ⟨px, dx, rfl, ?_, ⟨⟨_, by assumption⟩, ⟨_, _, _, _, by assumption⟩, hne⟩, hfr⟩
  intro b o hb _
  have hbb := hfr _ hb
  exact e2 b o (.tail _ (.tail _ (e1 b o (hx1 b o hb (by simp)) (by simpa using hbb.2)))) (by simpa using hbb.1)
end
section
open PySem PySem.W PyProof.Rows
open PySem.Calls PySem.Spec
set_option maxRecDepth 100000
set_option maxHeartbeats 8000000
/-! the table of __len__'s code: object 80, kept in the ledger -/
def Tab (news : Led) : Prop := ∃ ps, (80, tabObj ps) ∈ news ∧ TriplesOk ps.toList
theorem Tab.ext {news news' : Led} {X : List Addr} (t : Tab news) (h : Ext X news news') (hx : 80 ∉ X) : Tab news' := by
  obtain ⟨ps, a, b⟩ := t
  exact ⟨ps, h _ _ a hx, b⟩
def isHead (K : Frag) (c P : Addr) : Bool := match K.lookup c with
  | some ⟨cls, _, .fields vs, _⟩ => (cls == .type "code") && (vs[11]? == some (.ref P)) && (match vs.getD 18 .none with | .str _ _ => true | _ => false) &&
      (match vs.getD 7 .none with | .int _ _ => true | _ => false) && (match vs.getD 9 .none with | .bool _ => true | _ => false) && (match vs.getD 10 .none with | .int _ _ => true | _ => false) && (c != P)
  | _ => false
theorem head_of {K : Frag} {h : Heap} {c P : Addr} (X : K.In h) (e : isHead K c P = true) : CodeHd h c P := by
  unfold isHead at e
  split at e
  · rename_i cls od vs sl ho
    simp only [Bool.and_eq_true] at e
    obtain ⟨⟨⟨⟨⟨⟨e1, e2⟩, e3⟩, e4⟩, e5⟩, e6⟩, e7⟩ := e
    have e2' : vs[11]? = some (.ref P) := by simpa using e2
    cases h18 : vs.getD 18 .none <;> rw [h18] at e3 <;> try (exact Bool.noConfusion e3)
    cases h7 : vs.getD 7 .none <;> rw [h7] at e4 <;> try (exact Bool.noConfusion e4)
    cases h9 : vs.getD 9 .none <;> rw [h9] at e5 <;> try (exact Bool.noConfusion e5)
    cases h10 : vs.getD 10 .none <;> rw [h10] at e6 <;> try (exact Bool.noConfusion e6)
    exact ⟨_, vs, _, _, _, _, _, _, _, X _ _ ho, by simpa using e1, rfl, e2', by rw [Array.getD_eq_getD_getElem?, e2']; rfl, h18, h7, h9, h10, by simpa using e7⟩
  · cases e
theorem k_head84 (w : World) : isHead (KH w) 84 80 = true := by kernel_rfl
section
variable {prog : Program} {w : World} {A : Around} {E : Value → Shared → Prop} {s : Shared} {h₀ : Heap} {L p q dx it : Addr} {m : Str → Option Value} {news : Led} {items : List Value} {n : Nat}
theorem keep_FN {h h' : Heap} (F : Fr h₀ L h m) (N : News h₀ L h news) (hk : ∀ b o, h.get? b = some o → h'.get? b = some o) : Fr h₀ L h' m ∧ News h₀ L h' news :=
  ⟨⟨F.ns.keeps hk, fun b o e => hk _ _ (F.keep b o e), F.above⟩, fun r hr => ⟨hk _ _ (N r hr).1, (N r hr).2⟩⟩
theorem gx_code {env : Env} {pos : Pos} {qualname : Str} {scope : Scope} {ps : Array Value} {Q : Value → Shared → Prop} (hc : env.code = .ref 84) (X : (KH w).In h₀) (F : Fr h₀ L s.heap m) (N : News h₀ L s.heap news) (ht : (80, tabObj ps) ∈ news) (tr : TriplesOk ps.toList)
    (h : ∀ cv h' tk ps', Fr h₀ L h' m → News h₀ L h' (put news 80 (tabObj ps')) → TriplesOk ps'.toList → Q cv { s with heap := h', toks := tk }) :
    wpAny (model prog w) A (genexprCode env pos qualname scope) Q E s := by
  have C : CodeHd s.heap 84 80 := (head_of X (k_head84 w)).keeps F.keep
  have hP := (N _ ht).1
  have ok := C.code hP tr
  have tb := C.tab hP
  cases hf : codeAmong pos ps.toList with
  | some cv =>
    have N' : News h₀ L s.heap (put news 80 (tabObj ps)) := fun r hr => by
      obtain ⟨r', hr', rfl⟩ := List.mem_map.mp hr
      by_cases e : r'.1 = 80
      · rw [if_pos e]; exact N _ ht
      · rw [if_neg e]; exact N _ hr'
    exact wpAny_genexprCode_hit hc ok hf (h cv s.heap s.toks ps F N' tr)
  | none =>
    refine wpAny_genexprCodeX hc ok tb hf fun c' h' tk hx _ _ hcode _ htab _ => ?_
    have hL : L ≠ 80 := fun e => (N _ ht).2.1 e.symm
    refine h _ h' tk (ps ++ #[rawInt pos.line, rawInt pos.col, .ref c']) ⟨F.ns.extBut hx hL, fun b o e => hx b o (fun q => ?_) (F.keep b o e), F.above⟩ (fun r hr => ?_) ?_
    · have := (N _ ht).2.2; rw [q] at e; rw [this] at e; cases e
    · obtain ⟨r', hr', rfl⟩ := List.mem_map.mp hr
      by_cases e : r'.1 = 80
      · rw [if_pos e]; exact ⟨htab.2, (N _ ht).2⟩
      · rw [if_neg e]; exact ⟨hx _ _ e (N _ hr').1, (N _ hr').2⟩
    · obtain ⟨_, _, _, _, _, _, _, _, _, _, _, _, _, _, _, _, _, _, _, t, _⟩ := hcode
      exact t
theorem k_iter (w : World) : findIn (KH w) (.ref 118) "__iter__" = some (some (.builtin "list.__iter__")) := by kernel_rfl
theorem entry_it : entryFor table "list.__iter__" = some Builtin.«list.__iter__» := entryFor_of_tree (by kernel_rfl)
theorem args_it (a : Value) : argsOk "list.__iter__" ⟨[a], []⟩ := by unfold argsOk; kernel_rfl
theorem pl_it : plainId "list.__iter__" = true := by decide +kernel
theorem kind_it : builtinKind "list.__iter__" = some .slot := by decide +kernel
theorem split_it : splitId "list.__iter__" = some ("list", "__iter__") := by decide +kernel
theorem pile_pyIter {od : Option Obj} {Q : Value → Shared → Prop} (X : (KH w).In s.heap) (I : InstAt s.heap p (pileObj dx items n) 118 od)
    (h : Q (.ref s.heap.objs.size) { s with heap := s.heap.push { cls := .type "list_iterator", data := .fields #[.ref p, .int 0 0] } }) :
    wpAny (model prog w) A (pyIter (.ref p)) Q E s := by
  have hcall : wpAny (model prog w) A (call (.builtin "list.__iter__") [.ref p]) (fun v s' => v = .ref s.heap.objs.size ∧ s' = { s with heap := s.heap.push { cls := .type "list_iterator", data := .fields #[.ref p, .int 0 0] } }) E s := by
    refine call_by (id := "list.__iter__") (args := [.ref p]) (b := Builtin.«list.__iter__») pl_it entry_it (fun _ _ _ hq => check_slot (i := "list.__iter__") (owner := "list") (n := "__iter__") (self := .ref p) (rest := []) (kw := []) kind_it split_it (pile_is X I) (args_it _) hq) ?_
    · show wpAny _ _ (do ret (← newFields "list_iterator" [.ref p, rawInt 0])) _ _ s
      exact wpAny_bind (wpAny_newObj_type (wpAny_pure ⟨_, rfl, rfl, rfl⟩))
  unfold pyIter
  refine wpAny_bind (pile_special X I (k_iter w) ?_)
  dsimp only
  unfold callSpecialIfBoundUnlessNone? bindSpecialIfBound?
  refine wpAny_bind (wpAny_holding (wpAny_bind (wpAny_bind (pile_special X I (k_iter w) ?_))))
  dsimp only
  rw [slot_list_iter.bind]
  refine wpAny_bind (wpAny_askSetting (wpAny_ite ?_))
  have fin : wpAny (model prog w) A (if (Value.builtin "list.__iter__" == Value.none) = true then ((do rule "iter.none"; raiseError "TypeError" s!"'{← typeNameOf (.ref p)}' object is not iterable") >>= fun v => pure (some v)) else (call (.builtin "list.__iter__") [.ref p] >>= fun v => pure (some v)))
      (fun r s' => wpAny (model prog w) A (match r with
        | some it => (do match ← specialOf it "__next__" with
            | none => rule "iter.non-iterator"; raiseError "TypeError" s!"iter() returned non-iterator of type '{← typeNameOf it}'"
            | some _ => pure it)
        | none => (do match ← bindSpecialIfBound? (.ref p) "__getitem__" with
            | none => rule "iter.not-iterable"; raiseError "TypeError" s!"'{← typeNameOf (.ref p)}' object is not iterable"
            | some _ => rule "iter.getitem-fallback"; newFields "iterator" [.ref p, ← mkInt 0])) Q E s') E s := by
    rw [if_neg (show ¬ ((Value.builtin "list.__iter__" == Value.none) = true) from Bool.false_ne_true)]
    refine wpAny_bind (wpAny_mono hcall (fun v s' hv => ?_) fun _ _ z => z)
    obtain ⟨rfl, rfl⟩ := hv
    refine wpAny_pure ?_
    dsimp only
    exact wpAny_bind (wpAny_specialOf (T := "list_iterator") ⟨_, Heap.get?_push_size _ rfl, rfl⟩ slot_listiter_next.lookup (wpAny_pure h))
  split
  · exact wpAny_bind (wpAny_pure (wpAny_pure fin))
  · exact wpAny_tryCatch (wpAny_bind (wpAny_pure (wpAny_pure fin)))
theorem pile_end {Q : Option Value → Shared → Prop} (hh : A.handled = none) (hit : s.heap.IsListIter it p 0) (hp : ∃ n, s.heap.get? p = some (pileObj dx [] n))
    (hQ : ∀ h', Heap.ExtBut it s.heap h' → Q none { s with heap := h' }) : wpAny (model prog w) A (pyNext (.ref it)) Q E s := by
  obtain ⟨o, ho, hc, hd⟩ := id hit
  obtain ⟨n, hp⟩ := hp
  unfold pyNext
  refine wpAny_bind (wpAny_attempt (wpAny_callSpecial?_slot (name := Str.ofString "__next__") hit.typeIs slot_listiter_next
    (wpAny_call_entry slot_listiter_next hit.typeIs entry_listiter_next ?_ (args_listiter_next _))))
  show wpAny _ _ (field (.ref it) 0 >>= _) _ _ s
  refine wpAny_bind (wpAny_field ho hd (x := .ref p) rfl ?_)
  show wpAny _ _ (if (Value.ref p == Value.none) = true then _ else _) _ _ s
  rw [if_neg (show ¬ ((Value.ref p == Value.none) = true) from Bool.false_ne_true)]
  show wpAny _ _ (field (.ref it) 1 >>= _) _ _ s
  refine wpAny_bind (wpAny_field ho hd (x := .int 0 0) rfl ?_)
  show wpAny _ _ (seqItems? (.ref p) >>= _) _ _ s
  refine wpAny_bind (wpAny_seqItems hp rfl ?_)
  dsimp only [List.toArray, Int.toNat]
  refine wpAny_bind (wpAny_rule (wpAny_bind (wpAny_setField ho hd (by simp) ?_)))
  show wpAny _ _ (newExc (.type "StopIteration") [] >>= _) _ _ _
  refine wpAny_bind ?_
  simp only [newExc, newTuple]
  refine wpAny_bind (wpAny_newObj_type ?_ (by size_fits))
  refine wpAny_bind (m := firstArgMember _ _) (wpAny_of_eq (a := Value.none) (by first | rfl | (simp only [firstArgMember]; rfl)) ?_)
  refine wpAny_newObj_type ?_ (by size_fits)
  simp only [raiseNew]
  refine wpAny_bind (wpAny_handled ?_)
  rw [show A.in1.handled = none from hh]
  refine wpAny_bind (wpAny_pure (wpAny_throw ?_))
  refine wpAny_bind (wpAny_isInstance (T := "StopIteration") (b := true) ⟨_, Heap.get?_push_size _ rfl, rfl⟩ isSubtype_stop ?_)
  exact wpAny_pure (hQ _ (((Heap.SameBut.update ..).extBut.push _).push _))
theorem walks_pile0 (hh : A.handled = none) : WalksU prog w A it [it, p] [it] 0 (fun _ _ => False) (fun _ h => h.IsListIter it p 0 ∧ ∃ n, h.get? p = some (pileObj dx [] n)) (fun _ _ _ => False) where
  sub := fun b hb => by simp at hb; simp [hb]
  frame := fun _ h h' st hk => by
    obtain ⟨⟨o, a, b⟩, n, c⟩ := st
    exact ⟨⟨o, hk it (by simp) _ a, b⟩, n, hk p (by simp) _ c⟩
  item := fun i s Q E hi => absurd hi (Nat.not_lt_zero _)
  go := fun _ _ _ _ _ _ _ _ hm => hm.elim
  apart := fun _ _ _ hm => hm.elim
  done := fun s Q E st hQ => pile_end hh st.1 st.2 fun h' hx => hQ h' s.toks fun b o hb e => hx b o (fun q => hb (by simp [q])) e
  self := fun _ _ _ _ st hQ => wpAny_pyIter_listiter st.1 hQ
theorem args_sum2 (a b : Value) : argsOk "sum" ⟨[a, b], []⟩ := by unfold argsOk; kernel_rfl
theorem sum0 {I : Addr} {fp wr : List Addr} {G : Array GenState → Array GenState → Prop} {P : Nat → Value → Prop} {St : Nat → Shared → Prop} {t : Tok} {Q : Value → Shared → Prop} (W : WalksS prog w A.in1 I fp wr G 0 P St) (hst : St 0 s) (hfp : ∀ b ∈ fp, b < s.heap.objs.size)
    (hQ : ∀ s' t', Moved wr G s s' → Q (.int 3 t') s') : wpAny (model prog w) A (call (.builtin "sum") [.ref I, .int 3 t]) Q E s := by
  refine call_function_tree F.kind_sum F.plain_sum F.entry_sum (args_sum2 _ _) ?_
  unfold Builtin.«sum»
  simp only [List.length_cons, List.length_nil]
  rw [if_neg (by decide)]
  refine wpAny_bind (wpAny_of_eq (show Builtin.Builtins.bindParams "sum" ["start"] 0 { pos := [.int 3 t] } = pure [some (.int 3 t)] from rfl) ?_)
  refine wpAny_bind (W.self 0 _ _ _ hst ?_)
  dsimp only
  refine wpAny_bind ?_
  refine wpAny_rule (wpAny_bind (wpAny_mkInt (wpAny_bind (wpAny_pure ?_))))
  dsimp only
  simp only [List.forIn_cons, List.forIn_nil]
  refine wpAny_bind (wpAny_bind (wpAny_bind (wpAny_isInstance (T := "int") (b := false) (typeIs_int _ _ _) PySem.sub_int_str ?_)))
  simp only [Bool.false_eq_true, if_false]
  refine wpAny_pure (wpAny_bind (wpAny_bind (wpAny_isInstance (T := "int") (b := false) (typeIs_int _ _ _) PySem.sub_int_bytes ?_)))
  simp only [Bool.false_eq_true, if_false]
  refine wpAny_pure (wpAny_bind (wpAny_bind (wpAny_isInstance (T := "int") (b := false) (typeIs_int _ _ _) PySem.sub_int_bytearray ?_)))
  simp only [Bool.false_eq_true, if_false]
  refine wpAny_pure (wpAny_pure ?_)
  refine wpAny_bind (wpAny_newObj_type ?_ (by size_fits))
  have hSf : s.heap.objs.size ∉ fp := fun hm => Nat.lt_irrefl _ (hfp _ hm)
  refine wpAny_pure ⟨plainId_quiet F.plain_sum_loop _, ?_⟩
  refine codeAny_builtin F.entry_sum_loop ?_
  rw [Around.under_plainId F.plain_sum_loop _]
  have hst2 : St 0 { s with heap := s.heap.push { cls := .type "list", data := .seq #[.int 3 s.toks] }, toks := s.toks + 1 } := W.frame 0 s _ _ hst (Nat.le_succ _) fun b _ o e => Heap.get?_push_of_some _ e
  show wpAny _ A.in1 (seqItems? (.ref s.heap.objs.size) >>= _) _ _ _
  refine wpAny_bind (wpAny_seqItems (Heap.get?_push_size _ rfl) rfl ?_)
  show wpAny _ A.in1 (tryCatch (pyNext (.ref I)) _ >>= _) _ _ _
  refine wpAny_bind (wpAny_tryCatch (W.done _ _ _ hst2 fun s' hm => ?_))
  refine wpAny_pure ?_
  have hm2 : Moved (s.heap.objs.size :: wr) G { s with heap := s.heap.push { cls := .type "list", data := .seq #[.int 3 s.toks] }, toks := s.toks + 1 } s' := hm.mono fun b hb => List.mem_cons_of_mem _ hb
  exact hQ s' s.toks (hm2.drop_new (Nat.le_succ _))
end
end
section
open PySem PySem.W PyProof.Rows
open PySem.Calls PySem.Spec
set_option maxRecDepth 100000
set_option maxHeartbeats 8000000
def Gx (prog : Program) (w : World) (A : Around) (L : Addr) (news : Led) (a : Addr) (s : Shared) : Prop :=
  ∃ fp wr g P St, WalksS prog w A.in4 a fp wr (GenOnlyQ g) 0 P St ∧ St 0 s ∧ (∀ b ∈ fp, b < s.heap.objs.size) ∧ (∀ b ∈ wr, L < b ∧ ∀ r ∈ news, r.1 ≠ b)
section
variable {prog : Program} {w : World} {A : Around} {E : Value → Shared → Prop} {s : Shared} {h₀ : Heap} {L p q dx it : Addr} {m mg mb : Str → Option Value} {mean : ExcName → Option Value} {pp : Program} {loose : List Str} {news : Led} {items : List Value} {n : Nat}
theorem gx_pile {env : Env} {elt : Expr} {xs xa xb : Str} {px pa pb pt : Pos} {kt : Nat} {scope : Scope} {pos : Pos} {ps : Array Value} {od : Option Obj} {Q : Value → Shared → Prop}
    (hh : A.handled = none) (hco : scope.isCoroutine = false) (hclos : closureFor scope env = pure []) (hcell : ∀ y ∈ scope.names, y.2 ≠ .cell) (h0 : scope.names.lookup (".0" : Str) = some NameKind.local)
    (hxa : scope.names.lookup xa = some .local) (hxb : scope.names.lookup xb = some .local) (hab : xa ≠ xb) (hkind : scope.kind = .function) (hroom : A.depth < recursionLimit)
    (X : (KH w).In h₀) (F : Fr h₀ L s.heap m) (N : News h₀ L s.heap news) (T : Top pp loose mean mg mb h₀) (hg : AllBare s.gens) (I : InstAt s.heap p (pileObj dx [] n) 118 od) (hp : (p, pileObj dx [] n) ∈ news) {hv : Int} {tkv tiv : Tok} {nv : Nat} (hdx : (dx, sizeDict hv tkv tiv nv) ∈ news) (ht : (80, tabObj ps) ∈ news) (tr : TriplesOk ps.toList)
    (hc : env.code = .ref 84) (hgl : env.globals = mainGlobals) (hev : ∀ Q' : Value → Shared → Prop, Q' (.ref p) s → wpAny (model prog w) A (eval (.Name xs px) env) Q' E s)
    (h : ∀ a h' g' tk' news', Fr h₀ L h' m → News h₀ L h' news' → Tab news' → Ext [80] news news' → (p, pileObj dx [] n) ∈ news' → (dx, sizeDict hv tkv tiv nv) ∈ news' → AllBare g' → Gx prog w A L news' a { heap := h', gens := g', drawn := s.drawn, toks := tk', os := s.os } →
      Q (.ref a) { heap := h', gens := g', drawn := s.drawn, toks := tk', os := s.os }) :
    wpAny (model prog w) A (eval (.GeneratorExp elt [⟨.Tuple [.Name xa pa, .Name xb pb] kt pt, .Name xs px, [], 0⟩] scope pos) env) Q E s := by
  refine wpAny_GeneratorExp_walksQT hh hco hclos hcell h0 hxa hxb hab hkind hroom (hev _ (pile_pyIter (X.keeps F.keep) I ?_)) (fun _ => rfl)
  have F1 := F.push { cls := .type "list_iterator", data := .fields #[.ref p, .int 0 0] }
  have N1 := N.push F { cls := .type "list_iterator", data := .fields #[.ref p, .int 0 0] }
  refine ⟨T.nolimit.keeps F1.keep, ?_⟩
  have hlt : ∀ r ∈ news, r.1 < s.heap.objs.size := fun r hr => Heap.lt_size (N r hr).1
  have h80 : (80 : Addr) < s.heap.objs.size := hlt _ ht
  have hit80 : s.heap.objs.size ≠ 80 := Nat.ne_of_gt h80
  have hp80 : p ≠ 80 := fun e => by
    have a1 := (N _ hp).1
    have a2 := (N _ ht).1
    dsimp only at a1 a2
    rw [e, a2] at a1
    injection a1 with a1
    injection a1 with a1
    cases a1
  have hdx80 : dx ≠ 80 := fun e => by
    have a1 := (N _ hdx).1
    have a2 := (N _ ht).1
    dsimp only at a1 a2
    rw [e, a2] at a1
    injection a1 with a1
    injection a1 with a1
    cases a1
  refine gx_code hc X F1 N1 (.tail _ ht) tr fun cv h' tk ps' F' N' tr' => ?_
  obtain ⟨bm, ob, b1, b2, b3, b4, b5, b6⟩ := T.bmain
  rw [hgl]
  refine wpAny_builtinsFor (T.g.keeps F'.keep) b1 b2 (F'.keep _ _ b3) b4 b5 b6 ?_
  have hit := (N' _ (put_other (List.Mem.head _) hit80)).1
  have hpp := (N' _ (put_other (List.Mem.tail _ hp) hp80)).1
  have lim := T.nolimit.keeps F'.keep
  have hcs : cStatics < s.heap.objs.size := let ⟨_, hn, _⟩ := T.nolimit.keeps F.keep; hn.lt
  have hLs : L < s.heap.objs.size := F.ns.lt
  have hitC := Heap.lt_size hit
  refine ⟨s.heap.objs.size, [s.heap.objs.size, p], [s.heap.objs.size], 0, _, _, _, fun _ => true, fun _ _ => True, rfl, fun A' hA => walks_pile0 (dx := dx) hA, fun _ _ h => h.elim, ⟨⟨_, hit, rfl, rfl⟩, n, hpp⟩, fun b hb => ?_, lim, fun hb => ?_, fun href hk => ⟨fun _ _ _ _ _ _ _ _ hf => hf.elim, fun _ _ _ _ _ _ _ _ hf => hf.elim⟩, fun a h₅ tk' gs hb ha hsz hk W hst => ?_⟩
  · rcases List.mem_cons.mp hb with rfl | hb
    · exact hitC
    · rw [List.mem_singleton.mp hb]; exact Heap.lt_size hpp
  · rw [List.mem_singleton.mp hb] at hcs; exact Nat.lt_irrefl _ hcs
  · obtain ⟨F5, N5⟩ := keep_FN F' (fun r hr => N' r (.tail _ hr)) hk
    have hCs : s.heap.objs.size < h'.objs.size := hitC
    refine h a h₅ _ tk' _ F5 N5 ⟨ps', put_self ht, tr'⟩ (Ext.put (List.mem_singleton.mpr rfl)) (put_other hp hp80) (put_other hdx hdx80) (hg.push hb) ⟨_, _, _, _, _, W, hst, fun b hb => ?_, fun b hb => ?_⟩
    · show b < h₅.objs.size
      rw [hsz]
      rcases List.mem_cons.mp hb with rfl | hb
      · exact Nat.lt_succ_self _
      · rcases List.mem_cons.mp hb with rfl | hb
        · exact Nat.lt_succ_of_lt ha
        · exact Nat.lt_trans (List.mem_range.mp hb) (Nat.lt_succ_of_lt ha)
    · have hb' : s.heap.objs.size ≤ b := by
        rcases List.mem_cons.mp hb with rfl | hb
        · exact Nat.le_of_lt hCs
        · rw [List.mem_singleton.mp hb]; exact Nat.le_refl _
      refine ⟨Nat.lt_of_lt_of_le hLs hb', fun r hr => ?_⟩
      obtain ⟨r', hr', rfl⟩ := List.mem_map.mp hr
      by_cases e : r'.1 = 80
      · rw [if_pos e]; exact Nat.ne_of_lt (Nat.lt_of_lt_of_le h80 hb')
      · rw [if_neg e]; exact Nat.ne_of_lt (Nat.lt_of_lt_of_le (hlt _ hr') hb')
theorem Gx.later {a : Addr} {hp : Heap} {g : Array GenState} {dr : Drawn} {os : OsState} {t t' : Tok} (G : Gx prog w A L news a ⟨hp, g, dr, t, os⟩) (ht : t ≤ t') : Gx prog w A L news a ⟨hp, g, dr, t', os⟩ := by
  obtain ⟨fp, wr, g', P, St, W, hst, hfp, hwr⟩ := G
  exact ⟨fp, wr, g', P, St, W, W.frame 0 _ hp t' hst ht (fun _ _ _ e => e), hfp, hwr⟩
theorem kind_lga : builtinKind "list.__getattribute__" = some .slot := by decide +kernel
theorem split_lga : splitId "list.__getattribute__" = some ("list", "__getattribute__") := by decide +kernel
theorem args_lga (a b : Value) : argsOk "list.__getattribute__" ⟨[a, b], []⟩ := F.args_list_getattribute_2 a b
theorem getattr_pile {v : Value} {ox : Obj} {od : Option Obj} {name : Str} {expr : Bool} {Q : Value → Shared → Prop} (X₀ : (KH w).In h₀) (F : Fr h₀ L s.heap m) (I : InstAt s.heap p ox 118 od) (hf : findObj (KH w) 118 od name = some (.value v)) (hh : handedIn v = true)
    (h : Q v { s with toks := s.toks + 1 }) : wpAny (model prog w) A (getAttr (.ref p) name expr) Q E s := by
  have X := X₀.keeps F.keep
  clear F
  obtain ⟨hp, g, d, t, os⟩ := s
  have L0 := I.type (M := model prog w)
  have L1 := looks_findIn (M := model prog w) X (k_ga w)
  have L2 := looks_findIn (M := model prog w) X (k_gat w)
  have L3 := looks_find (M := model prog w) X I hf
  have hcall : ∀ E, wpAny (model prog w) A (call (.builtin "list.__getattribute__") [.ref p, .str name t]) (fun r s' => r = v ∧ s' = ⟨hp, g, d, t + 1, os⟩) E ⟨hp, g, d, t + 1, os⟩ := by
    intro E
    refine call_by (id := "list.__getattribute__") (args := [.ref p, .str name t]) (b := Builtin.«object.__getattribute__») F.slot_list_getattribute.plain am_entry_list_getattribute (fun _ _ _ hq => check_slot (i := "list.__getattribute__") (owner := "list") (n := "__getattribute__") (self := .ref p) (rest := [.str name t]) (kw := []) kind_lga split_lga (pile_is X I) (args_lga _ _) hq) ?_
    refine wpAny_bind (wpAny_pure (wpAny_bind (wpAny_pure (wpAny_bind (L0.at (wpAny_bind (L3.at ?_)))))))
    exact wpAny_pure ⟨v, rfl, rfl, rfl⟩
  unfold getAttr getAttrBy
  refine wpAny_bind (wpAny_mkText (wpAny_holding (wpAny_bind (L0.at (wpAny_bind (L1.at ?_))))))
  show wpAny _ _ (getAttrByItsOwn _ _ _ _ _ _) _ _ _
  unfold getAttrByItsOwn
  refine wpAny_bind (show wpAny _ _ (typeLookup (.ref 118) "__getattr__") _ _ _ from L2.at ?_)
  refine wpAny_bind (wpAny_attempt (wpAny_holding ?_))
  have hcg : callGetattribute (.ref p) (.str name t) (.builtin "list.__getattribute__") expr = (do let (g, first) ← bindSpecial (.builtin "list.__getattribute__") (.ref p); call g (first ++ [.str name t])) := by
    unfold callGetattribute
    rw [show (expr && onTheHeap (.builtin "list.__getattribute__")) = false from by cases expr <;> rfl]
    rfl
  rw [hcg, F.slot_list_getattribute.bind]
  refine wpAny_bind (wpAny_pure (wpAny_mono (hcall _) (fun r s' hr => ?_) fun _ _ z => z))
  obtain ⟨rfl, rfl⟩ := hr
  show wpAny _ _ (handedOut _) _ _ _
  rw [handedOut_of hh]; exact wpAny_pure h
theorem k_size (w : World) (hv : Int) (tk ti : Tok) (n : Nat) : findObj (KH w) 118 (some (sizeDict hv tk ti n)) "_initial_size" = some (.value (.int 3 ti)) := by kernel_rfl
theorem getattr_size {ox : Obj} {hv : Int} {tk ti : Tok} {n2 : Nat} {expr : Bool} {Q : Value → Shared → Prop} (X₀ : (KH w).In h₀) (F : Fr h₀ L s.heap m) (I : InstAt s.heap p ox 118 (some (sizeDict hv tk ti n2)))
    (h : Q (.int 3 ti) { s with toks := s.toks + 1 }) : wpAny (model prog w) A (getAttr (.ref p) "_initial_size" expr) Q E s := getattr_pile X₀ F I (k_size w hv tk ti n2) rfl h
theorem sum_pile {a : Addr} {t : Tok} {Q : Value → Shared → Prop} (G : Gx prog w A L news a s) (F : Fr h₀ L s.heap m) (N : News h₀ L s.heap news) (hg : AllBare s.gens)
    (h : ∀ h' g' tk' t', Fr h₀ L h' m → News h₀ L h' news → AllBare g' → Q (.int 3 t') { heap := h', gens := g', drawn := s.drawn, toks := tk', os := s.os }) :
    wpAny (model prog w) A (call (.builtin "sum") [.ref a, .int 3 t]) Q E s := by
  obtain ⟨fp, wr, g, P, St, W, hst, hfp, hwr⟩ := G
  refine sum0 W.in4_1 hst hfp fun s' t' hm => ?_
  have hd := hm.drawn
  have ho := hm.os
  have hg' := hg.movedS hm
  have F' := F.moved hm fun b hb => (hwr b hb).1
  have N' : News h₀ L s'.heap news := fun r hr => ⟨hm.heap _ _ (fun hb => (hwr _ hb).2 r hr rfl) (N r hr).1, (N r hr).2⟩
  obtain ⟨a1, a2, a3, a4, a5⟩ := s'
  dsimp only at hd ho
  subst hd ho
  exact h _ _ _ t' F' N' hg'
end
theorem len_tel {w : World} (p dx : Addr) :
    Tel w 85 [.ref p] 20 (fun news => Pile news p dx [] ∧ Tab news) (fun news news' r => (∃ t, r = .int 3 t) ∧ Ext [80] news news' ∧ Pile news' p dx [] ∧ Tab news') := by
  unfold Tel
  k_fill
  w_top off
  intro mean mg mb dp un gd cn cs a ccd cl outer A₀ base h₀ L m news s Q E B F X N T hk hd hu hg hp hret
  obtain ⟨⟨⟨n, hpo⟩, ⟨hh, tk, ti, n2, hpd⟩, hne⟩, ps, htab, htr⟩ := hp
  refine wpAny_call ?_
  k_dflt (refine' code_def ?k1 ?k2 ?k3 ?k4 ?k5 ?kA ?kF ?kK ?k6 ?k7 ?k8 ?k9 ?kB ?_ ?c2 ?c3 ?c4 ?c5; (case kA | kF => exact rfl); (case kK => assumption); (case k1 | k2 => k_asm); (case k3 | k4 | k5 => k_asm); (case k6 | k7 => k_is); (case k8 => ktr_room); (case k9 => first | exact BindsTo.of_eq rfl | exact binds_K (by k_in) rfl (by k_is) rfl rfl rfl); (case c5 => decide); (case kB => exact locs rfl); (case c2 | c3 | c4 => exact rfl); k_whole; intro g' L' h' FG' F' N' B' X' T'; (try dsimp only); (try k_fold))
  repeat' (first
    | (k_unfold; (try dsimp only))
    | ((with_reducible show wpAny _ _ (call (Value.builtin "sum") _) _ _ _); (k_here; k_dflt (refine' sum_pile ?k1 ?k2 ?k3 ?k4 ?_; (case k1 => first | assumption | exact Gx.later (by assumption) (Nat.le_succ _)); (case k2 | k3 => k_asm); (case k4 => assumption); k_whole); intro h' g9 tk' t9 F' N' hg9))
    | ((with_reducible show wpAny _ _ (getAttr (Value.ref _) _ _) _ _ _); (k_here; k_dflt (refine' getattr_size ?k1 ?k2 ?k3 ?_; (case k1 | k2 => k_asm); (case k3 => k_inst); k_whole)))
    | ((with_reducible show wpAny _ _ (eval _ _) _ _ _); (k_here; k_dflt (refine' gx_pile ?k1 ?k2 ?k3 ?k4 ?k5 ?k6 ?k7 ?k8 ?k9 ?ka ?kb ?kc ?kd ?ke ?kf ?kg ?kh ?kh2 ?ki ?kj ?kk ?kl ?km ?_; (case k1 | k2 | k3 => exact rfl); (case k4 => decide); (case k5 | k6 | k7 => exact rfl); (case k8 => decide); (case k9 => exact rfl); (case ka => k_room); (case kb | kc => k_asm); (case kd | ke => k_asm); (case kf => assumption); (case kg => k_inst); (case kh | kh2 | ki => k_mem); (case kj => assumption); (case kk | kl => exact rfl); (case km => intro Q' hq'; exact ld (by k_asm) rfl hq'); k_whole); intro a9 h' g9 tk' n9 F' N' tab9 ext9 mp9 md9 hg9 gx9))
    | (k_end; kc_close) | (k_end; wrow_close) | (walk1) | (dsimp only; walk1) | (leave1; (try dsimp only)) | fail "no step")
  exact hret _ _ _ _ _ (by assumption) (by assumption) (by assumption) ⟨⟨_, rfl⟩, by assumption, ⟨⟨_, by assumption⟩, ⟨_, _, _, _, by assumption⟩, hne⟩, by assumption⟩
end
section
open PySem PySem.W PyProof.Rows
open PySem.Calls PySem.Spec
set_option maxRecDepth 100000
set_option maxHeartbeats 8000000
def Uniq (news : Led) : Prop := ∀ a o o', (a, o) ∈ news → (a, o') ∈ news → o = o'
theorem News.uniq {h₀ h : Heap} {L : Addr} {news : Led} (N : News h₀ L h news) : Uniq news := fun _ _ _ h1 h2 => Option.some.inj ((N _ h1).1.symm.trans (N _ h2).1)
theorem tel_mono {w : World} {f : Addr} {args : List Value} {lvl : Nat} {Pre Pre' : Led → Prop} {Post Post' : Led → Led → Value → Prop} (C : Tel w f args lvl Pre Post) (h1 : ∀ news, Uniq news → Pre' news → Pre news)
    (h2 : ∀ news news' r, Uniq news → Uniq news' → Pre' news → Post news news' r → Post' news news' r) : Tel w f args lvl Pre' Post' :=
  fun mean mg mb dp un gd cn cs a ccd cl outer A₀ base h₀ L m news s Q E B F X N T hk hd hu hg hp hret =>
    C mean mg mb dp un gd cn cs a ccd cl outer A₀ base h₀ L m news s Q E B F X N T hk hd hu hg (h1 _ (News.uniq N) hp) fun r news' h' tk' g' F' N' G' P' => hret r news' h' tk' g' F' N' G' (h2 _ _ _ (News.uniq N) (News.uniq N') hp P')
abbrev RW : Program := PySem.Challenge.rw_xl0011_01.row.prog
inductive All2 {α β : Type} (R : α → β → Prop) : List α → List β → Prop where
  | nil : All2 R [] []
  | cons {a : α} {b : β} {l : List α} {m : List β} : R a b → All2 R l m → All2 R (a :: l) (b :: m)
/-- a piece on the pile -/
def Cell (news : Led) (kvs : List (Str × Value)) (v : Value) (t : Tm) : Prop := ∃ a tx ty, v = .ref a ∧ (a, tup [.str " " tx, .str (txt t) ty]) ∈ news ∧ wf t ∧ known kvs t
structure PS (w : World) (P p dx : Addr) (news : Led) (kvs : List (Str × Value)) (vs : List Value) (st : List Tm) : Prop where
  ps : PState RW w news P kvs
  pile : Pile news p dx vs.reverse
  stk : All2 (Cell news kvs) vs st
  tab : Tab news
  uni : Uniq news
  pP : p ≠ P
  dP : dx ≠ P
abbrev Off (P p dx : Addr) : List Addr := [P, 80, p, dx]
inductive Got0 (w : World) (P p dx : Addr) (kvs : List (Str × Value)) (vs : List Value) (st : List Tm) (news news' : Led) : Value → Prop where
  | mk {l : Addr} (x : Ext (Off P p dx) news news') (S : PS w P p dx news' kvs vs st) (m : (l, lst []) ∈ news')  : Got0 w P p dx kvs vs st  news news' (.ref l)
inductive Got1 (w : World) (P p dx : Addr) (kvs : List (Str × Value)) (vs : List Value) (st : List Tm) (t1 : Tm) (news news' : Led) : Value → Prop where
  | mk {l a1 : Addr} {x1 y1 : Tok} (x : Ext (Off P p dx) news news') (S : PS w P p dx news' kvs vs st) (m : (l, lst [.ref a1]) ∈ news') (m1 : (a1, tup [.str " " x1, .str (txt t1) y1]) ∈ news') (wf1 : wf t1) (kn1 : known kvs t1) : Got1 w P p dx kvs vs st t1 news news' (.ref l)
inductive Got2 (w : World) (P p dx : Addr) (kvs : List (Str × Value)) (vs : List Value) (st : List Tm) (t1 t2 : Tm) (news news' : Led) : Value → Prop where
  | mk {l a1 a2 : Addr} {x1 y1 x2 y2 : Tok} (x : Ext (Off P p dx) news news') (S : PS w P p dx news' kvs vs st) (m : (l, lst [.ref a2, .ref a1]) ∈ news') (m1 : (a1, tup [.str " " x1, .str (txt t1) y1]) ∈ news') (wf1 : wf t1) (kn1 : known kvs t1) (m2 : (a2, tup [.str " " x2, .str (txt t2) y2]) ∈ news') (wf2 : wf t2) (kn2 : known kvs t2) : Got2 w P p dx kvs vs st t1 t2 news news' (.ref l)
inductive Got3 (w : World) (P p dx : Addr) (kvs : List (Str × Value)) (vs : List Value) (st : List Tm) (t1 t2 t3 : Tm) (news news' : Led) : Value → Prop where
  | mk {l a1 a2 a3 : Addr} {x1 y1 x2 y2 x3 y3 : Tok} (x : Ext (Off P p dx) news news') (S : PS w P p dx news' kvs vs st) (m : (l, lst [.ref a3, .ref a2, .ref a1]) ∈ news') (m1 : (a1, tup [.str " " x1, .str (txt t1) y1]) ∈ news') (wf1 : wf t1) (kn1 : known kvs t1) (m2 : (a2, tup [.str " " x2, .str (txt t2) y2]) ∈ news') (wf2 : wf t2) (kn2 : known kvs t2) (m3 : (a3, tup [.str " " x3, .str (txt t3) y3]) ∈ news') (wf3 : wf t3) (kn3 : known kvs t3) : Got3 w P p dx kvs vs st t1 t2 t3 news news' (.ref l)
inductive GotG (kvs : List (Str × Value)) (f l : Tm) (news : Led) : Led → Value → Prop where
  | mk {a : Addr} {tf tl : Tok} (m : (a, tup [.str (txt f) tf, .str (txt l) tl]) ∈ news) (kf : known kvs f) (kl : known kvs l) : GotG kvs f l news news (.ref a)
inductive GotP (w : World) (P p dx : Addr) (kvs : List (Str × Value)) (vs : List Value) (st : List Tm) (t : Tm) (news news' : Led) : Value → Prop where
  | mk {a : Addr} {tx ty : Tok} (x : Ext (Off P p dx) news news') (S : PS w P p dx news' kvs vs st) (m : (a, tup [.str " " tx, .str (txt t) ty]) ∈ news') (wf : wf t) (kn : known kvs t) : GotP w P p dx kvs vs st t news news' (.ref a)
inductive GotT (w : World) (P p dx : Addr) (kvs : List (Str × Value)) (vs : List Value) (st : List Tm) (t : Tm) (K : Nat) (news news' : Led) : Value → Prop where
  | mk {tk : Tok} {kvs' : List (Str × Value)} (x : Ext (Off P p dx) news news') (S : PS w P p dx news' kvs' vs st) (kn : known kvs' t) (mo : ∀ u, known kvs u → known kvs' u) (le : kvs'.length ≤ kvs.length + K) (wf : wf t) : GotT w P p dx kvs vs st t K news news' (.str (txt t) tk)
section
variable {w : World} {P p dx : Addr} {news news' : Led} {kvs kvs' : List (Str × Value)} {vs : List Value} {st : List Tm}
theorem Cell.ext {v : Value} {t : Tm} {X : List Addr} (c : Cell news kvs v t) (h : Ext X news news') (hX : ∀ a ys, (a, tup ys) ∈ news → a ∉ X) (hk : ∀ u, known kvs u → known kvs' u) : Cell news' kvs' v t := by
  obtain ⟨a, tx, ty, e, m, wf, kn⟩ := c
  exact ⟨a, tx, ty, e, h _ _ m (hX _ _ m), wf, hk _ kn⟩
theorem cells_ext {X : List Addr} (h : Ext X news news') (hX : ∀ a ys, (a, tup ys) ∈ news → a ∉ X) (hk : ∀ u, known kvs u → known kvs' u) : ∀ {vs : List Value} {st : List Tm}, All2 (Cell news kvs) vs st → All2 (Cell news' kvs') vs st
  | _, _, .nil => .nil
  | _, _, .cons a r => .cons (a.ext h hX hk) (cells_ext h hX hk r)
theorem PS.obj (S : PS w P p dx news kvs vs st) : ∃ o, (P, o) ∈ news ∧ o.cls = .type "dict" := by
  obtain ⟨o, ho, hd⟩ := S.ps.obj
  obtain ⟨_, _, he, _⟩ := hd
  exact ⟨o, ho, he.1⟩
theorem PS.p80 (S : PS w P p dx news kvs vs st) : p ≠ 80 := fun e => by
  obtain ⟨n, a⟩ := S.pile.obj
  obtain ⟨ps, b, _⟩ := S.tab
  rw [e] at a
  have := S.uni _ _ _ a b
  injection this with this
  cases this
theorem PS.d80 (S : PS w P p dx news kvs vs st) : dx ≠ 80 := fun e => by
  obtain ⟨_, _, _, _, a⟩ := S.pile.dict
  obtain ⟨ps, b, _⟩ := S.tab
  rw [e] at a
  have := S.uni _ _ _ a b
  injection this with this
  cases this
theorem PS.P80 (S : PS w P p dx news kvs vs st) : P ≠ 80 := fun e => by
  obtain ⟨o, a, c⟩ := S.obj
  obtain ⟨ps, b, _⟩ := S.tab
  rw [e] at a
  have := S.uni _ _ _ a b
  rw [this] at c
  cases c
/-- an object of another class is off all that moves -/
theorem PS.off (S : PS w P p dx news kvs vs st) {a : Addr} {o : Obj} (h : (a, o) ∈ news) (h1 : o.cls ≠ .type "dict") (h2 : o.cls ≠ .none) (h3 : o.cls ≠ .ref 118) : a ∉ Off P p dx := fun hm => by
  rcases List.mem_cons.mp hm with rfl | hm
  · obtain ⟨o', a', c⟩ := S.obj
    rw [S.uni _ _ _ h a'] at h1; exact h1 c
  rcases List.mem_cons.mp hm with rfl | hm
  · obtain ⟨ps, b, _⟩ := S.tab
    rw [S.uni _ _ _ h b] at h2; exact h2 rfl
  rcases List.mem_cons.mp hm with rfl | hm
  · obtain ⟨n, b⟩ := S.pile.obj
    rw [S.uni _ _ _ h b] at h3; exact h3 rfl
  · have e := List.mem_singleton.mp hm
    subst e
    obtain ⟨_, _, _, _, b⟩ := S.pile.dict
    rw [S.uni _ _ _ h b] at h1; exact h1 rfl
theorem PS.tup_off (S : PS w P p dx news kvs vs st) {a : Addr} {ys : List Value} (h : (a, tup ys) ∈ news) : a ∉ Off P p dx := S.off h (fun e => by injection e with e; exact absurd e (by decide)) (fun e => by cases e) (fun e => by cases e)
theorem PS.lst_off (S : PS w P p dx news kvs vs st) {a : Addr} {ys : List Value} (h : (a, lst ys) ∈ news) : a ∉ Off P p dx := S.off h (fun e => by injection e with e; exact absurd e (by decide)) (fun e => by cases e) (fun e => by cases e)
theorem PS.keep_tup (S : PS w P p dx news kvs vs st) {a : Addr} {ys : List Value} (h : (a, tup ys) ∈ news) (e : Ext (Off P p dx) news news') : (a, tup ys) ∈ news' := e _ _ h (S.tup_off h)
theorem PS.keep_lst (S : PS w P p dx news kvs vs st) {a : Addr} {ys : List Value} (h : (a, lst ys) ∈ news) (e : Ext (Off P p dx) news news') : (a, lst ys) ∈ news' := e _ _ h (S.lst_off h)
theorem off_P : ∀ b ∈ [P], b ∈ Off P p dx := fun b hb => by rw [List.mem_singleton.mp hb]; exact .head _
theorem off_80 : ∀ b ∈ [(80 : Addr)], b ∈ Off P p dx := fun b hb => by rw [List.mem_singleton.mp hb]; exact .tail _ (.head _)
theorem off_p : ∀ b ∈ [p], b ∈ Off P p dx := fun b hb => by rw [List.mem_singleton.mp hb]; exact .tail _ (.tail _ (.head _))
theorem off_nil : ∀ b ∈ ([] : List Addr), b ∈ Off P p dx := fun b hb => by cases hb
theorem PS.nottup (S : PS w P p dx news kvs vs st) : ∀ b ∈ Off P p dx, ∀ o, (b, o) ∈ news → ∀ ys, o ≠ tup ys := fun b hb o ho ys e => S.tup_off (e ▸ ho) hb
/-- a move of P alone -/
theorem PS.moveP (S : PS w P p dx news kvs vs st) (e : Ext [P] news news') (u : Uniq news') (S' : PState RW w news' P kvs') (hk : ∀ u, known kvs u → known kvs' u) : PS w P p dx news' kvs' vs st where
  ps := S'
  pile := S.pile.ext e (fun h => S.pP (List.mem_singleton.mp h)) (fun h => S.dP (List.mem_singleton.mp h))
  stk := cells_ext e (fun a ys h hx => S.tup_off h (off_P _ hx)) hk S.stk
  tab := S.tab.ext e (fun h => S.P80 (List.mem_singleton.mp h).symm)
  uni := u
  pP := S.pP
  dP := S.dP
theorem PS.move80 (S : PS w P p dx news kvs vs st) (e : Ext [80] news news') (u : Uniq news') (t : Tab news') : PS w P p dx news' kvs vs st where
  ps := S.ps.ext e (fun h => S.P80 (List.mem_singleton.mp h)) (fun b hb => S.nottup b (off_80 b hb))
  pile := S.pile.ext e (fun h => S.p80 (List.mem_singleton.mp h)) (fun h => S.d80 (List.mem_singleton.mp h))
  stk := cells_ext e (fun a ys h hx => S.tup_off h (off_80 _ hx)) (fun _ h => h) S.stk
  tab := t
  uni := u
  pP := S.pP
  dP := S.dP
/-- a move of the pile alone: all but the pile's own items stays -/
theorem PS.movep (S : PS w P p dx news kvs vs st) {vs' : List Value} {st' : List Tm} (e : Ext [p] news news') (u : Uniq news') (pl : Pile news' p dx vs'.reverse) (hs : All2 (Cell news' kvs) vs' st') : PS w P p dx news' kvs vs' st' where
  ps := S.ps.ext e (fun h => S.pP (List.mem_singleton.mp h).symm) (fun b hb => S.nottup b (off_p b hb))
  pile := pl
  stk := hs
  tab := S.tab.ext e (fun h => S.p80 (List.mem_singleton.mp h).symm)
  uni := u
  pP := S.pP
  dP := S.dP
theorem PS.cellp (S : PS w P p dx news kvs vs st) (e : Ext [p] news news') : All2 (Cell news' kvs) vs st := cells_ext e (fun a ys h hx => S.tup_off h (off_p _ hx)) (fun _ h => h) S.stk
/-- nothing old moves -/
theorem PS.move0 (S : PS w P p dx news kvs vs st) (e : Ext [] news news') (u : Uniq news') : PS w P p dx news' kvs vs st where
  ps := S.ps.ext e (by simp) (by simp)
  pile := S.pile.ext e (by simp) (by simp)
  stk := cells_ext e (by simp) (fun _ h => h) S.stk
  tab := S.tab.ext e (by simp)
  uni := u
  pP := S.pP
  dP := S.dP
def isApp : Tm → Bool
  | .leaf _ => false
  | .app _ _ => true
theorem has_ps (t : Tm) (tk : Tok) (ht : wf t) (hk : known kvs t) : Tel w 162 [.ref P, .str (txt t) tk] 10 (fun news => PS w P p dx news kvs vs st) (fun news news' r => r = .bool (isApp t) ∧ news' = news) :=
  tel_mono (contains_dict_tel t tk) (fun _ _ S => S.ps) fun news news' r u u' S h => by
    obtain ⟨rfl, rfl⟩ := h
    refine ⟨?_, rfl⟩
    cases t with
    | leaf c => rw [S.ps.leaf ht]; rfl
    | app f l => rw [known_iff_value.mpr hk]; rfl
theorem get_ps (f l : Tm) (tk : Tok) (hf : wf f) (hl : wf l) (hk : known kvs (.app f l)) : Tel w 169 [.ref P, .str (txt (.app f l)) tk] 10 (fun news => PS w P p dx news kvs vs st)
    (fun news news' r => GotG kvs f l news news' r) :=
  tel_mono (getitem_tel f l tk hf hl hk) (fun _ _ S => S.ps) fun _ _ _ _ _ _ h => by
    obtain ⟨rfl, a, tf, tl, rfl, m, kf, kl⟩ := h
    exact .mk m kf kl
theorem push_ps (l : Tm) (tx ty : Tok) (hl : wf l) (hk : known kvs l) (hz : vs.length < sizeLine) : Tel w 62 [.ref p, .str " " tx, .str (txt l) ty] 10 (fun news => PS w P p dx news kvs vs st)
    (fun news news' r => r = .none ∧ Ext (Off P p dx) news news' ∧ ∃ v, PS w P p dx news' kvs (v :: vs) (l :: st)) :=
  tel_mono (push_tel p dx vs.reverse " " (txt l) tx ty (by rw [List.length_reverse]; exact hz)) (fun _ _ S => S.pile) fun news news' r u u' S h => by
    obtain ⟨e1, e2, a, pl, ha⟩ := h
    refine ⟨e1, e2.weaken off_p, .ref a, S.movep e2 u' (by rw [List.reverse_cons]; exact pl) (.cons ⟨a, tx, ty, rfl, ha, hl, hk⟩ (S.cellp e2))⟩
theorem count_ps : Tel w 115 [.ref p] 10 (fun news => PS w P p dx news kvs vs st) (fun news news' r => (∃ tk, r = .int vs.length tk) ∧ Ext (Off P p dx) news news' ∧ PS w P p dx news' kvs vs st) :=
  tel_mono (count_tel p dx vs.reverse) (fun _ _ S => S.pile) fun news news' r u u' S h => by
    obtain ⟨⟨tk, e1⟩, e2, pl⟩ := h
    refine ⟨⟨tk, by rw [e1, List.length_reverse]⟩, e2.weaken off_nil, S.move0 e2 u'⟩
theorem pop_ps {v : Value} {t : Tm} (hz : vs.length < sizeLine) : Tel w 78 [.ref p] 20 (fun news => PS w P p dx news kvs (v :: vs) (t :: st))
    (fun news news' r => GotP w P p dx kvs vs st t news news' r) :=
  tel_mono (pop_tel p dx vs.reverse v (by rw [List.length_reverse]; exact hz)) (fun _ _ S => by have := S.pile; rwa [List.reverse_cons] at this) fun news news' r u u' S h => by
    obtain ⟨e2, e1, pl⟩ := h
    have hc := S.cellp e2
    cases hc with
    | cons c r =>
      obtain ⟨a, tx, ty, ev, m, wf, kn⟩ := c
      subst e1 ev
      exact .mk (e2.weaken off_p) (S.movep e2 u' pl r) m wf kn
theorem drop_rev (a : List Value) (vs : List Value) : (vs.reverse ++ a).drop vs.length = a := by
  rw [List.drop_append_of_le_length (by rw [List.length_reverse]; exact Nat.le_refl _), List.drop_of_length_le (by rw [List.length_reverse]; exact Nat.le_refl _)]; rfl
theorem take_rev (a : List Value) (vs : List Value) : (vs.reverse ++ a).take vs.length = vs.reverse := by
  rw [List.take_append_of_le_length (by rw [List.length_reverse]; exact Nat.le_refl _), List.take_of_length_le (by rw [List.length_reverse]; exact Nat.le_refl _)]
theorem from2_ps {v1 v2 : Value} {t1 t2 : Tm} (k : Int) (tk : Tok) (hk : k = vs.length) (hz : vs.length + 2 ≤ sizeLine) : Tel w 70 [.ref p, .int k tk] 10 (fun news => PS w P p dx news kvs (v1 :: v2 :: vs) (t1 :: t2 :: st))
    (fun news news' r => Got2 w P p dx kvs vs st t1 t2 news news' r) := by
  subst hk
  refine tel_mono (popfrom_tel p dx (vs.reverse ++ [v2, v1]) vs.length tk (Int.natCast_nonneg _) (by simp; omega) (by simp; omega)) (fun _ _ S => by have := S.pile; rw [List.reverse_cons, List.reverse_cons, List.append_assoc] at this; exact this) fun news news' r u u' S h => ?_
  obtain ⟨e2, l, e1, ml, pl⟩ := h
  rw [Int.toNat_natCast, drop_rev] at ml
  rw [Int.toNat_natCast, take_rev] at pl
  have hc := S.cellp e2
  cases hc with
  | cons c r => cases r with
    | cons d r =>
      obtain ⟨a1, x1, y1, ev, m1, wf1, kn1⟩ := c
      obtain ⟨a2, x2, y2, ev2, m2, wf2, kn2⟩ := d
      subst ev ev2 e1
      exact .mk (e2.weaken off_p) (S.movep e2 u' pl r) ml m1 wf1 kn1 m2 wf2 kn2
theorem from3_ps {v1 v2 v3 : Value} {t1 t2 t3 : Tm} (k : Int) (tk : Tok) (hk : k = vs.length) (hz : vs.length + 3 ≤ sizeLine) : Tel w 70 [.ref p, .int k tk] 10 (fun news => PS w P p dx news kvs (v1 :: v2 :: v3 :: vs) (t1 :: t2 :: t3 :: st))
    (fun news news' r => Got3 w P p dx kvs vs st t1 t2 t3 news news' r) := by
  subst hk
  refine tel_mono (popfrom_tel p dx (vs.reverse ++ [v3, v2, v1]) vs.length tk (Int.natCast_nonneg _) (by simp; omega) (by simp; omega)) (fun _ _ S => by have := S.pile; rw [List.reverse_cons, List.reverse_cons, List.reverse_cons, List.append_assoc, List.append_assoc] at this; exact this) fun news news' r u u' S h => ?_
  obtain ⟨e2, l, e1, ml, pl⟩ := h
  rw [Int.toNat_natCast, drop_rev] at ml
  rw [Int.toNat_natCast, take_rev] at pl
  have hc := S.cellp e2
  cases hc with
  | cons c r => cases r with
    | cons d r => cases r with
      | cons f r =>
        obtain ⟨a1, x1, y1, ev, m1, wf1, kn1⟩ := c
        obtain ⟨a2, x2, y2, ev2, m2, wf2, kn2⟩ := d
        obtain ⟨a3, x3, y3, ev3, m3, wf3, kn3⟩ := f
        subst ev ev2 ev3 e1
        exact .mk (e2.weaken off_p) (S.movep e2 u' pl r) ml m1 wf1 kn1 m2 wf2 kn2 m3 wf3 kn3
theorem from0_ps (hz : vs.length ≤ sizeLine) : Tel w 70 [.ref p] 10 (fun news => PS w P p dx news kvs vs st) (fun news news' r => Ext (Off P p dx) news news' ∧ PS w P p dx news' kvs [] [] ∧ All2 (Cell news' kvs) vs st ∧ ∃ l, r = .ref l ∧ (l, lst vs.reverse) ∈ news') :=
  tel_mono (popfrom0_tel p dx vs.reverse (by rw [List.length_reverse]; exact hz)) (fun _ _ S => S.pile) fun news news' r u u' S h => by
    obtain ⟨e2, l, e1, ml, pl⟩ := h
    exact ⟨e2.weaken off_p, S.movep e2 u' pl .nil, S.cellp e2, l, e1, ml⟩
theorem on_ps (x y : Str) (f l : Tm) (tf tl : Tok) (ex : x = txt f) (ey : y = txt l) (hf : wf f) (hl : wf l) (kf : known kvs f) (kl : known kvs l) (hlen : f.size + l.size + 1 ≤ sizeLine) (hz : kvs.length ≤ sizeLine) :
    Tel w 183 [.str x tf, .str y tl, .ref P] 20 (fun news => PS w P p dx news kvs vs st)
      (fun news news' r => GotT w P p dx kvs vs st (.app f l) 1 news news' r) :=
  tel_mono (on_telE x y f l tf tl ex ey hf hl kf kl hlen hz) (fun _ _ S => S.ps) fun news news' r u u' S h => by
    obtain ⟨⟨tk, rfl⟩, p2, kvs', p3, p4, p5, p6, p7⟩ := h
    exact .mk (p2.weaken off_P) (S.moveP p2 u' p3 p5) p4 p5 p6 p7
theorem len_ps : Tel w 85 [.ref p] 20 (fun news => PS w P p dx news kvs [] []) (fun news news' r => (∃ t, r = .int 3 t) ∧ Ext (Off P p dx) news news' ∧ PS w P p dx news' kvs [] []) :=
  tel_mono (len_tel p dx) (fun _ _ S => ⟨S.pile, S.tab⟩) fun news news' r u u' S h => by
    obtain ⟨e1, e2, pl, tb⟩ := h
    exact ⟨e1, e2.weaken off_80, S.move80 e2 u' tb⟩
end
end
section
open PySem PySem.W PyProof.Rows
open PySem.Calls PySem.Spec
set_option maxRecDepth 100000
set_option maxHeartbeats 8000000
/-! the pieces of a def, read off the written heap -/
structure FnLit where
  name : Str
  qual : Str
  params : Arguments
  body : List Stmt
  scope : Scope
  dV : Value
  kV : Value
  doc : Value
  pm : Value
  an : Option Addr
  cdv : Value
  ct : Value
def fnAt (K : Frag) (f : Addr) : Option FuncData := match K.lookup f with
  | some ⟨_, _, .func fd, _⟩ => some fd
  | _ => none
noncomputable def plainF (w : World) : (x : FnLit) ×' (fnAt (KH w) 195 = some (fnOf x.name x.qual x.params x.body x.scope x.dV x.kV x.doc x.pm x.an x.cdv x.ct)) := ⟨⟨"_law_plain", "_law_plain", _, _, _, _, _, _, _, _, _, _⟩, by with_unfolding_all rfl⟩
structure Six where
  s1 : Stmt
  s2 : Stmt
  s3 : Stmt
  s4 : Stmt
  s5 : Stmt
  s6 : Stmt
noncomputable def plainX (w : World) : (x : Six) ×' ((plainF w).1.body = [x.s1, x.s2, x.s3, x.s4, x.s5, x.s6]) := ⟨⟨_, _, _, _, _, _⟩, by with_unfolding_all rfl⟩
structure ForLit where
  tgt : Expr
  itr : Expr
  b1 : Stmt
  b2 : Stmt
  b3 : Stmt
  pos : Pos
noncomputable def plainL (w : World) : (x : ForLit) ×' ((plainX w).1.s2 = .For x.tgt x.itr [x.b1, x.b2, x.b3] [] x.pos) := ⟨⟨_, _, _, _, _, _⟩, by with_unfolding_all rfl⟩
noncomputable abbrev plEnv (w : World) (L : Addr) : Env := envOf (plainF w).1.qual (plainF w).1.scope L 195 (plainF w).1.cdv
noncomputable abbrev plA (w : World) (dp un : Nat) (gd : Option (List Code)) (L : Addr) (outer : List Env) : Around := ktrTop dp un gd (plainF w).1.qual (plainF w).1.scope L 195 (plainF w).1.cdv [] outer
abbrev mP (u : Str → Option Value) (tk : Tok) (t : Tm) (p P : Addr) : Str → Option Value := fun y => if y = "term" then some (.str (txt t) tk) else if y = "pile" then some (.ref p) else if y = "parts" then some (.ref P) else u y
theorem mP_self {m : Str → Option Value} {tk : Tok} {t : Tm} {p P : Addr} (h1 : m "term" = some (.str (txt t) tk)) (h2 : m "pile" = some (.ref p)) (h3 : m "parts" = some (.ref P)) : m = mP m tk t p P := by
  funext y
  show m y = if y = "term" then some (.str (txt t) tk) else if y = "pile" then some (.ref p) else if y = "parts" then some (.ref P) else m y
  by_cases e1 : y = "term"
  · rw [if_pos e1, e1]; exact h1
  · rw [if_neg e1]
    by_cases e2 : y = "pile"
    · rw [if_pos e2, e2]; exact h2
    · rw [if_neg e2]
      by_cases e3 : y = "parts"
      · rw [if_pos e3, e3]; exact h3
      · rw [if_neg e3]
theorem mP_fr {h₀ h : Heap} {L : Addr} {m : Str → Option Value} {tk : Tok} {t : Tm} {p P : Addr} (F : Fr h₀ L h m) (h1 : m "term" = some (.str (txt t) tk)) (h2 : m "pile" = some (.ref p)) (h3 : m "parts" = some (.ref P)) : Fr h₀ L h (mP m tk t p P) :=
  mP_self h1 h2 h3 ▸ F
def Less (I : Nat → Shared → Prop) (n : Nat) (s : Shared) : Prop := ∃ m, m < n ∧ I m s
theorem while_rule {prog : Program} {w : World} {A : Around} {R : Result → Shared → Prop} {s : Shared} {test : Expr} {body orelse : List Stmt} {env : Env} (I : Nat → Shared → Prop)
    (turn : ∀ n s, I n s →
      wpAny (model prog w) A (isTrue test env (eval test env)) (fun b s₂ =>
        if b then wpAny (model prog w) A (execs body env) (fun f s₃ => match f with
            | .next | .cont => Less I n s₃
            | .brk => R (.ok .next) s₃
            | .ret v => R (.ok (.ret v)) s₃) (notedBy (model prog w) A env fun e s' => R (.error e) s') s₂
        else wpAny (model prog w) A (execs orelse env) (fun f s₃ => R (.ok f) s₃) (notedBy (model prog w) A env fun e s' => R (.error e) s') s₂)
        (notedBy (model prog w) A env fun e s' => R (.error e) s') s)
    (n : Nat) (h : I n s) : codeAny (model prog w) A (.whileLoop test body orelse env) R s := codeAny_whileLoop I turn n h
/-- what holds at a turn -/
inductive WI (w : World) (P p dx L : Addr) (h₀ : Heap) (news0 : Led) (kvs : List (Str × Value)) (t0 : Tm) (st0 : List Tm) (lim : Nat) (s0 : Shared) : Nat → Shared → Prop where
  | mk {t : Tm} {tk : Tok} {u : Str → Option Value} {h' : Heap} {g' : Array GenState} {tkk : Nat} {news : Led} {vs : List Value} {st : List Tm} (F : Fr h₀ L h' (mP u tk t p P)) (N : News h₀ L h' news) (hg : AllBare g') (S : PS w P p dx news kvs vs st) (hwf : wf t) (hkn : known kvs t) (hl : vs.length + t.size ≤ lim)
    (hx : Ext (Off P p dx) news0 news) (hun : unwind t st = unwind t0 st0) : WI w P p dx L h₀ news0 kvs t0 st0 lim s0 t.size { heap := h', gens := g', drawn := s0.drawn, toks := tkk, os := s0.os }
section
variable {w : World} {A : Around} {E : Value → Shared → Prop} {s : Shared} {h₀ : Heap} {L P p dx : Addr} {m : Str → Option Value} {news : Led} {kvs : List (Str × Value)} {vs : List Value} {st : List Tm}
theorem has_leaf (c : Nat) (tk : Tok) (ht : okc c) : Tel w 162 [.ref P, .str (txt (.leaf c)) tk] 10 (fun news => PS w P p dx news kvs vs st) (fun news news' r => r = .bool false ∧ news' = news) := has_ps (.leaf c) tk ht trivial
theorem has_app_ps (f l : Tm) (tk : Tok) (ht : wf (.app f l)) (hk : known kvs (.app f l)) : Tel w 162 [.ref P, .str (txt (.app f l)) tk] 10 (fun news => PS w P p dx news kvs vs st) (fun news news' r => r = .bool true ∧ news' = news) := has_ps (.app f l) tk ht hk
theorem method_ps {pl : Sem Bool} {name : Str} {f : Addr} {Q : Value × List Value → Shared → Prop} (S : PS w P p dx news kvs vs st) (X₀ : (KH w).In h₀) (F : Fr h₀ L s.heap m) (N : News h₀ L s.heap news)
    (hf : findIn (hd.heap_39 w.params) (.ref 118) name = some (some (.ref f))) (ht : typeIn (hd.heap_39 w.params) (.ref f) = some (.type "function")) (hs : ∀ hv tk ti n, shadowIn (some (sizeDict hv tk ti n)) name = some false) (h : Q (.ref f, [.ref p]) s) :
    wpAny (model RW w) A (getMethod (.ref p) name pl) Q E s := by
  obtain ⟨n, hp⟩ := S.pile.obj
  obtain ⟨hv, tk, ti, n2, hd⟩ := S.pile.dict
  exact method_fnL X₀ F (pile_inst N hp hd) (k_ga w) (k_gat w) hf ht (hs _ _ _ _) h
end
section
variable {w : World} {P p dx L : Addr} {h₀ h : Heap} {news news' : Led} {kvs kvs' : List (Str × Value)} {vs : List Value} {st : List Tm}
theorem PS.cons1 {a : Addr × Obj} (S : PS w P p dx news kvs vs st) (N : News h₀ L h (a :: news)) : PS w P p dx (a :: news) kvs vs st := S.move0 Ext.cons (News.uniq N)
theorem PS.cons2 {a b : Addr × Obj} (S : PS w P p dx news kvs vs st) (N : News h₀ L h (a :: b :: news)) : PS w P p dx (a :: b :: news) kvs vs st := S.move0 (Ext.trans Ext.cons Ext.cons) (News.uniq N)
theorem PS.cons3 {a b c : Addr × Obj} (S : PS w P p dx news kvs vs st) (N : News h₀ L h (a :: b :: c :: news)) : PS w P p dx (a :: b :: c :: news) kvs vs st := S.move0 (Ext.trans Ext.cons (Ext.trans Ext.cons Ext.cons)) (News.uniq N)
theorem PS.keep_cls (S : PS w P p dx news kvs vs st) {a : Addr} {o : Obj} (h : (a, o) ∈ news) (hc : o.cls = .type "list") (e : Ext (Off P p dx) news news') : (a, o) ∈ news' :=
  e _ _ h (S.off h (fun e => by rw [hc] at e; injection e with e; exact absurd e (by decide)) (fun e => by rw [hc] at e; cases e) (fun e => by rw [hc] at e; cases e))
theorem PS.keep_lcg (S : PS w P p dx news kvs vs st) {a : Addr} {ys : List Value} (h : (a, LCg.lst ys) ∈ news) (e : Ext (Off P p dx) news news') : (a, LCg.lst ys) ∈ news' := S.keep_cls h rfl e
theorem item_lcg {prog : Program} {A : Around} {E : Value → Shared → Prop} {s : Shared} {m : Str → Option Value} {value slice : PySem.Expr} {l : Addr} {ys : List Value} {k : Int} {u : Tok} {v : Value} {Q : Value → Shared → Prop} (N : News h₀ L s.heap news) (hm : (l, LCg.lst ys) ∈ news ∨ (l, lst ys) ∈ news) (h0 : 0 ≤ k) (hhi : k < 2 ^ 63) (hx : ys[k.toNat]? = some v)
    (hs : subscripted slice false (.ref l) (.int k u) = operate [.ref l, .int k u] (getItem (.ref l) (.int k u))) (h : Q v s) : wpAny (model prog w) A (subscriptTail value slice (.ref l) (.int k u)) Q E s :=
  item_litK (vs := ys) (hm.elim (fun hm => ⟨_, (N _ hm).1, rfl, _, rfl⟩) fun hm => ⟨_, (N _ hm).1, rfl, _, rfl⟩) h0 hhi hx h hs
theorem news_tail {a : Addr × Obj} (N : News h₀ L h (a :: news)) : News h₀ L h news := fun p hp => N p (.tail _ hp)
theorem in_b {prog : Program} {A : Around} {E : Value → Shared → Prop} {s : Shared} {l : Addr} {us : List Value} {ys : List Str} {k : Str} {t : Tok} {b : Bool} {Q : Value → Shared → Prop} (hb : (ys.any fun x => x == k) = b) (hl : s.heap.IsList l us.toArray) (hi : StrsAre us ys) (h : Q (.bool b) s) :
    wpAny (model prog w) A (compareOp .In (.str k t) (.ref l)) Q E s := in_list_strs hl hi (by rw [hb]; exact h)
theorem comp_end {h₀ : Heap} {L I C D : Addr} {m : Str → Option Value} {s₁ : Shared} {oI oC oD : Obj} {S : Led → Prop} {rest : Value → Led → Prop} {y : Value} {h' : Heap} {tk : Nat} {news' : Led}
    (F : Fr h₀ L h' m) (N : News h₀ L h' ((I, oI) :: (C, oC) :: (D, oD) :: news')) (off : LCg.Off3 I C D news') (hS : S news') (r : rest y news') : LCg.CompEnd h₀ L m s₁ I oI C oC D oD S rest y { s₁ with heap := h', toks := tk } := LCg.CompEnd.intro F N news' (fun _ h => h) off hS r
end
end
section
open PySem PySem.W PyProof.Rows
open PySem.Calls PySem.Spec
set_option maxRecDepth 100000
set_option maxHeartbeats 8000000

theorem inner_w {w : World} {dp un : Nat} {gd : Option (List Code)} {outer : List Env} {A₀ : Around} {base h₀ : Heap} {L P p dx : Addr} {mean : ExcName → Option Value} {mg mb : Str → Option Value} {news0 : Led} {kvs : List (Str × Value)} {lim : Nat} {Q : Flow → Shared → Prop} {E : Value → Shared → Prop}
    (B : Below A₀ base outer h₀) (X : (hd.heap_39 w.params).In h₀) (T : Top topProg looseT mean mg mb h₀) (hd : dp + 60 < recursionLimit) (hu : un + 480 < cLine) (hlim : lim < sizeLine)
    (t0 : Tm) (st0 : List Tm) (s : Shared) (hI : WI w P p dx L h₀ news0 kvs t0 st0 lim s t0.size s)
    (done : ∀ c tk u h' g' tkk news vs st, Fr h₀ L h' (mP u tk (.leaf c) p P) → News h₀ L h' news → AllBare g' → PS w P p dx news kvs vs st → okc c → vs.length < lim → Ext (Off P p dx) news0 news → unwind t0 st0 = (c, st) → Q .next { heap := h', gens := g', drawn := s.drawn, toks := tkk, os := s.os }) :
    wpAny (model PySem.Challenge.rw_xl0011_01.row.prog w) (plA w dp un gd L outer) (exec (plainL w).1.b1 (plEnv w L)) Q E s := by
  unfold plainL plA plEnv plainF
  dsimp only
  revert X
  k_fill
  w_top off
  intro X
  refine wpAny_While (while_rule (WI w P p dx L h₀ news0 kvs t0 st0 lim s) ?_ t0.size hI)
  intro n s1 hI
  induction hI with
  | @mk t tk u h' g' tkk news vs st F N hg S hwf hkn hl hx hun =>
  cases t with
  | leaf c =>
    repeat' (first
      | (k_unfold; (try dsimp only))
      | ((with_reducible show wpAny _ _ (call (Value.ref _) _) _ _ _); (k_here; (with_reducible refine fold_q ?_); intro Q9 hQ9; k_dflt (refine' tel_use (has_leaf _ _ ?kz1) ?k1 ?k2 ?k3 ?k4 ?k5 ?k6 ?k7 ?k8 ?k9 ?k10 ?_; (case k1 | k2 => k_asm); (case k3 | k4 | k5 => k_asm); (case k6 => first | exact rfl | assumption); (case k7 => ktr_room); (case k8 => ktr_units); (case k9 | k10 | kz1 => assumption)); intro r9 n9 h9 t9 g9 F9 N9 G9 P9; obtain ⟨y9, e9⟩ := P9; subst e9; subst y9); (with_reducible refine hQ9 _ _ ?_); clear hQ9 Q9; (try k_fold))
      | ((with_reducible show wpAny _ _ (eval (PySem.Expr.Call _ _ _ _) _) _ _ _); (k_here; (with_reducible show wpAny _ _ (eval (Expr.Call (Expr.Name _ _) (_ :: _) [] _) _) _ _ _); k_dflt (refine' call_args ?F ?X ?T ?e ?hf ?hb ?hk ?he ?A ?cs ?_; (case F | X | T => k_asm); (case hf | hb => rfl); (case e | hk => k_is); (case cs | he => rfl); (case A => (repeat' first | exact ArgsEv.nil | refine' ArgsEv.name (by rfl) (by rfl) (by rfl) ?_ | refine' ArgsEv.str ?_)); k_whole)); (try k_fold))
      | (walk1; (try k_fold)) | (dsimp only; walk1; (try k_fold)) | (leave1; (try dsimp only)) | fail "no step")
    rw [size_leaf] at hl
    exact done _ _ _ _ _ _ _ _ _ (by assumption) (by assumption) (by assumption) S hwf (by omega) hx hun.symm
  | app f l =>
    have hwf1 := hwf.1
    have hwf2 := hwf.2
    have hsz := size_app f l
    have hp1 := size_pos f
    have hp2 := size_pos l
    repeat' (first
      | (k_unfold; (try dsimp only))
      | ((with_reducible show wpAny _ _ (call (Value.ref _) _) _ _ _); (k_here; (with_reducible refine fold_q ?_); intro Q9 hQ9; k_dflt (refine' tel_use (push_ps _ _ _ ?kz1 ?kz2 ?kz3) ?k1 ?k2 ?k3 ?k4 ?k5 ?k6 ?k7 ?k8 ?k9 ?k10 ?_; (case k1 | k2 => k_asm); (case k3 | k4 | k5 => k_asm); (case k6 => first | exact rfl | assumption); (case k7 => ktr_room); (case k8 => ktr_units); (case k9 | k10 => assumption); (case kz1 | kz2 => assumption); (case kz3 => omega)); intro r9 n9 h9 t9 g9 F9 N9 G9 P9; obtain ⟨y9, x9, v9, S9⟩ := P9; subst y9); (with_reducible refine hQ9 _ _ ?_); clear hQ9 Q9; (try k_fold))
      | ((with_reducible show wpAny _ _ (call (Value.ref _) _) _ _ _); (k_here; (with_reducible refine fold_q ?_); intro Q9 hQ9; k_dflt (refine' tel_use (get_ps _ _ _ ?kz1 ?kz2 ?kz3) ?k1 ?k2 ?k3 ?k4 ?k5 ?k6 ?k7 ?k8 ?k9 ?k10 ?_; (case k1 | k2 => k_asm); (case k3 | k4 | k5 => k_asm); (case k6 => first | exact rfl | assumption); (case k7 => ktr_room); (case k8 => ktr_units); (case k9 | k10 => assumption); (case kz1 | kz2 | kz3 => assumption)); intro r9 n9 h9 t9 g9 F9 N9 G9 P9; obtain ⟨m9, kf9, kl9⟩ := P9); (with_reducible refine hQ9 _ _ ?_); clear hQ9 Q9; (try k_fold))
      | ((with_reducible show wpAny _ _ (call (Value.ref _) _) _ _ _); (k_here; (with_reducible refine fold_q ?_); intro Q9 hQ9; k_dflt (refine' tel_use (has_app_ps _ _ _ ?kz1 ?kz2) ?k1 ?k2 ?k3 ?k4 ?k5 ?k6 ?k7 ?k8 ?k9 ?k10 ?_; (case k1 | k2 => k_asm); (case k3 | k4 | k5 => k_asm); (case k6 => first | exact rfl | assumption); (case k7 => ktr_room); (case k8 => ktr_units); (case k9 | k10 => assumption); (case kz1 | kz2 => assumption)); intro r9 n9 h9 t9 g9 F9 N9 G9 P9; obtain ⟨y9, e9⟩ := P9; subst e9; subst y9); (with_reducible refine hQ9 _ _ ?_); clear hQ9 Q9; (try k_fold))
      | ((with_reducible show wpAny _ _ (getMethod (Value.ref _) _ _) _ _ _); (k_here; k_dflt (refine' method_ps ?k1 ?k2 ?k3 ?k4 ?k5 ?k6 ?k7 ?_; (case k1 => assumption); (case k2 | k3 | k4 => k_asm); (case k5 | k6 => k_is); (case k7 => (intros; kernel_rfl)); k_whole)); (try k_fold))
      | ((with_reducible show wpAny _ _ (execs (_ :: _) _) _ _ _); (k_here; (with_reducible refine wpAny_execs_cons ?_); (try dsimp only); (try k_fold); (try (refine fold_fn (by k_asm) (by k_asm) ?_; intro led9 fm9 F9 N9))); (try k_fold))
      | ((with_reducible show wpAny _ _ (eval (PySem.Expr.Call _ _ _ _) _) _ _ _); (k_here; (with_reducible show wpAny _ _ (eval (Expr.Call (Expr.Name _ _) (_ :: _) [] _) _) _ _ _); k_dflt (refine' call_args ?F ?X ?T ?e ?hf ?hb ?hk ?he ?A ?cs ?_; (case F | X | T => k_asm); (case hf | hb => rfl); (case e | hk => k_is); (case cs | he => rfl); (case A => (repeat' first | exact ArgsEv.nil | refine' ArgsEv.name (by rfl) (by rfl) (by rfl) ?_ | refine' ArgsEv.str ?_)); k_whole)); (try k_fold))
      | (walk1; (try k_fold)) | (dsimp only; walk1; (try k_fold)) | (leave1; (try dsimp only)) | fail "no step")
    rename PS w P p dx _ kvs (_ :: vs) (l :: st) => S9
    rename Ext (Off P p dx) _ _ => x9
    rename AllBare _ => hg9
    rename News _ _ _ _ => N9
    rename Fr _ _ _ _ => F9
    exact ⟨f.size, by omega, .mk (mP_fr F9 rfl rfl rfl) N9 hg9 S9 hwf1 (by assumption) (by (simp only [List.length_cons]; omega)) (hx.trans x9) hun⟩
end
section
open PySem PySem.W PyProof.Rows
open PySem.Calls PySem.Spec
set_option maxRecDepth 100000
set_option maxHeartbeats 8000000
theorem turn_I {w : World} {dp un : Nat} {gd : Option (List Code)} {outer : List Env} {A₀ : Around} {base h₀ : Heap} {L P p dx : Addr} {mean : ExcName → Option Value} {mg mb : Str → Option Value} {news : Led} {kvs : List (Str × Value)} {Q : Flow → Shared → Prop} {E : Value → Shared → Prop}
    (B : Below A₀ base outer h₀) (X : (hd.heap_39 w.params).In h₀) (T : Top topProg looseT mean mg mb h₀) (hd : dp + 60 < recursionLimit) (hu : un + 480 < cLine)
    {s : Shared} {u : Str → Option Value} {tk : Tok} {vs : List Value} {st : List Tm} {v1 v2 v3 : Value} {t1 t2 t3 : Tm} (F : Fr h₀ L s.heap (mP u tk (.leaf 73) p P)) (N : News h₀ L s.heap news) (hg : AllBare s.gens) (S : PS w P p dx news kvs (v1 :: vs) (t1 :: st)) (hz : vs.length + 5 ≤ sizeLine)
    (next : ∀ tk u' h' g' tkk news' kvs' vs', Fr h₀ L h' (mP u' tk t1 p P) → News h₀ L h' news' → AllBare g' → PS w P p dx news' kvs' vs' (st) → wf t1 → known kvs' t1 → Ext (Off P p dx) news news' → (∀ u, known kvs u → known kvs' u) → kvs'.length ≤ kvs.length + 0 → Q .next { heap := h', gens := g', drawn := s.drawn, toks := tkk, os := s.os }) :
    wpAny (model PySem.Challenge.rw_xl0011_01.row.prog w) (plA w dp un gd L outer) (execs [(plainL w).1.b2, (plainL w).1.b3] (plEnv w L)) Q E s := by
  unfold plainL plA plEnv plainF
  dsimp only
  revert X
  k_fill
  w_top off
  intro X
  try (refine fold_ctx ?_; intro M9 A9 e9)
  delta mP at F
  rw [← ofs_I] at F
  have e1 : (v1 :: vs).length = vs.length + 1 := rfl
  repeat' (first
    | (k_unfold; (try dsimp only))
    | ((with_reducible show wpAny _ _ (getMethod (Value.ref _) _ _) _ _ _); (k_here; k_dflt (refine' method_ps ?k1 ?k2 ?k3 ?k4 ?k5 ?k6 ?k7 ?_; (case k2 | k3 | k4 => k_asm); (case k1 => first | assumption | exact PS.cons1 (by assumption) (by k_asm) | exact PS.cons2 (by assumption) (by k_asm) | exact PS.cons3 (by assumption) (by k_asm)); (case k5 | k6 => k_is); (case k7 => (intros; kernel_rfl)); k_whole)))
    | ((with_reducible first | show wpAny _ _ (exec _ _) _ _ _ | show wpAny _ _ (isTrue _ _ _) _ _ _); (fail_if_success (with_reducible show wpAny _ _ _ Q8 _ _)); (with_reducible refine fold_q ?_); intro Q8 hQ8)
    | ((with_reducible refine hQ8 _ _ ?_); clear hQ8; (try dsimp only))
    | ((with_reducible show wpAny _ _ (compareOp CmpOp.Eq (Value.str _ _) (Value.str _ _)) _ _ _); (k_here; refine' eq_b _ ?kb ?_; (case kb => first | assumption | exact str_beq _); k_whole))
    | ((with_reducible show wpAny _ _ (call (Value.ref _) _) _ _ _); (k_here; (with_reducible refine fold_q ?_); intro Q9 hQ9; k_dflt (refine' tel_use (pop_ps ?kz1) ?k1 ?k2 ?k3 ?k4 ?k5 ?k6 ?k7 ?k8 ?k9 ?k10 ?_; (case k1 | k2 => k_asm); (case k3 | k4 | k5 => k_asm); (case k6 => first | exact rfl | assumption); (case k7 => ktr_room); (case k8 => ktr_units); (case k9 => assumption); (case k10 => first | assumption | exact PS.cons1 (by assumption) (by k_asm) | exact PS.cons2 (by assumption) (by k_asm) | exact PS.cons3 (by assumption) (by k_asm)); (case kz1 => omega)); intro r9 n9 h9 t9 g9 F9 N9 G9 P9; obtain ⟨x9, S9, m9, wf9, kn9⟩ := P9; (try (have ml8 := PS.keep_lcg (by assumption) (by assumption) x9)); (try (have ml9 := PS.keep_cls (PS.cons1 (by assumption) (by assumption)) (List.Mem.head _) rfl x9)); (try (replace x9 := Ext.uncons x9)); (try (replace x9 := Ext.uncons x9)); (try (replace x9 := Ext.uncons x9)); (with_reducible refine hQ9 _ _ ?_); clear hQ9 Q9))
    | ((with_reducible show wpAny _ _ (call (Value.ref _) _) _ _ _); (k_here; (with_reducible refine fold_q ?_); intro Q9 hQ9; k_dflt (refine' tel_use (count_ps) ?k1 ?k2 ?k3 ?k4 ?k5 ?k6 ?k7 ?k8 ?k9 ?k10 ?_; (case k1 | k2 => k_asm); (case k3 | k4 | k5 => k_asm); (case k6 => first | exact rfl | assumption); (case k7 => ktr_room); (case k8 => ktr_units); (case k9 => assumption); (case k10 => first | assumption | exact PS.cons1 (by assumption) (by k_asm) | exact PS.cons2 (by assumption) (by k_asm) | exact PS.cons3 (by assumption) (by k_asm))); intro r9 n9 h9 t9 g9 F9 N9 G9 P9; obtain ⟨⟨tk9, y9⟩, x9, S9⟩ := P9; subst y9; (try (have ml8 := PS.keep_lcg (by assumption) (by assumption) x9)); (try (have ml9 := PS.keep_cls (PS.cons1 (by assumption) (by assumption)) (List.Mem.head _) rfl x9)); (try (replace x9 := Ext.uncons x9)); (try (replace x9 := Ext.uncons x9)); (try (replace x9 := Ext.uncons x9)); (with_reducible refine hQ9 _ _ ?_); clear hQ9 Q9))
    | (walk1) | (dsimp only; walk1) | (leave1; (try dsimp only)) | fail "no step")
  all_goals (try k_data)
  all_goals (first
    | (exfalso; omega)
    | exact next _ _ _ _ _ _ _ _ (mP_fr (by assumption) rfl rfl rfl) (by assumption) (by assumption) (by assumption) (by assumption) (by first | assumption | solve_by_elim) (by (with_reducible first | assumption | (refine Ext.trans (by assumption) ?_; first | assumption | (refine Ext.trans (by assumption) ?_; first | assumption | (refine Ext.trans (by assumption) ?_; first | assumption | (refine Ext.trans (by assumption) ?_; first | assumption | (refine Ext.trans (by assumption) ?_; first | assumption | (refine Ext.trans (by assumption) ?_; assumption)))))))) (fun _ h => by solve_by_elim) (by omega))
theorem turn_K {w : World} {dp un : Nat} {gd : Option (List Code)} {outer : List Env} {A₀ : Around} {base h₀ : Heap} {L P p dx : Addr} {mean : ExcName → Option Value} {mg mb : Str → Option Value} {news : Led} {kvs : List (Str × Value)} {Q : Flow → Shared → Prop} {E : Value → Shared → Prop}
    (B : Below A₀ base outer h₀) (X : (hd.heap_39 w.params).In h₀) (T : Top topProg looseT mean mg mb h₀) (hd : dp + 60 < recursionLimit) (hu : un + 480 < cLine)
    {s : Shared} {u : Str → Option Value} {tk : Tok} {vs : List Value} {st : List Tm} {v1 v2 v3 : Value} {t1 t2 t3 : Tm} (F : Fr h₀ L s.heap (mP u tk (.leaf 75) p P)) (N : News h₀ L s.heap news) (hg : AllBare s.gens) (S : PS w P p dx news kvs (v1 :: v2 :: vs) (t1 :: t2 :: st)) (hz : vs.length + 5 ≤ sizeLine)
    (next : ∀ tk u' h' g' tkk news' kvs' vs', Fr h₀ L h' (mP u' tk t1 p P) → News h₀ L h' news' → AllBare g' → PS w P p dx news' kvs' vs' (st) → wf t1 → known kvs' t1 → Ext (Off P p dx) news news' → (∀ u, known kvs u → known kvs' u) → kvs'.length ≤ kvs.length + 0 → Q .next { heap := h', gens := g', drawn := s.drawn, toks := tkk, os := s.os }) :
    wpAny (model PySem.Challenge.rw_xl0011_01.row.prog w) (plA w dp un gd L outer) (execs [(plainL w).1.b2, (plainL w).1.b3] (plEnv w L)) Q E s := by
  unfold plainL plA plEnv plainF
  dsimp only
  revert X
  k_fill
  w_top off
  intro X
  try (refine fold_ctx ?_; intro M9 A9 e9)
  delta mP at F
  rw [← ofs_K] at F
  have e1 : (v2 :: vs).length = vs.length + 1 := rfl
  have e2 : (v1 :: v2 :: vs).length = vs.length + 2 := rfl
  repeat' (first
    | (k_unfold; (try dsimp only))
    | ((with_reducible show wpAny _ _ (getMethod (Value.ref _) _ _) _ _ _); (k_here; k_dflt (refine' method_ps ?k1 ?k2 ?k3 ?k4 ?k5 ?k6 ?k7 ?_; (case k2 | k3 | k4 => k_asm); (case k1 => first | assumption | exact PS.cons1 (by assumption) (by k_asm) | exact PS.cons2 (by assumption) (by k_asm) | exact PS.cons3 (by assumption) (by k_asm)); (case k5 | k6 => k_is); (case k7 => (intros; kernel_rfl)); k_whole)))
    | ((with_reducible first | show wpAny _ _ (exec _ _) _ _ _ | show wpAny _ _ (isTrue _ _ _) _ _ _); (fail_if_success (with_reducible show wpAny _ _ _ Q8 _ _)); (with_reducible refine fold_q ?_); intro Q8 hQ8)
    | ((with_reducible refine hQ8 _ _ ?_); clear hQ8; (try dsimp only))
    | ((with_reducible show wpAny _ _ (compareOp CmpOp.Eq (Value.str _ _) (Value.str _ _)) _ _ _); (k_here; refine' eq_b _ ?kb ?_; (case kb => first | assumption | exact str_beq _); k_whole))
    | ((with_reducible show wpAny _ _ (call (Value.ref _) _) _ _ _); (k_here; (with_reducible refine fold_q ?_); intro Q9 hQ9; k_dflt (refine' tel_use (from2_ps _ _ ?kz1 ?kz2) ?k1 ?k2 ?k3 ?k4 ?k5 ?k6 ?k7 ?k8 ?k9 ?k10 ?_; (case k1 | k2 => k_asm); (case k3 | k4 | k5 => k_asm); (case k6 => first | exact rfl | assumption); (case k7 => ktr_room); (case k8 => ktr_units); (case k9 => assumption); (case k10 => first | assumption | exact PS.cons1 (by assumption) (by k_asm) | exact PS.cons2 (by assumption) (by k_asm) | exact PS.cons3 (by assumption) (by k_asm)); (case kz1 => (simp only [List.length_cons]; omega)); (case kz2 => omega)); intro r9 n9 h9 t9 g9 F9 N9 G9 P9; obtain ⟨x9, S9, m9, m91, wf91, kn91, m92, wf92, kn92⟩ := P9; (try (have ml8 := PS.keep_lcg (by assumption) (by assumption) x9)); (try (have ml9 := PS.keep_cls (PS.cons1 (by assumption) (by assumption)) (List.Mem.head _) rfl x9)); (try (replace x9 := Ext.uncons x9)); (try (replace x9 := Ext.uncons x9)); (try (replace x9 := Ext.uncons x9)); (with_reducible refine hQ9 _ _ ?_); clear hQ9 Q9))
    | ((with_reducible show wpAny _ _ (call (Value.ref _) _) _ _ _); (k_here; (with_reducible refine fold_q ?_); intro Q9 hQ9; k_dflt (refine' tel_use (count_ps) ?k1 ?k2 ?k3 ?k4 ?k5 ?k6 ?k7 ?k8 ?k9 ?k10 ?_; (case k1 | k2 => k_asm); (case k3 | k4 | k5 => k_asm); (case k6 => first | exact rfl | assumption); (case k7 => ktr_room); (case k8 => ktr_units); (case k9 => assumption); (case k10 => first | assumption | exact PS.cons1 (by assumption) (by k_asm) | exact PS.cons2 (by assumption) (by k_asm) | exact PS.cons3 (by assumption) (by k_asm))); intro r9 n9 h9 t9 g9 F9 N9 G9 P9; obtain ⟨⟨tk9, y9⟩, x9, S9⟩ := P9; subst y9; (try (have ml8 := PS.keep_lcg (by assumption) (by assumption) x9)); (try (have ml9 := PS.keep_cls (PS.cons1 (by assumption) (by assumption)) (List.Mem.head _) rfl x9)); (try (replace x9 := Ext.uncons x9)); (try (replace x9 := Ext.uncons x9)); (try (replace x9 := Ext.uncons x9)); (with_reducible refine hQ9 _ _ ?_); clear hQ9 Q9))
    | ((with_reducible show wpAny _ _ (subscriptTail _ _ _ _) _ _ _); (k_here; (with_reducible show wpAny _ _ (subscriptTail _ _ (Value.ref _) (Value.int _ _)) _ _ _); k_dflt (refine' item_lcg ?k0 ?k1 ?k2 ?k3 ?k4 ?k6 ?_; (case k0 => k_asm); (case k1 => first | exact Or.inl (by assumption) | exact Or.inr (by assumption) | exact Or.inl (List.Mem.head _)); (case k2 | k3 => decide); (case k4 => rfl); (case k6 => with_unfolding_all rfl); k_whole)))
    | ((with_reducible show wpAny _ _ (subscriptTail _ _ (Value.ref _) (Value.int _ _)) _ _ _); k_dflt (refine' item_tupleT ?t ?a ?b ?c ?d ?_; (case t => exact News.isTup (by k_asm) (by first | assumption | exact .tail _ (by assumption) | exact .tail _ (.tail _ (by assumption)) | exact .tail _ (.tail _ (.tail _ (by assumption))))); (case a | b => decide); (case c | d => rfl); k_whole))
    | (walk1) | (dsimp only; walk1) | (leave1; (try dsimp only)) | fail "no step")
  all_goals (try k_data)
  all_goals (first
    | (exfalso; omega)
    | exact next _ _ _ _ _ _ _ _ (mP_fr (by assumption) rfl rfl rfl) (by assumption) (by assumption) (by assumption) (by assumption) (by first | assumption | solve_by_elim) (by (with_reducible first | assumption | (refine Ext.trans (by assumption) ?_; first | assumption | (refine Ext.trans (by assumption) ?_; first | assumption | (refine Ext.trans (by assumption) ?_; first | assumption | (refine Ext.trans (by assumption) ?_; first | assumption | (refine Ext.trans (by assumption) ?_; first | assumption | (refine Ext.trans (by assumption) ?_; assumption)))))))) (fun _ h => by solve_by_elim) (by omega))
theorem turn_S {w : World} {dp un : Nat} {gd : Option (List Code)} {outer : List Env} {A₀ : Around} {base h₀ : Heap} {L P p dx : Addr} {mean : ExcName → Option Value} {mg mb : Str → Option Value} {news : Led} {kvs : List (Str × Value)} {Q : Flow → Shared → Prop} {E : Value → Shared → Prop}
    (B : Below A₀ base outer h₀) (X : (hd.heap_39 w.params).In h₀) (T : Top topProg looseT mean mg mb h₀) (hd : dp + 60 < recursionLimit) (hu : un + 480 < cLine)
    {s : Shared} {u : Str → Option Value} {tk : Tok} {vs : List Value} {st : List Tm} {v1 v2 v3 : Value} {t1 t2 t3 : Tm} (F : Fr h₀ L s.heap (mP u tk (.leaf 83) p P)) (N : News h₀ L s.heap news) (hg : AllBare s.gens) (S : PS w P p dx news kvs (v1 :: v2 :: v3 :: vs) (t1 :: t2 :: t3 :: st)) (hz : vs.length + 5 ≤ sizeLine) (hon : t2.size + t3.size + 1 ≤ sizeLine) (hkz : kvs.length ≤ sizeLine)
    (next : ∀ tk u' h' g' tkk news' kvs' vs', Fr h₀ L h' (mP u' tk t1 p P) → News h₀ L h' news' → AllBare g' → PS w P p dx news' kvs' vs' (t3 :: .app t2 t3 :: st) → wf t1 → known kvs' t1 → Ext (Off P p dx) news news' → (∀ u, known kvs u → known kvs' u) → kvs'.length ≤ kvs.length + 1 → Q .next { heap := h', gens := g', drawn := s.drawn, toks := tkk, os := s.os }) :
    wpAny (model PySem.Challenge.rw_xl0011_01.row.prog w) (plA w dp un gd L outer) (execs [(plainL w).1.b2, (plainL w).1.b3] (plEnv w L)) Q E s := by
  unfold plainL plA plEnv plainF
  dsimp only
  revert X
  k_fill
  w_top off
  intro X
  try (refine fold_ctx ?_; intro M9 A9 e9)
  delta mP at F
  rw [← ofs_S] at F
  have e1 : (v3 :: vs).length = vs.length + 1 := rfl
  have e2 : (v2 :: v3 :: vs).length = vs.length + 2 := rfl
  have e3 : (v1 :: v2 :: v3 :: vs).length = vs.length + 3 := rfl
  repeat' (first
    | (k_unfold; (try dsimp only))
    | ((with_reducible show wpAny _ _ (exec (Stmt.Assign _ (PySem.Expr.ListComp _ _ _ _) _) _) _ _ _); k_here; k_dflt (refine LCg.Assign_ListComp_U (F₀ := by k_asm) (by rfl) (by with_unfolding_all rfl) (by rfl) (by decide) (by rfl) (by decide) (by rfl) (by rfl) (by rfl) ?_))
    | ((with_reducible show wpAny _ _ (getMethod (Value.ref _) _ _) _ _ _); (k_here; k_dflt (refine' method_ps ?k1 ?k2 ?k3 ?k4 ?k5 ?k6 ?k7 ?_; (case k2 | k3 | k4 => k_asm); (case k1 => first | assumption | exact PS.cons1 (by assumption) (by k_asm) | exact PS.cons2 (by assumption) (by k_asm) | exact PS.cons3 (by assumption) (by k_asm)); (case k5 | k6 => k_is); (case k7 => (intros; kernel_rfl)); k_whole)))
    | ((with_reducible show wpAny _ _ (call (Value.ref _) _) _ _ _); (k_here; k_dflt (refine' tel_use (from3_ps _ _ ?kz1 ?kz2) ?k1 ?k2 ?k3 ?k4 ?k5 ?k6 ?k7 ?k8 ?k9 ?k10 ?_; (case k1 | k2 => k_asm); (case k3 | k4 | k5 => k_asm); (case k6 => first | exact rfl | assumption); (case k7 => ktr_room); (case k8 => ktr_units); (case k9 => assumption); (case k10 => first | assumption | exact PS.cons1 (by assumption) (by k_asm) | exact PS.cons2 (by assumption) (by k_asm) | exact PS.cons3 (by assumption) (by k_asm)); (case kz1 => (simp only [List.length_cons]; omega)); (case kz2 => omega)); intro r9 n9 h9 t9 g9 F9 N9 G9 P9; obtain ⟨x9, S9, m9, m91, wf91, kn91, m92, wf92, kn92, m93, wf93, kn93⟩ := P9; (try (have ml8 := PS.keep_lcg (by assumption) (by assumption) x9)); (try (have ml9 := PS.keep_cls (PS.cons1 (by assumption) (by assumption)) (List.Mem.head _) rfl x9)); (try (replace x9 := Ext.uncons x9)); (try (replace x9 := Ext.uncons x9)); (try (replace x9 := Ext.uncons x9))))
    | ((with_reducible first | show wpAny _ _ (exec _ _) _ _ _ | show wpAny _ _ (isTrue _ _ _) _ _ _); (fail_if_success (with_reducible show wpAny _ _ _ Q8 _ _)); (with_reducible refine fold_q ?_); intro Q8 hQ8)
    | ((with_reducible refine hQ8 _ _ ?_); clear hQ8; (try dsimp only))
    | ((with_reducible show wpAny _ _ (call (Value.ref _) _) _ _ _); (k_here; (with_reducible refine fold_q ?_); intro Q9 hQ9; k_dflt (refine' tel_use (on_ps _ _ _ _ _ _ ?ke1 ?ke2 ?kz1 ?kz2 ?kz3 ?kz4 ?kz5 ?kz6) ?k1 ?k2 ?k3 ?k4 ?k5 ?k6 ?k7 ?k8 ?k9 ?k10 ?_; (case k1 | k2 => k_asm); (case k3 | k4 | k5 => k_asm); (case k6 => first | exact rfl | assumption); (case k7 => ktr_room); (case k8 => ktr_units); (case k9 => assumption); (case k10 => first | assumption | exact PS.cons1 (by assumption) (by k_asm) | exact PS.cons2 (by assumption) (by k_asm) | exact PS.cons3 (by assumption) (by k_asm)); (case ke1 | ke2 => exact rfl); (case kz1 | kz2 => assumption); (case kz3 | kz4 => first | assumption | solve_by_elim); (case kz5 | kz6 => omega)); intro r9 n9 h9 t9 g9 F9 N9 G9 P9; obtain ⟨x9, S9, kn9, mo9, le9, wf9⟩ := P9; (try (have ml8 := PS.keep_lcg (by assumption) (by assumption) x9)); (try (have ml9 := PS.keep_cls (PS.cons1 (by assumption) (by assumption)) (List.Mem.head _) rfl x9)); (try (replace x9 := Ext.uncons x9)); (try (replace x9 := Ext.uncons x9)); (try (replace x9 := Ext.uncons x9)); (with_reducible refine hQ9 _ _ ?_); clear hQ9 Q9))
    | ((with_reducible show wpAny _ _ (call (Value.ref _) _) _ _ _); (k_here; (with_reducible refine fold_q ?_); intro Q9 hQ9; k_dflt (refine' tel_use (count_ps) ?k1 ?k2 ?k3 ?k4 ?k5 ?k6 ?k7 ?k8 ?k9 ?k10 ?_; (case k1 | k2 => k_asm); (case k3 | k4 | k5 => k_asm); (case k6 => first | exact rfl | assumption); (case k7 => ktr_room); (case k8 => ktr_units); (case k9 => assumption); (case k10 => first | assumption | exact PS.cons1 (by assumption) (by k_asm) | exact PS.cons2 (by assumption) (by k_asm) | exact PS.cons3 (by assumption) (by k_asm))); intro r9 n9 h9 t9 g9 F9 N9 G9 P9; obtain ⟨⟨tk9, y9⟩, x9, S9⟩ := P9; subst y9; (try (have ml8 := PS.keep_lcg (by assumption) (by assumption) x9)); (try (have ml9 := PS.keep_cls (PS.cons1 (by assumption) (by assumption)) (List.Mem.head _) rfl x9)); (try (replace x9 := Ext.uncons x9)); (try (replace x9 := Ext.uncons x9)); (try (replace x9 := Ext.uncons x9)); (with_reducible refine hQ9 _ _ ?_); clear hQ9 Q9))
    | ((with_reducible show wpAny _ _ (call (Value.ref _) _) _ _ _); (k_here; (with_reducible refine fold_q ?_); intro Q9 hQ9; k_dflt (refine' tel_use (push_ps _ _ _ ?kz1 ?kz2 ?kz3) ?k1 ?k2 ?k3 ?k4 ?k5 ?k6 ?k7 ?k8 ?k9 ?k10 ?_; (case k1 | k2 => k_asm); (case k3 | k4 | k5 => k_asm); (case k6 => first | exact rfl | assumption); (case k7 => ktr_room); (case k8 => ktr_units); (case k9 => assumption); (case k10 => first | assumption | exact PS.cons1 (by assumption) (by k_asm) | exact PS.cons2 (by assumption) (by k_asm) | exact PS.cons3 (by assumption) (by k_asm)); (case kz1 => assumption); (case kz2 => first | assumption | solve_by_elim); (case kz3 => (first | (simp only [List.length_cons]; omega) | omega))); intro r9 n9 h9 t9 g9 F9 N9 G9 P9; obtain ⟨y9, x9, v9, S9⟩ := P9; subst y9; (try (have ml8 := PS.keep_lcg (by assumption) (by assumption) x9)); (try (have ml9 := PS.keep_cls (PS.cons1 (by assumption) (by assumption)) (List.Mem.head _) rfl x9)); (try (replace x9 := Ext.uncons x9)); (try (replace x9 := Ext.uncons x9)); (try (replace x9 := Ext.uncons x9)); (with_reducible refine hQ9 _ _ ?_); clear hQ9 Q9))
    | ((with_reducible show wpAny _ _ (subscriptTail _ _ _ _) _ _ _); (k_here; (with_reducible show wpAny _ _ (subscriptTail _ _ (Value.ref _) (Value.int _ _)) _ _ _); k_dflt (refine' item_lcg ?k0 ?k1 ?k2 ?k3 ?k4 ?k6 ?_; (case k0 => k_asm); (case k1 => first | exact Or.inl (by assumption) | exact Or.inr (by assumption) | exact Or.inl (List.Mem.head _)); (case k2 | k3 => decide); (case k4 => rfl); (case k6 => with_unfolding_all rfl); k_whole)))
    | ((with_reducible show wpAny _ _ (subscriptTail _ _ (Value.ref _) (Value.int _ _)) _ _ _); k_dflt (refine' item_tupleT ?t ?a ?b ?c ?d ?_; (case t => exact News.isTup (by k_asm) (by first | assumption | exact .tail _ (by assumption) | exact .tail _ (.tail _ (by assumption)) | exact .tail _ (.tail _ (.tail _ (by assumption))))); (case a | b => decide); (case c | d => rfl); k_whole))
    | ((fail_if_success (with_reducible show wpAny _ _ _ _ _ _)); first
      | (k_here; k_dflt (refine' comp_end ?c1 ?c2 ?c4 ?c5 ?_; (case c1 | c2 | c4 => assumption); (case c5 => lcg_src)))
      | fail "no own line")
    | (walk1) | (dsimp only; walk1) | (leave1; (try dsimp only)) | fail "no step")
  all_goals (try k_data)
  all_goals (first
    | (exfalso; omega)
    | exact next _ _ _ _ _ _ _ _ (mP_fr (by assumption) rfl rfl rfl) (by assumption) (by assumption) (by assumption) (by assumption) (by first | assumption | solve_by_elim) (by (with_reducible first | assumption | (refine Ext.trans (by assumption) ?_; first | assumption | (refine Ext.trans (by assumption) ?_; first | assumption | (refine Ext.trans (by assumption) ?_; first | assumption | (refine Ext.trans (by assumption) ?_; first | assumption | (refine Ext.trans (by assumption) ?_; first | assumption | (refine Ext.trans (by assumption) ?_; assumption)))))))) (fun _ h => by solve_by_elim) (by omega))
theorem turn_B {w : World} {dp un : Nat} {gd : Option (List Code)} {outer : List Env} {A₀ : Around} {base h₀ : Heap} {L P p dx : Addr} {mean : ExcName → Option Value} {mg mb : Str → Option Value} {news : Led} {kvs : List (Str × Value)} {Q : Flow → Shared → Prop} {E : Value → Shared → Prop}
    (B : Below A₀ base outer h₀) (X : (hd.heap_39 w.params).In h₀) (T : Top topProg looseT mean mg mb h₀) (hd : dp + 60 < recursionLimit) (hu : un + 480 < cLine)
    {s : Shared} {u : Str → Option Value} {tk : Tok} {vs : List Value} {st : List Tm} {v1 v2 v3 : Value} {t1 t2 t3 : Tm} (F : Fr h₀ L s.heap (mP u tk (.leaf 66) p P)) (N : News h₀ L s.heap news) (hg : AllBare s.gens) (S : PS w P p dx news kvs (v1 :: v2 :: v3 :: vs) (t1 :: t2 :: t3 :: st)) (hz : vs.length + 5 ≤ sizeLine) (hon : t2.size + t3.size + 1 ≤ sizeLine) (hkz : kvs.length ≤ sizeLine)
    (next : ∀ tk u' h' g' tkk news' kvs' vs', Fr h₀ L h' (mP u' tk t1 p P) → News h₀ L h' news' → AllBare g' → PS w P p dx news' kvs' vs' (.app t2 t3 :: st) → wf t1 → known kvs' t1 → Ext (Off P p dx) news news' → (∀ u, known kvs u → known kvs' u) → kvs'.length ≤ kvs.length + 1 → Q .next { heap := h', gens := g', drawn := s.drawn, toks := tkk, os := s.os }) :
    wpAny (model PySem.Challenge.rw_xl0011_01.row.prog w) (plA w dp un gd L outer) (execs [(plainL w).1.b2, (plainL w).1.b3] (plEnv w L)) Q E s := by
  unfold plainL plA plEnv plainF
  dsimp only
  revert X
  k_fill
  w_top off
  intro X
  try (refine fold_ctx ?_; intro M9 A9 e9)
  delta mP at F
  rw [← ofs_B] at F
  have e1 : (v3 :: vs).length = vs.length + 1 := rfl
  have e2 : (v2 :: v3 :: vs).length = vs.length + 2 := rfl
  have e3 : (v1 :: v2 :: v3 :: vs).length = vs.length + 3 := rfl
  repeat' (first
    | (k_unfold; (try dsimp only))
    | ((with_reducible show wpAny _ _ (exec (Stmt.Assign _ (PySem.Expr.ListComp _ _ _ _) _) _) _ _ _); k_here; k_dflt (refine LCg.Assign_ListComp_U (F₀ := by k_asm) (by rfl) (by with_unfolding_all rfl) (by rfl) (by decide) (by rfl) (by decide) (by rfl) (by rfl) (by rfl) ?_))
    | ((with_reducible show wpAny _ _ (getMethod (Value.ref _) _ _) _ _ _); (k_here; k_dflt (refine' method_ps ?k1 ?k2 ?k3 ?k4 ?k5 ?k6 ?k7 ?_; (case k2 | k3 | k4 => k_asm); (case k1 => first | assumption | exact PS.cons1 (by assumption) (by k_asm) | exact PS.cons2 (by assumption) (by k_asm) | exact PS.cons3 (by assumption) (by k_asm)); (case k5 | k6 => k_is); (case k7 => (intros; kernel_rfl)); k_whole)))
    | ((with_reducible show wpAny _ _ (call (Value.ref _) _) _ _ _); (k_here; k_dflt (refine' tel_use (from3_ps _ _ ?kz1 ?kz2) ?k1 ?k2 ?k3 ?k4 ?k5 ?k6 ?k7 ?k8 ?k9 ?k10 ?_; (case k1 | k2 => k_asm); (case k3 | k4 | k5 => k_asm); (case k6 => first | exact rfl | assumption); (case k7 => ktr_room); (case k8 => ktr_units); (case k9 => assumption); (case k10 => first | assumption | exact PS.cons1 (by assumption) (by k_asm) | exact PS.cons2 (by assumption) (by k_asm) | exact PS.cons3 (by assumption) (by k_asm)); (case kz1 => (simp only [List.length_cons]; omega)); (case kz2 => omega)); intro r9 n9 h9 t9 g9 F9 N9 G9 P9; obtain ⟨x9, S9, m9, m91, wf91, kn91, m92, wf92, kn92, m93, wf93, kn93⟩ := P9; (try (have ml8 := PS.keep_lcg (by assumption) (by assumption) x9)); (try (have ml9 := PS.keep_cls (PS.cons1 (by assumption) (by assumption)) (List.Mem.head _) rfl x9)); (try (replace x9 := Ext.uncons x9)); (try (replace x9 := Ext.uncons x9)); (try (replace x9 := Ext.uncons x9))))
    | ((with_reducible first | show wpAny _ _ (exec _ _) _ _ _ | show wpAny _ _ (isTrue _ _ _) _ _ _); (fail_if_success (with_reducible show wpAny _ _ _ Q8 _ _)); (with_reducible refine fold_q ?_); intro Q8 hQ8)
    | ((with_reducible refine hQ8 _ _ ?_); clear hQ8; (try dsimp only))
    | ((with_reducible show wpAny _ _ (call (Value.ref _) _) _ _ _); (k_here; (with_reducible refine fold_q ?_); intro Q9 hQ9; k_dflt (refine' tel_use (on_ps _ _ _ _ _ _ ?ke1 ?ke2 ?kz1 ?kz2 ?kz3 ?kz4 ?kz5 ?kz6) ?k1 ?k2 ?k3 ?k4 ?k5 ?k6 ?k7 ?k8 ?k9 ?k10 ?_; (case k1 | k2 => k_asm); (case k3 | k4 | k5 => k_asm); (case k6 => first | exact rfl | assumption); (case k7 => ktr_room); (case k8 => ktr_units); (case k9 => assumption); (case k10 => first | assumption | exact PS.cons1 (by assumption) (by k_asm) | exact PS.cons2 (by assumption) (by k_asm) | exact PS.cons3 (by assumption) (by k_asm)); (case ke1 | ke2 => exact rfl); (case kz1 | kz2 => assumption); (case kz3 | kz4 => first | assumption | solve_by_elim); (case kz5 | kz6 => omega)); intro r9 n9 h9 t9 g9 F9 N9 G9 P9; obtain ⟨x9, S9, kn9, mo9, le9, wf9⟩ := P9; (try (have ml8 := PS.keep_lcg (by assumption) (by assumption) x9)); (try (have ml9 := PS.keep_cls (PS.cons1 (by assumption) (by assumption)) (List.Mem.head _) rfl x9)); (try (replace x9 := Ext.uncons x9)); (try (replace x9 := Ext.uncons x9)); (try (replace x9 := Ext.uncons x9)); (with_reducible refine hQ9 _ _ ?_); clear hQ9 Q9))
    | ((with_reducible show wpAny _ _ (call (Value.ref _) _) _ _ _); (k_here; (with_reducible refine fold_q ?_); intro Q9 hQ9; k_dflt (refine' tel_use (count_ps) ?k1 ?k2 ?k3 ?k4 ?k5 ?k6 ?k7 ?k8 ?k9 ?k10 ?_; (case k1 | k2 => k_asm); (case k3 | k4 | k5 => k_asm); (case k6 => first | exact rfl | assumption); (case k7 => ktr_room); (case k8 => ktr_units); (case k9 => assumption); (case k10 => first | assumption | exact PS.cons1 (by assumption) (by k_asm) | exact PS.cons2 (by assumption) (by k_asm) | exact PS.cons3 (by assumption) (by k_asm))); intro r9 n9 h9 t9 g9 F9 N9 G9 P9; obtain ⟨⟨tk9, y9⟩, x9, S9⟩ := P9; subst y9; (try (have ml8 := PS.keep_lcg (by assumption) (by assumption) x9)); (try (have ml9 := PS.keep_cls (PS.cons1 (by assumption) (by assumption)) (List.Mem.head _) rfl x9)); (try (replace x9 := Ext.uncons x9)); (try (replace x9 := Ext.uncons x9)); (try (replace x9 := Ext.uncons x9)); (with_reducible refine hQ9 _ _ ?_); clear hQ9 Q9))
    | ((with_reducible show wpAny _ _ (call (Value.ref _) _) _ _ _); (k_here; (with_reducible refine fold_q ?_); intro Q9 hQ9; k_dflt (refine' tel_use (push_ps _ _ _ ?kz1 ?kz2 ?kz3) ?k1 ?k2 ?k3 ?k4 ?k5 ?k6 ?k7 ?k8 ?k9 ?k10 ?_; (case k1 | k2 => k_asm); (case k3 | k4 | k5 => k_asm); (case k6 => first | exact rfl | assumption); (case k7 => ktr_room); (case k8 => ktr_units); (case k9 => assumption); (case k10 => first | assumption | exact PS.cons1 (by assumption) (by k_asm) | exact PS.cons2 (by assumption) (by k_asm) | exact PS.cons3 (by assumption) (by k_asm)); (case kz1 => assumption); (case kz2 => first | assumption | solve_by_elim); (case kz3 => (first | (simp only [List.length_cons]; omega) | omega))); intro r9 n9 h9 t9 g9 F9 N9 G9 P9; obtain ⟨y9, x9, v9, S9⟩ := P9; subst y9; (try (have ml8 := PS.keep_lcg (by assumption) (by assumption) x9)); (try (have ml9 := PS.keep_cls (PS.cons1 (by assumption) (by assumption)) (List.Mem.head _) rfl x9)); (try (replace x9 := Ext.uncons x9)); (try (replace x9 := Ext.uncons x9)); (try (replace x9 := Ext.uncons x9)); (with_reducible refine hQ9 _ _ ?_); clear hQ9 Q9))
    | ((with_reducible show wpAny _ _ (subscriptTail _ _ _ _) _ _ _); (k_here; (with_reducible show wpAny _ _ (subscriptTail _ _ (Value.ref _) (Value.int _ _)) _ _ _); k_dflt (refine' item_lcg ?k0 ?k1 ?k2 ?k3 ?k4 ?k6 ?_; (case k0 => k_asm); (case k1 => first | exact Or.inl (by assumption) | exact Or.inr (by assumption) | exact Or.inl (List.Mem.head _)); (case k2 | k3 => decide); (case k4 => rfl); (case k6 => with_unfolding_all rfl); k_whole)))
    | ((with_reducible show wpAny _ _ (subscriptTail _ _ (Value.ref _) (Value.int _ _)) _ _ _); k_dflt (refine' item_tupleT ?t ?a ?b ?c ?d ?_; (case t => exact News.isTup (by k_asm) (by first | assumption | exact .tail _ (by assumption) | exact .tail _ (.tail _ (by assumption)) | exact .tail _ (.tail _ (.tail _ (by assumption))))); (case a | b => decide); (case c | d => rfl); k_whole))
    | ((fail_if_success (with_reducible show wpAny _ _ _ _ _ _)); first
      | (k_here; k_dflt (refine' comp_end ?c1 ?c2 ?c4 ?c5 ?_; (case c1 | c2 | c4 => assumption); (case c5 => lcg_src)))
      | fail "no own line")
    | (walk1) | (dsimp only; walk1) | (leave1; (try dsimp only)) | fail "no step")
  all_goals (try k_data)
  all_goals (first
    | (exfalso; omega)
    | exact next _ _ _ _ _ _ _ _ (mP_fr (by assumption) rfl rfl rfl) (by assumption) (by assumption) (by assumption) (by assumption) (by first | assumption | solve_by_elim) (by (with_reducible first | assumption | (refine Ext.trans (by assumption) ?_; first | assumption | (refine Ext.trans (by assumption) ?_; first | assumption | (refine Ext.trans (by assumption) ?_; first | assumption | (refine Ext.trans (by assumption) ?_; first | assumption | (refine Ext.trans (by assumption) ?_; first | assumption | (refine Ext.trans (by assumption) ?_; assumption)))))))) (fun _ h => by solve_by_elim) (by omega))
theorem turn_C {w : World} {dp un : Nat} {gd : Option (List Code)} {outer : List Env} {A₀ : Around} {base h₀ : Heap} {L P p dx : Addr} {mean : ExcName → Option Value} {mg mb : Str → Option Value} {news : Led} {kvs : List (Str × Value)} {Q : Flow → Shared → Prop} {E : Value → Shared → Prop}
    (B : Below A₀ base outer h₀) (X : (hd.heap_39 w.params).In h₀) (T : Top topProg looseT mean mg mb h₀) (hd : dp + 60 < recursionLimit) (hu : un + 480 < cLine)
    {s : Shared} {u : Str → Option Value} {tk : Tok} {vs : List Value} {st : List Tm} {v1 v2 v3 : Value} {t1 t2 t3 : Tm} (F : Fr h₀ L s.heap (mP u tk (.leaf 67) p P)) (N : News h₀ L s.heap news) (hg : AllBare s.gens) (S : PS w P p dx news kvs (v1 :: v2 :: v3 :: vs) (t1 :: t2 :: t3 :: st)) (hz : vs.length + 5 ≤ sizeLine)
    (next : ∀ tk u' h' g' tkk news' kvs' vs', Fr h₀ L h' (mP u' tk t1 p P) → News h₀ L h' news' → AllBare g' → PS w P p dx news' kvs' vs' (t3 :: t2 :: st) → wf t1 → known kvs' t1 → Ext (Off P p dx) news news' → (∀ u, known kvs u → known kvs' u) → kvs'.length ≤ kvs.length + 0 → Q .next { heap := h', gens := g', drawn := s.drawn, toks := tkk, os := s.os }) :
    wpAny (model PySem.Challenge.rw_xl0011_01.row.prog w) (plA w dp un gd L outer) (execs [(plainL w).1.b2, (plainL w).1.b3] (plEnv w L)) Q E s := by
  unfold plainL plA plEnv plainF
  dsimp only
  revert X
  k_fill
  w_top off
  intro X
  try (refine fold_ctx ?_; intro M9 A9 e9)
  delta mP at F
  rw [← ofs_C] at F
  have e1 : (v3 :: vs).length = vs.length + 1 := rfl
  have e2 : (v2 :: v3 :: vs).length = vs.length + 2 := rfl
  have e3 : (v1 :: v2 :: v3 :: vs).length = vs.length + 3 := rfl
  repeat' (first
    | (k_unfold; (try dsimp only))
    | ((with_reducible show wpAny _ _ (exec (Stmt.Assign _ (PySem.Expr.ListComp _ _ _ _) _) _) _ _ _); k_here; k_dflt (refine LCg.Assign_ListComp_U (F₀ := by k_asm) (by rfl) (by with_unfolding_all rfl) (by rfl) (by decide) (by rfl) (by decide) (by rfl) (by rfl) (by rfl) ?_))
    | ((with_reducible show wpAny _ _ (getMethod (Value.ref _) _ _) _ _ _); (k_here; k_dflt (refine' method_ps ?k1 ?k2 ?k3 ?k4 ?k5 ?k6 ?k7 ?_; (case k2 | k3 | k4 => k_asm); (case k1 => first | assumption | exact PS.cons1 (by assumption) (by k_asm) | exact PS.cons2 (by assumption) (by k_asm) | exact PS.cons3 (by assumption) (by k_asm)); (case k5 | k6 => k_is); (case k7 => (intros; kernel_rfl)); k_whole)))
    | ((with_reducible show wpAny _ _ (call (Value.ref _) _) _ _ _); (k_here; k_dflt (refine' tel_use (from3_ps _ _ ?kz1 ?kz2) ?k1 ?k2 ?k3 ?k4 ?k5 ?k6 ?k7 ?k8 ?k9 ?k10 ?_; (case k1 | k2 => k_asm); (case k3 | k4 | k5 => k_asm); (case k6 => first | exact rfl | assumption); (case k7 => ktr_room); (case k8 => ktr_units); (case k9 => assumption); (case k10 => first | assumption | exact PS.cons1 (by assumption) (by k_asm) | exact PS.cons2 (by assumption) (by k_asm) | exact PS.cons3 (by assumption) (by k_asm)); (case kz1 => (simp only [List.length_cons]; omega)); (case kz2 => omega)); intro r9 n9 h9 t9 g9 F9 N9 G9 P9; obtain ⟨x9, S9, m9, m91, wf91, kn91, m92, wf92, kn92, m93, wf93, kn93⟩ := P9; (try (have ml8 := PS.keep_lcg (by assumption) (by assumption) x9)); (try (have ml9 := PS.keep_cls (PS.cons1 (by assumption) (by assumption)) (List.Mem.head _) rfl x9)); (try (replace x9 := Ext.uncons x9)); (try (replace x9 := Ext.uncons x9)); (try (replace x9 := Ext.uncons x9))))
    | ((with_reducible first | show wpAny _ _ (exec _ _) _ _ _ | show wpAny _ _ (isTrue _ _ _) _ _ _); (fail_if_success (with_reducible show wpAny _ _ _ Q8 _ _)); (with_reducible refine fold_q ?_); intro Q8 hQ8)
    | ((with_reducible refine hQ8 _ _ ?_); clear hQ8; (try dsimp only))
    | ((with_reducible show wpAny _ _ (compareOp CmpOp.Eq (Value.str _ _) (Value.str _ _)) _ _ _); (k_here; refine' eq_b _ ?kb ?_; (case kb => first | assumption | exact str_beq _); k_whole))
    | ((with_reducible show wpAny _ _ (call (Value.ref _) _) _ _ _); (k_here; (with_reducible refine fold_q ?_); intro Q9 hQ9; k_dflt (refine' tel_use (count_ps) ?k1 ?k2 ?k3 ?k4 ?k5 ?k6 ?k7 ?k8 ?k9 ?k10 ?_; (case k1 | k2 => k_asm); (case k3 | k4 | k5 => k_asm); (case k6 => first | exact rfl | assumption); (case k7 => ktr_room); (case k8 => ktr_units); (case k9 => assumption); (case k10 => first | assumption | exact PS.cons1 (by assumption) (by k_asm) | exact PS.cons2 (by assumption) (by k_asm) | exact PS.cons3 (by assumption) (by k_asm))); intro r9 n9 h9 t9 g9 F9 N9 G9 P9; obtain ⟨⟨tk9, y9⟩, x9, S9⟩ := P9; subst y9; (try (have ml8 := PS.keep_lcg (by assumption) (by assumption) x9)); (try (have ml9 := PS.keep_cls (PS.cons1 (by assumption) (by assumption)) (List.Mem.head _) rfl x9)); (try (replace x9 := Ext.uncons x9)); (try (replace x9 := Ext.uncons x9)); (try (replace x9 := Ext.uncons x9)); (with_reducible refine hQ9 _ _ ?_); clear hQ9 Q9))
    | ((with_reducible show wpAny _ _ (call (Value.ref _) _) _ _ _); (k_here; (with_reducible refine fold_q ?_); intro Q9 hQ9; k_dflt (refine' tel_use (push_ps _ _ _ ?kz1 ?kz2 ?kz3) ?k1 ?k2 ?k3 ?k4 ?k5 ?k6 ?k7 ?k8 ?k9 ?k10 ?_; (case k1 | k2 => k_asm); (case k3 | k4 | k5 => k_asm); (case k6 => first | exact rfl | assumption); (case k7 => ktr_room); (case k8 => ktr_units); (case k9 => assumption); (case k10 => first | assumption | exact PS.cons1 (by assumption) (by k_asm) | exact PS.cons2 (by assumption) (by k_asm) | exact PS.cons3 (by assumption) (by k_asm)); (case kz1 => assumption); (case kz2 => first | assumption | solve_by_elim); (case kz3 => (first | (simp only [List.length_cons]; omega) | omega))); intro r9 n9 h9 t9 g9 F9 N9 G9 P9; obtain ⟨y9, x9, v9, S9⟩ := P9; subst y9; (try (have ml8 := PS.keep_lcg (by assumption) (by assumption) x9)); (try (have ml9 := PS.keep_cls (PS.cons1 (by assumption) (by assumption)) (List.Mem.head _) rfl x9)); (try (replace x9 := Ext.uncons x9)); (try (replace x9 := Ext.uncons x9)); (try (replace x9 := Ext.uncons x9)); (with_reducible refine hQ9 _ _ ?_); clear hQ9 Q9))
    | ((with_reducible show wpAny _ _ (subscriptTail _ _ _ _) _ _ _); (k_here; (with_reducible show wpAny _ _ (subscriptTail _ _ (Value.ref _) (Value.int _ _)) _ _ _); k_dflt (refine' item_lcg ?k0 ?k1 ?k2 ?k3 ?k4 ?k6 ?_; (case k0 => k_asm); (case k1 => first | exact Or.inl (by assumption) | exact Or.inr (by assumption) | exact Or.inl (List.Mem.head _)); (case k2 | k3 => decide); (case k4 => rfl); (case k6 => with_unfolding_all rfl); k_whole)))
    | ((with_reducible show wpAny _ _ (subscriptTail _ _ (Value.ref _) (Value.int _ _)) _ _ _); k_dflt (refine' item_tupleT ?t ?a ?b ?c ?d ?_; (case t => exact News.isTup (by k_asm) (by first | assumption | exact .tail _ (by assumption) | exact .tail _ (.tail _ (by assumption)) | exact .tail _ (.tail _ (.tail _ (by assumption))))); (case a | b => decide); (case c | d => rfl); k_whole))
    | ((fail_if_success (with_reducible show wpAny _ _ _ _ _ _)); first
      | (k_here; k_dflt (refine' comp_end ?c1 ?c2 ?c4 ?c5 ?_; (case c1 | c2 | c4 => assumption); (case c5 => lcg_src)))
      | fail "no own line")
    | (walk1) | (dsimp only; walk1) | (leave1; (try dsimp only)) | fail "no step")
  all_goals (try k_data)
  all_goals (first
    | (exfalso; omega)
    | exact next _ _ _ _ _ _ _ _ (mP_fr (by assumption) rfl rfl rfl) (by assumption) (by assumption) (by assumption) (by assumption) (by first | assumption | solve_by_elim) (by (with_reducible first | assumption | (refine Ext.trans (by assumption) ?_; first | assumption | (refine Ext.trans (by assumption) ?_; first | assumption | (refine Ext.trans (by assumption) ?_; first | assumption | (refine Ext.trans (by assumption) ?_; first | assumption | (refine Ext.trans (by assumption) ?_; first | assumption | (refine Ext.trans (by assumption) ?_; assumption)))))))) (fun _ h => by solve_by_elim) (by omega))
end
section
open PySem PySem.W PyProof.Rows
open PySem.Calls PySem.Spec
set_option maxRecDepth 100000
set_option maxHeartbeats 8000000
theorem turn_bO {w : World} {dp un : Nat} {gd : Option (List Code)} {outer : List Env} {A₀ : Around} {base h₀ : Heap} {L P p dx : Addr} {mean : ExcName → Option Value} {mg mb : Str → Option Value} {news : Led} {kvs : List (Str × Value)} {Q : Flow → Shared → Prop} {E : Value → Shared → Prop}
    (B : Below A₀ base outer h₀) (X : (hd.heap_39 w.params).In h₀) (T : Top topProg looseT mean mg mb h₀) (hd : dp + 60 < recursionLimit) (hu : un + 480 < cLine)
    {s : Shared} {u : Str → Option Value} {tk : Tok} {vs : List Value} {st : List Tm} {c : Nat} (hI : (txt (.leaf c) == Str.ofString "I") = false) (hK : (txt (.leaf c) == Str.ofString "K") = false) (hin : ([Str.ofString "S", Str.ofString "B", Str.ofString "C"].any fun x => x == txt (.leaf c)) = false) (F : Fr h₀ L s.heap (mP u tk (.leaf c) p P)) (N : News h₀ L s.heap news) (hg : AllBare s.gens) (S : PS w P p dx news kvs vs st) (hz : vs.length + 5 ≤ sizeLine)
    (brk : ∀ tk u' h' g' tkk news', Fr h₀ L h' (mP u' tk (.leaf c) p P) → News h₀ L h' news' → AllBare g' → PS w P p dx news' kvs vs st → Ext (Off P p dx) news news' → Q .brk { heap := h', gens := g', drawn := s.drawn, toks := tkk, os := s.os }) :
    wpAny (model PySem.Challenge.rw_xl0011_01.row.prog w) (plA w dp un gd L outer) (execs [(plainL w).1.b2, (plainL w).1.b3] (plEnv w L)) Q E s := by
  unfold plainL plA plEnv plainF
  dsimp only
  revert X
  k_fill
  w_top off
  intro X
  refine fold_ctx ?_
  intro M9 A9 e9
  repeat' (first
    | (k_unfold; (try dsimp only))
    | ((with_reducible show wpAny _ _ (compareOp CmpOp.In (Value.str _ _) (Value.ref _)) _ _ _); (k_here; (with_reducible show wpAny _ _ (compareOp CmpOp.In (Value.str _ _) (Value.ref _)) _ _ _); (with_unfolding_all refine' in_b ?kb ?k1 ?k2 ?_; (case k1 => exact News.isList (by k_asm) (by news_mem)); (case k2 => kde_strs); (case kb => assumption); k_whole)); (try k_fold))
    | ((with_reducible show wpAny _ _ (compareOp CmpOp.Eq (Value.str _ _) (Value.str _ _)) _ _ _); (k_here; refine' eq_b _ ?kb ?_; (case kb => first | assumption | exact str_beq _); k_whole); (try k_fold))
    | ((with_reducible show wpAny _ _ (call (Value.ref _) _) _ _ _); (k_here; (with_reducible refine fold_q ?_); intro Q9 hQ9; k_dflt (refine' tel_use (count_ps) ?k1 ?k2 ?k3 ?k4 ?k5 ?k6 ?k7 ?k8 ?k9 ?k10 ?_; (case k1 | k2 => k_asm); (case k3 | k4 | k5 => k_asm); (case k6 => first | exact rfl | assumption); (case k7 => ktr_room); (case k8 => ktr_units); (case k9 => assumption); (case k10 => first | assumption | exact PS.cons1 (by assumption) (by k_asm) | exact PS.cons2 (by assumption) (by k_asm) | exact PS.cons3 (by assumption) (by k_asm))); intro r9 n9 h9 t9 g9 F9 N9 G9 P9; obtain ⟨⟨tk9, y9⟩, x9, S9⟩ := P9; subst y9; (try (have ml8 := PS.keep_lcg (by assumption) (by assumption) x9)); (try (have ml9 := PS.keep_cls (PS.cons1 (by assumption) (by assumption)) (List.Mem.head _) rfl x9)); (try (replace x9 := Ext.uncons x9)); (try (replace x9 := Ext.uncons x9)); (try (replace x9 := Ext.uncons x9))); (with_reducible refine hQ9 _ _ ?_); clear hQ9 Q9; (try k_fold))
    | ((with_reducible show wpAny _ _ (getMethod (Value.ref _) _ _) _ _ _); (k_here; k_dflt (refine' method_ps ?k1 ?k2 ?k3 ?k4 ?k5 ?k6 ?k7 ?_; (case k2 | k3 | k4 => k_asm); (case k1 => first | assumption | exact PS.cons1 (by assumption) (by k_asm) | exact PS.cons2 (by assumption) (by k_asm) | exact PS.cons3 (by assumption) (by k_asm)); (case k5 | k6 => k_is); (case k7 => (intros; kernel_rfl)); k_whole)); (try k_fold))
    | ((with_reducible show wpAny _ _ (execs (_ :: _) _) _ _ _); (k_here; (with_reducible refine wpAny_execs_cons ?_); (try dsimp only); (try k_fold); (try (refine fold_fn (by k_asm) (by k_asm) ?_; intro led9 fm9 F9 N9))); (try k_fold))
    | (walk1; (try k_fold)) | (dsimp only; walk1; (try k_fold)) | (leave1; (try dsimp only)) | fail "no step")
  all_goals (try k_data)
  all_goals (first
    | (exfalso; omega)
    | (refine brk _ _ _ _ _ _ (mP_fr (by assumption) rfl rfl rfl) (news_tail (by assumption)) (by assumption) (by assumption) (by (with_reducible first | assumption | (refine Ext.trans (by assumption) ?_; first | assumption | (refine Ext.trans (by assumption) ?_; first | assumption | (refine Ext.trans (by assumption) ?_; first | assumption | (refine Ext.trans (by assumption) ?_; first | assumption | (refine Ext.trans (by assumption) ?_; first | assumption | (refine Ext.trans (by assumption) ?_; assumption))))))))))
theorem turn_bI {w : World} {dp un : Nat} {gd : Option (List Code)} {outer : List Env} {A₀ : Around} {base h₀ : Heap} {L P p dx : Addr} {mean : ExcName → Option Value} {mg mb : Str → Option Value} {news : Led} {kvs : List (Str × Value)} {Q : Flow → Shared → Prop} {E : Value → Shared → Prop}
    (B : Below A₀ base outer h₀) (X : (hd.heap_39 w.params).In h₀) (T : Top topProg looseT mean mg mb h₀) (hd : dp + 60 < recursionLimit) (hu : un + 480 < cLine)
    {s : Shared} {u : Str → Option Value} {tk : Tok} {vs : List Value} {st : List Tm} {c : Nat} (hI : (txt (.leaf c) == Str.ofString "I") = true) (hK : (txt (.leaf c) == Str.ofString "K") = false) (hin : ([Str.ofString "S", Str.ofString "B", Str.ofString "C"].any fun x => x == txt (.leaf c)) = false) (F : Fr h₀ L s.heap (mP u tk (.leaf c) p P)) (N : News h₀ L s.heap news) (hg : AllBare s.gens) (S : PS w P p dx news kvs vs st) (hz : vs.length + 5 ≤ sizeLine) (hv : vs.length ≤ 0)
    (brk : ∀ tk u' h' g' tkk news', Fr h₀ L h' (mP u' tk (.leaf c) p P) → News h₀ L h' news' → AllBare g' → PS w P p dx news' kvs vs st → Ext (Off P p dx) news news' → Q .brk { heap := h', gens := g', drawn := s.drawn, toks := tkk, os := s.os }) :
    wpAny (model PySem.Challenge.rw_xl0011_01.row.prog w) (plA w dp un gd L outer) (execs [(plainL w).1.b2, (plainL w).1.b3] (plEnv w L)) Q E s := by
  unfold plainL plA plEnv plainF
  dsimp only
  revert X
  k_fill
  w_top off
  intro X
  refine fold_ctx ?_
  intro M9 A9 e9
  repeat' (first
    | (k_unfold; (try dsimp only))
    | ((with_reducible show wpAny _ _ (compareOp CmpOp.In (Value.str _ _) (Value.ref _)) _ _ _); (k_here; (with_reducible show wpAny _ _ (compareOp CmpOp.In (Value.str _ _) (Value.ref _)) _ _ _); (with_unfolding_all refine' in_b ?kb ?k1 ?k2 ?_; (case k1 => exact News.isList (by k_asm) (by news_mem)); (case k2 => kde_strs); (case kb => assumption); k_whole)); (try k_fold))
    | ((with_reducible show wpAny _ _ (compareOp CmpOp.Eq (Value.str _ _) (Value.str _ _)) _ _ _); (k_here; refine' eq_b _ ?kb ?_; (case kb => first | assumption | exact str_beq _); k_whole); (try k_fold))
    | ((with_reducible show wpAny _ _ (call (Value.ref _) _) _ _ _); (k_here; (with_reducible refine fold_q ?_); intro Q9 hQ9; k_dflt (refine' tel_use (count_ps) ?k1 ?k2 ?k3 ?k4 ?k5 ?k6 ?k7 ?k8 ?k9 ?k10 ?_; (case k1 | k2 => k_asm); (case k3 | k4 | k5 => k_asm); (case k6 => first | exact rfl | assumption); (case k7 => ktr_room); (case k8 => ktr_units); (case k9 => assumption); (case k10 => first | assumption | exact PS.cons1 (by assumption) (by k_asm) | exact PS.cons2 (by assumption) (by k_asm) | exact PS.cons3 (by assumption) (by k_asm))); intro r9 n9 h9 t9 g9 F9 N9 G9 P9; obtain ⟨⟨tk9, y9⟩, x9, S9⟩ := P9; subst y9; (try (have ml8 := PS.keep_lcg (by assumption) (by assumption) x9)); (try (have ml9 := PS.keep_cls (PS.cons1 (by assumption) (by assumption)) (List.Mem.head _) rfl x9)); (try (replace x9 := Ext.uncons x9)); (try (replace x9 := Ext.uncons x9)); (try (replace x9 := Ext.uncons x9))); (with_reducible refine hQ9 _ _ ?_); clear hQ9 Q9; (try k_fold))
    | ((with_reducible show wpAny _ _ (getMethod (Value.ref _) _ _) _ _ _); (k_here; k_dflt (refine' method_ps ?k1 ?k2 ?k3 ?k4 ?k5 ?k6 ?k7 ?_; (case k2 | k3 | k4 => k_asm); (case k1 => first | assumption | exact PS.cons1 (by assumption) (by k_asm) | exact PS.cons2 (by assumption) (by k_asm) | exact PS.cons3 (by assumption) (by k_asm)); (case k5 | k6 => k_is); (case k7 => (intros; kernel_rfl)); k_whole)); (try k_fold))
    | ((with_reducible show wpAny _ _ (execs (_ :: _) _) _ _ _); (k_here; (with_reducible refine wpAny_execs_cons ?_); (try dsimp only); (try k_fold); (try (refine fold_fn (by k_asm) (by k_asm) ?_; intro led9 fm9 F9 N9))); (try k_fold))
    | (walk1; (try k_fold)) | (dsimp only; walk1; (try k_fold)) | (leave1; (try dsimp only)) | fail "no step")
  all_goals (try k_data)
  all_goals (first
    | (exfalso; omega)
    | (refine brk _ _ _ _ _ _ (mP_fr (by assumption) rfl rfl rfl) (news_tail (by assumption)) (by assumption) (by assumption) (by (with_reducible first | assumption | (refine Ext.trans (by assumption) ?_; first | assumption | (refine Ext.trans (by assumption) ?_; first | assumption | (refine Ext.trans (by assumption) ?_; first | assumption | (refine Ext.trans (by assumption) ?_; first | assumption | (refine Ext.trans (by assumption) ?_; first | assumption | (refine Ext.trans (by assumption) ?_; assumption))))))))))
theorem turn_bK {w : World} {dp un : Nat} {gd : Option (List Code)} {outer : List Env} {A₀ : Around} {base h₀ : Heap} {L P p dx : Addr} {mean : ExcName → Option Value} {mg mb : Str → Option Value} {news : Led} {kvs : List (Str × Value)} {Q : Flow → Shared → Prop} {E : Value → Shared → Prop}
    (B : Below A₀ base outer h₀) (X : (hd.heap_39 w.params).In h₀) (T : Top topProg looseT mean mg mb h₀) (hd : dp + 60 < recursionLimit) (hu : un + 480 < cLine)
    {s : Shared} {u : Str → Option Value} {tk : Tok} {vs : List Value} {st : List Tm} {c : Nat} (hI : (txt (.leaf c) == Str.ofString "I") = false) (hK : (txt (.leaf c) == Str.ofString "K") = true) (hin : ([Str.ofString "S", Str.ofString "B", Str.ofString "C"].any fun x => x == txt (.leaf c)) = false) (F : Fr h₀ L s.heap (mP u tk (.leaf c) p P)) (N : News h₀ L s.heap news) (hg : AllBare s.gens) (S : PS w P p dx news kvs vs st) (hz : vs.length + 5 ≤ sizeLine) (hv : vs.length ≤ 1)
    (brk : ∀ tk u' h' g' tkk news', Fr h₀ L h' (mP u' tk (.leaf c) p P) → News h₀ L h' news' → AllBare g' → PS w P p dx news' kvs vs st → Ext (Off P p dx) news news' → Q .brk { heap := h', gens := g', drawn := s.drawn, toks := tkk, os := s.os }) :
    wpAny (model PySem.Challenge.rw_xl0011_01.row.prog w) (plA w dp un gd L outer) (execs [(plainL w).1.b2, (plainL w).1.b3] (plEnv w L)) Q E s := by
  unfold plainL plA plEnv plainF
  dsimp only
  revert X
  k_fill
  w_top off
  intro X
  refine fold_ctx ?_
  intro M9 A9 e9
  repeat' (first
    | (k_unfold; (try dsimp only))
    | ((with_reducible show wpAny _ _ (compareOp CmpOp.In (Value.str _ _) (Value.ref _)) _ _ _); (k_here; (with_reducible show wpAny _ _ (compareOp CmpOp.In (Value.str _ _) (Value.ref _)) _ _ _); (with_unfolding_all refine' in_b ?kb ?k1 ?k2 ?_; (case k1 => exact News.isList (by k_asm) (by news_mem)); (case k2 => kde_strs); (case kb => assumption); k_whole)); (try k_fold))
    | ((with_reducible show wpAny _ _ (compareOp CmpOp.Eq (Value.str _ _) (Value.str _ _)) _ _ _); (k_here; refine' eq_b _ ?kb ?_; (case kb => first | assumption | exact str_beq _); k_whole); (try k_fold))
    | ((with_reducible show wpAny _ _ (call (Value.ref _) _) _ _ _); (k_here; (with_reducible refine fold_q ?_); intro Q9 hQ9; k_dflt (refine' tel_use (count_ps) ?k1 ?k2 ?k3 ?k4 ?k5 ?k6 ?k7 ?k8 ?k9 ?k10 ?_; (case k1 | k2 => k_asm); (case k3 | k4 | k5 => k_asm); (case k6 => first | exact rfl | assumption); (case k7 => ktr_room); (case k8 => ktr_units); (case k9 => assumption); (case k10 => first | assumption | exact PS.cons1 (by assumption) (by k_asm) | exact PS.cons2 (by assumption) (by k_asm) | exact PS.cons3 (by assumption) (by k_asm))); intro r9 n9 h9 t9 g9 F9 N9 G9 P9; obtain ⟨⟨tk9, y9⟩, x9, S9⟩ := P9; subst y9; (try (have ml8 := PS.keep_lcg (by assumption) (by assumption) x9)); (try (have ml9 := PS.keep_cls (PS.cons1 (by assumption) (by assumption)) (List.Mem.head _) rfl x9)); (try (replace x9 := Ext.uncons x9)); (try (replace x9 := Ext.uncons x9)); (try (replace x9 := Ext.uncons x9))); (with_reducible refine hQ9 _ _ ?_); clear hQ9 Q9; (try k_fold))
    | ((with_reducible show wpAny _ _ (getMethod (Value.ref _) _ _) _ _ _); (k_here; k_dflt (refine' method_ps ?k1 ?k2 ?k3 ?k4 ?k5 ?k6 ?k7 ?_; (case k2 | k3 | k4 => k_asm); (case k1 => first | assumption | exact PS.cons1 (by assumption) (by k_asm) | exact PS.cons2 (by assumption) (by k_asm) | exact PS.cons3 (by assumption) (by k_asm)); (case k5 | k6 => k_is); (case k7 => (intros; kernel_rfl)); k_whole)); (try k_fold))
    | ((with_reducible show wpAny _ _ (execs (_ :: _) _) _ _ _); (k_here; (with_reducible refine wpAny_execs_cons ?_); (try dsimp only); (try k_fold); (try (refine fold_fn (by k_asm) (by k_asm) ?_; intro led9 fm9 F9 N9))); (try k_fold))
    | (walk1; (try k_fold)) | (dsimp only; walk1; (try k_fold)) | (leave1; (try dsimp only)) | fail "no step")
  all_goals (try k_data)
  all_goals (first
    | (exfalso; omega)
    | (refine brk _ _ _ _ _ _ (mP_fr (by assumption) rfl rfl rfl) (news_tail (by assumption)) (by assumption) (by assumption) (by (with_reducible first | assumption | (refine Ext.trans (by assumption) ?_; first | assumption | (refine Ext.trans (by assumption) ?_; first | assumption | (refine Ext.trans (by assumption) ?_; first | assumption | (refine Ext.trans (by assumption) ?_; first | assumption | (refine Ext.trans (by assumption) ?_; first | assumption | (refine Ext.trans (by assumption) ?_; assumption))))))))))
theorem turn_bS {w : World} {dp un : Nat} {gd : Option (List Code)} {outer : List Env} {A₀ : Around} {base h₀ : Heap} {L P p dx : Addr} {mean : ExcName → Option Value} {mg mb : Str → Option Value} {news : Led} {kvs : List (Str × Value)} {Q : Flow → Shared → Prop} {E : Value → Shared → Prop}
    (B : Below A₀ base outer h₀) (X : (hd.heap_39 w.params).In h₀) (T : Top topProg looseT mean mg mb h₀) (hd : dp + 60 < recursionLimit) (hu : un + 480 < cLine)
    {s : Shared} {u : Str → Option Value} {tk : Tok} {vs : List Value} {st : List Tm} {c : Nat} (hI : (txt (.leaf c) == Str.ofString "I") = false) (hK : (txt (.leaf c) == Str.ofString "K") = false) (hin : ([Str.ofString "S", Str.ofString "B", Str.ofString "C"].any fun x => x == txt (.leaf c)) = true) (F : Fr h₀ L s.heap (mP u tk (.leaf c) p P)) (N : News h₀ L s.heap news) (hg : AllBare s.gens) (S : PS w P p dx news kvs vs st) (hz : vs.length + 5 ≤ sizeLine) (hv : vs.length ≤ 2)
    (brk : ∀ tk u' h' g' tkk news', Fr h₀ L h' (mP u' tk (.leaf c) p P) → News h₀ L h' news' → AllBare g' → PS w P p dx news' kvs vs st → Ext (Off P p dx) news news' → Q .brk { heap := h', gens := g', drawn := s.drawn, toks := tkk, os := s.os }) :
    wpAny (model PySem.Challenge.rw_xl0011_01.row.prog w) (plA w dp un gd L outer) (execs [(plainL w).1.b2, (plainL w).1.b3] (plEnv w L)) Q E s := by
  unfold plainL plA plEnv plainF
  dsimp only
  revert X
  k_fill
  w_top off
  intro X
  refine fold_ctx ?_
  intro M9 A9 e9
  repeat' (first
    | (k_unfold; (try dsimp only))
    | ((with_reducible show wpAny _ _ (compareOp CmpOp.In (Value.str _ _) (Value.ref _)) _ _ _); (k_here; (with_reducible show wpAny _ _ (compareOp CmpOp.In (Value.str _ _) (Value.ref _)) _ _ _); (with_unfolding_all refine' in_b ?kb ?k1 ?k2 ?_; (case k1 => exact News.isList (by k_asm) (by news_mem)); (case k2 => kde_strs); (case kb => assumption); k_whole)); (try k_fold))
    | ((with_reducible show wpAny _ _ (compareOp CmpOp.Eq (Value.str _ _) (Value.str _ _)) _ _ _); (k_here; refine' eq_b _ ?kb ?_; (case kb => first | assumption | exact str_beq _); k_whole); (try k_fold))
    | ((with_reducible show wpAny _ _ (call (Value.ref _) _) _ _ _); (k_here; (with_reducible refine fold_q ?_); intro Q9 hQ9; k_dflt (refine' tel_use (count_ps) ?k1 ?k2 ?k3 ?k4 ?k5 ?k6 ?k7 ?k8 ?k9 ?k10 ?_; (case k1 | k2 => k_asm); (case k3 | k4 | k5 => k_asm); (case k6 => first | exact rfl | assumption); (case k7 => ktr_room); (case k8 => ktr_units); (case k9 => assumption); (case k10 => first | assumption | exact PS.cons1 (by assumption) (by k_asm) | exact PS.cons2 (by assumption) (by k_asm) | exact PS.cons3 (by assumption) (by k_asm))); intro r9 n9 h9 t9 g9 F9 N9 G9 P9; obtain ⟨⟨tk9, y9⟩, x9, S9⟩ := P9; subst y9; (try (have ml8 := PS.keep_lcg (by assumption) (by assumption) x9)); (try (have ml9 := PS.keep_cls (PS.cons1 (by assumption) (by assumption)) (List.Mem.head _) rfl x9)); (try (replace x9 := Ext.uncons x9)); (try (replace x9 := Ext.uncons x9)); (try (replace x9 := Ext.uncons x9))); (with_reducible refine hQ9 _ _ ?_); clear hQ9 Q9; (try k_fold))
    | ((with_reducible show wpAny _ _ (getMethod (Value.ref _) _ _) _ _ _); (k_here; k_dflt (refine' method_ps ?k1 ?k2 ?k3 ?k4 ?k5 ?k6 ?k7 ?_; (case k2 | k3 | k4 => k_asm); (case k1 => first | assumption | exact PS.cons1 (by assumption) (by k_asm) | exact PS.cons2 (by assumption) (by k_asm) | exact PS.cons3 (by assumption) (by k_asm)); (case k5 | k6 => k_is); (case k7 => (intros; kernel_rfl)); k_whole)); (try k_fold))
    | ((with_reducible show wpAny _ _ (execs (_ :: _) _) _ _ _); (k_here; (with_reducible refine wpAny_execs_cons ?_); (try dsimp only); (try k_fold); (try (refine fold_fn (by k_asm) (by k_asm) ?_; intro led9 fm9 F9 N9))); (try k_fold))
    | (walk1; (try k_fold)) | (dsimp only; walk1; (try k_fold)) | (leave1; (try dsimp only)) | fail "no step")
  all_goals (try k_data)
  all_goals (first
    | (exfalso; omega)
    | (refine brk _ _ _ _ _ _ (mP_fr (by assumption) rfl rfl rfl) (news_tail (by assumption)) (by assumption) (by assumption) (by (with_reducible first | assumption | (refine Ext.trans (by assumption) ?_; first | assumption | (refine Ext.trans (by assumption) ?_; first | assumption | (refine Ext.trans (by assumption) ?_; first | assumption | (refine Ext.trans (by assumption) ?_; first | assumption | (refine Ext.trans (by assumption) ?_; first | assumption | (refine Ext.trans (by assumption) ?_; assumption))))))))))
end
section
open PySem PySem.W PyProof.Rows
open PySem.Calls PySem.Spec
set_option maxRecDepth 100000
set_option maxHeartbeats 8000000
abbrev rit (x left : Int) : Obj := { cls := .type "range_iterator", data := .fields #[rawInt x, rawInt left, rawInt 1] }
theorem All2.len {α β : Type} {R : α → β → Prop} : ∀ {l : List α} {m : List β}, All2 R l m → l.length = m.length
  | _, _, .nil => rfl
  | _, _, .cons _ r => congrArg Nat.succ r.len
theorem for_rule {prog : Program} {w : World} {A : Around} {R : Result → Shared → Prop} {s : Shared} {target : Expr} {it : Value} {body orelse : List Stmt} {env : Env} (I : Nat → Shared → Prop)
    (turn : ∀ n s, I n s → wpAny (model prog w) A (pyNext it) (fun r s₁ => match r with
      | none => wpAny (model prog w) A (execs orelse env) (fun f s₃ => R (.ok f) s₃) (notedBy (model prog w) A env fun e s' => R (.error e) s') s₁
      | some v => wpAny (model prog w) A (assign target env v) (fun _ s₂ => wpAny (model prog w) A (execs body env) (fun f s₃ => match f with
          | .next | .cont => Less I n s₃
          | .brk => R (.ok .next) s₃
          | .ret v => R (.ok (.ret v)) s₃) (notedBy (model prog w) A env fun e s' => R (.error e) s') s₂) (notedBy (model prog w) A env fun e s' => R (.error e) s') s₁) (notedBy (model prog w) A env fun e s' => R (.error e) s') s)
    (n : Nat) (h : I n s) (ht : ∀ v, letOwnedTupleGo target it v = pure () := by intro _; rfl) : codeAny (model prog w) A (.forLoop target it body orelse env) R s := codeAny_forLoop I turn n h ht
section
variable {w : World} {P p dx L It : Addr} {h₀ h : Heap} {m : Str → Option Value} {news news' : Led} {kvs kvs' : List (Str × Value)} {vs : List Value} {st : List Tm}
/-- an iterator's move -/
theorem PS.moveI (S : PS w P p dx news kvs vs st) {o : Obj} (hm : (It, o) ∈ news) (h1 : o.cls ≠ .type "dict") (h2 : o.cls ≠ .none) (h3 : o.cls ≠ .ref 118) (h4 : o.cls ≠ .type "tuple") (e : Ext [It] news news') (u : Uniq news') : PS w P p dx news' kvs vs st := by
  have hoff := S.off hm h1 h2 h3
  have hP : It ≠ P := fun q => hoff (q ▸ .head _)
  have h80 : It ≠ 80 := fun q => hoff (q ▸ .tail _ (.head _))
  have hp : It ≠ p := fun q => hoff (q ▸ .tail _ (.tail _ (.head _)))
  have hd : It ≠ dx := fun q => hoff (q ▸ .tail _ (.tail _ (.tail _ (.head _))))
  have hx : ∀ a ys, (a, tup ys) ∈ news → a ∉ [It] := fun a ys ha hh => by
    rw [List.mem_singleton.mp hh] at ha
    exact h4 (by rw [S.uni _ _ _ hm ha])
  exact {
    ps := S.ps.ext e (fun q => hP (List.mem_singleton.mp q).symm) (fun b hb o' ho ys e' => hx b ys (e' ▸ ho) hb)
    pile := S.pile.ext e (fun q => hp (List.mem_singleton.mp q).symm) (fun q => hd (List.mem_singleton.mp q).symm)
    stk := cells_ext e hx (fun _ h => h) S.stk
    tab := S.tab.ext e (fun q => h80 (List.mem_singleton.mp q).symm)
    uni := u
    pP := S.pP
    dP := S.dP }
theorem put_fr {h' : Heap} {o o' : Obj} (F : Fr h₀ L h m) (N : News h₀ L h news) (hm : (It, o) ∈ news) (hs : Heap.SameBut It h h') (ho : h'.get? It = some o') : Fr h₀ L h' m ∧ News h₀ L h' (put news It o') :=
  ⟨F.change hs (N _ hm).2.1 (N _ hm).2.2, news_put N hm hs ho⟩
end
theorem txt_leaf_beq {c : Nat} {n : Nat} (x : Str) (hx : x = txt (.leaf n)) (hn : okc n) (hc : okc c) : (txt (.leaf c) == x) = Nat.beq c n := by
  subst hx
  exact isLeaf_beq hn (l := .leaf c) hc
theorem any_leaf {c : Nat} (hc : okc c) : ([Str.ofString "S", Str.ofString "B", Str.ofString "C"].any fun x => x == txt (.leaf c)) = (Nat.beq c 83 || Nat.beq c 66 || Nat.beq c 67) := by
  have e : ∀ n, okc n → (txt (.leaf n) == txt (.leaf c)) = Nat.beq c n := fun n hn => by
    rw [show (txt (.leaf n) == txt (.leaf c)) = (txt (.leaf c) == txt (.leaf n)) from by
      by_cases q : txt (.leaf n) = txt (.leaf c)
      · rw [q]
      · have q2 : ¬ txt (.leaf c) = txt (.leaf n) := fun z => q z.symm
        rw [beq_eq_false_iff_ne.mpr q, beq_eq_false_iff_ne.mpr q2]]
    exact isLeaf_beq hn (l := .leaf c) hc
  simp only [List.any_cons, List.any_nil, Bool.or_false]
  rw [ofs_S, ofs_B, ofs_C, e 83 (by decide), e 66 (by decide), e 67 (by decide), Bool.or_assoc]
/-- a turn of `run`, read backwards -/
theorem run_succ {n : Nat} {t : Tm} {st : List Tm} {k : Nat} {r : Nat × List Tm × Nat} (h : run (n + 1) t st k = some r) : t.size + st.length ≤ lim ∧
    ((∃ t2 st2 j, step (unwind t st).1 (unwind t st).2 = some (t2, st2, j) ∧ run n t2 st2 (k + j) = some r) ∨ (step (unwind t st).1 (unwind t st).2 = none ∧ goes (unwind t st).1 (unwind t st).2 = false ∧ r = ((unwind t st).1, (unwind t st).2, k))) := by
  unfold run at h
  cases hr : room t st with
  | false => rw [hr] at h; cases h
  | true =>
    rw [hr] at h
    refine ⟨Nat.le_of_ble_eq_true hr, ?_⟩
    cases hu : unwind t st with
    | mk c s2 =>
      rw [hu] at h
      dsimp only at h ⊢
      cases hs : step c s2 with
      | some x =>
        obtain ⟨t2, st2, j⟩ := x
        rw [hs] at h
        exact .inl ⟨t2, st2, j, rfl, h⟩
      | none =>
        rw [hs] at h
        dsimp only at h
        cases hg : goes c s2 with
        | true => rw [hg] at h; cases h
        | false => rw [hg] at h; exact .inr ⟨rfl, rfl, (Option.some.inj h).symm⟩
end
section
open PySem PySem.W PyProof.Rows
open PySem.Calls PySem.Spec
set_option maxRecDepth 100000
set_option maxHeartbeats 8000000

theorem range_w {w : World} {dp un : Nat} {gd : Option (List Code)} {outer : List Env} {A₀ : Around} {base h₀ : Heap} {L P p : Addr} {mean : ExcName → Option Value} {mg mb : Str → Option Value} {news : Led} {K : Value → Shared → Prop} {E : Value → Shared → Prop}
    (B : Below A₀ base outer h₀) (X : (hd.heap_39 w.params).In h₀) (T : Top topProg looseT mean mg mb h₀)
    {s : Shared} {u : Str → Option Value} {tk : Tok} {t : Tm} (F : Fr h₀ L s.heap (mP u tk t p P)) (N : News h₀ L s.heap news)
    (h : ∀ It h' tk', Fr h₀ L h' (mP u tk t p P) → News h₀ L h' ((It, rit 0 400) :: news) → (∀ q ∈ news, q.1 ≠ It) → K (.ref It) { heap := h', gens := s.gens, drawn := s.drawn, toks := tk', os := s.os }) :
    wpAny (model PySem.Challenge.rw_xl0011_01.row.prog w) (plA w dp un gd L outer) (eval (plainL w).1.itr (plEnv w L)) (fun x s₁ => wpAny (model PySem.Challenge.rw_xl0011_01.row.prog w) (plA w dp un gd L outer) (pyIter x) K E s₁) E s := by
  unfold plainL plA plEnv plainF
  dsimp only
  revert X
  k_fill
  w_top off
  intro X
  try (refine fold_ctx ?_; intro M9 A9 e9)
  repeat' (first
    | (k_unfold; (try dsimp only))
    | (walk1; (try k_fold)) | (dsimp only; walk1; (try k_fold)) | (leave1; (try dsimp only)) | fail "no step")
  rename IsRange _ _ _ _ _ _ _ _ => r9
  refine wpAny_pyIter_range r9 (by decide) ?_
  rename News _ _ _ _ => n9
  exact h _ _ _ (Fr.push (by assumption) _) (News.push (by assumption) n9 _) fun q hq => Nat.ne_of_lt (Heap.lt_size (n9 q hq).1)
end
section
open PySem PySem.W PyProof.Rows
open PySem.Calls PySem.Spec
set_option maxRecDepth 100000
set_option maxHeartbeats 8000000

inductive OI (w : World) (P p dx L It : Addr) (h₀ : Heap) (news0 : Led) (kvs : List (Str × Value)) (r : Nat × List Tm × Nat) (s0 : Shared) : Nat → Shared → Prop where
  | mk {n : Nat} {t : Tm} {tk : Tok} {u : Str → Option Value} {h' : Heap} {g' : Array GenState} {tkk : Nat} {news : Led} {kvs' : List (Str × Value)} {vs : List Value} {st : List Tm} {x : Int} {k : Nat} (F : Fr h₀ L h' (mP u tk t p P)) (N : News h₀ L h' news) (hg : AllBare g') (S : PS w P p dx news kvs' vs st) (hwf : wf t) (hkn : known kvs' t)
    (hm : (It, rit x n) ∈ news) (hrun : run n t st k = some r) (hle : kvs'.length ≤ kvs.length + k) (hmo : ∀ u, known kvs u → known kvs' u) (hx : Ext (Off P p dx) news0 news) : OI w P p dx L It h₀ news0 kvs r s0 n { heap := h', gens := g', drawn := s0.drawn, toks := tkk, os := s0.os }
theorem pick_some {x : Option (Tm × List Tm × Nat)} {P : Tm → List Tm → Nat → Prop} {R : Prop} (h : (∃ a b c, x = some (a, b, c) ∧ P a b c) ∨ (x = none ∧ R)) {a : Tm} {b : List Tm} {c : Nat} (e : x = some (a, b, c)) : P a b c := by
  rcases h with ⟨a', b', c', e', h⟩ | ⟨e', _⟩
  · rw [e] at e'; cases e'; exact h
  · rw [e] at e'; cases e'
theorem pick_none {x : Option (Tm × List Tm × Nat)} {P : Tm → List Tm → Nat → Prop} {R : Prop} (h : (∃ a b c, x = some (a, b, c) ∧ P a b c) ∨ (x = none ∧ R)) (e : x = none) : R := by
  rcases h with ⟨a', b', c', e', h⟩ | ⟨_, h⟩
  · rw [e] at e'; cases e'
  · exact h
theorem run_mono : ∀ {n : Nat} {t : Tm} {st : List Tm} {k : Nat} {r : Nat × List Tm × Nat}, run n t st k = some r → k ≤ r.2.2
  | 0, _, _, _, _, h => by cases h
  | n + 1, t, st, k, r, h => by
    obtain ⟨_, ⟨t2, st2, j, _, h2⟩ | ⟨_, _, rfl⟩⟩ := run_succ h
    · exact Nat.le_trans (Nat.le_add_right _ _) (run_mono h2)
    · exact Nat.le_refl _
theorem step_other {c : Nat} (h1 : Nat.beq c 73 = false) (h2 : Nat.beq c 75 = false) (h3 : Nat.beq c 83 = false) (h4 : Nat.beq c 66 = false) (h5 : Nat.beq c 67 = false) (st : List Tm) : step c st = none ∧ goes c st = false := by
  unfold step goes
  rw [h1, h2, h3, h4, h5]
  rcases st with _ | ⟨f, _ | ⟨g, _ | ⟨x, st⟩⟩⟩ <;> exact ⟨rfl, rfl⟩
theorem turn_all {w : World} {dp un : Nat} {gd : Option (List Code)} {outer : List Env} {A₀ : Around} {base h₀ : Heap} {L P p dx : Addr} {mean : ExcName → Option Value} {mg mb : Str → Option Value} {news : Led} {kvs : List (Str × Value)} {Q : Flow → Shared → Prop} {E : Value → Shared → Prop}
    (B : Below A₀ base outer h₀) (X : (hd.heap_39 w.params).In h₀) (T : Top topProg looseT mean mg mb h₀) (hd : dp + 60 < recursionLimit) (hu : un + 480 < cLine)
    {s : Shared} {u : Str → Option Value} {tk : Tok} {vs : List Value} {st : List Tm} {c : Nat} (hc : okc c) (F : Fr h₀ L s.heap (mP u tk (.leaf c) p P)) (N : News h₀ L s.heap news) (hg : AllBare s.gens) (S : PS w P p dx news kvs vs st) (hz : vs.length + 5 ≤ sizeLine) (hkz : kvs.length ≤ sizeLine) (hlm : lim + 1 ≤ sizeLine)
    (hok : step c st = none → goes c st = false)
    (next : ∀ t2 st2 j tk u' h' g' tkk news' kvs' vs', step c st = some (t2, st2, j) → Fr h₀ L h' (mP u' tk t2 p P) → News h₀ L h' news' → AllBare g' → PS w P p dx news' kvs' vs' st2 → wf t2 → known kvs' t2 → Ext (Off P p dx) news news' → (∀ u, known kvs u → known kvs' u) → kvs'.length ≤ kvs.length + j → Q .next { heap := h', gens := g', drawn := s.drawn, toks := tkk, os := s.os })
    (brk : step c st = none → ∀ tk u' h' g' tkk news', Fr h₀ L h' (mP u' tk (.leaf c) p P) → News h₀ L h' news' → AllBare g' → PS w P p dx news' kvs vs st → Ext (Off P p dx) news news' → Q .brk { heap := h', gens := g', drawn := s.drawn, toks := tkk, os := s.os }) :
    wpAny (model PySem.Challenge.rw_xl0011_01.row.prog w) (plA w dp un gd L outer) (execs [(plainL w).1.b2, (plainL w).1.b3] (plEnv w L)) Q E s := by
  have kI := txt_leaf_beq (c := c) _ ofs_I (by decide) hc
  have kK := txt_leaf_beq (c := c) _ ofs_K (by decide) hc
  have kS := any_leaf (c := c) hc
  have hv := S.stk.len
  cases q1 : Nat.beq c 73 with
  | true =>
    have e := Nat.eq_of_beq_eq_true q1
    subst e
    cases st with
    | nil => exact turn_bI B X T hd hu kI kK kS F N hg S hz (by rw [hv]; exact Nat.le_refl _) (brk rfl)
    | cons t1 st =>
      have hs := S.stk
      cases hs with
      | cons a r => exact turn_I B X T hd hu F N hg S (Nat.le_trans (Nat.add_le_add_right (Nat.le_succ _) 5) hz) (v2 := .none) (v3 := .none) (t2 := t1) (t3 := t1) fun tk u' h' g' tkk news' kvs' vs' => next _ _ _ tk u' h' g' tkk news' kvs' vs' rfl
  | false =>
  cases q2 : Nat.beq c 75 with
  | true =>
    have e := Nat.eq_of_beq_eq_true q2
    subst e
    rcases st with _ | ⟨t1, _ | ⟨t2, st⟩⟩
    · exact turn_bK B X T hd hu kI kK kS F N hg S hz (by rw [hv]; exact Nat.zero_le _) (brk rfl)
    · exact turn_bK B X T hd hu kI kK kS F N hg S hz (by rw [hv]; exact Nat.le_refl _) (brk rfl)
    · have hs := S.stk
      rcases hs with _ | ⟨a, _ | ⟨b, r⟩⟩
      exact turn_K B X T hd hu F N hg S (by simp only [List.length_cons] at hz; omega) (v3 := .none) (t3 := t1) fun tk u' h' g' tkk news' kvs' vs' => next _ _ _ tk u' h' g' tkk news' kvs' vs' rfl
  | false =>
  by_cases q3 : c = 83 ∨ c = 66 ∨ c = 67
  · have kS' : ([Str.ofString "S", Str.ofString "B", Str.ofString "C"].any fun x => x == txt (.leaf c)) = true := by rw [kS]; rcases q3 with rfl | rfl | rfl <;> rfl
    rw [q1] at kI
    rw [q2] at kK
    rcases st with _ | ⟨t1, _ | ⟨t2, _ | ⟨t3, st⟩⟩⟩
    · exact turn_bS B X T hd hu kI kK kS' F N hg S hz (by rw [hv]; exact Nat.zero_le _) (brk (by rcases q3 with rfl | rfl | rfl <;> rfl))
    · exact turn_bS B X T hd hu kI kK kS' F N hg S hz (by rw [hv]; exact Nat.le_succ _) (brk (by rcases q3 with rfl | rfl | rfl <;> rfl))
    · exact turn_bS B X T hd hu kI kK kS' F N hg S hz (by rw [hv]; exact Nat.le_refl _) (brk (by rcases q3 with rfl | rfl | rfl <;> rfl))
    · have hs := S.stk
      rcases hs with _ | ⟨a, _ | ⟨b, _ | ⟨d, r⟩⟩⟩
      have hz' := hz
      simp only [List.length_cons] at hz'
      rcases q3 with rfl | rfl | rfl
      · cases q4 : onOk t2 t3 with
        | false =>
          have e : step 83 (t1 :: t2 :: t3 :: st) = none := by show (match onOk t2 t3 with | true => some (t1, t3 :: .app t2 t3 :: st, 1) | false => none) = _; rw [q4]
          exact absurd (hok e) (fun h => Bool.noConfusion (show true = false from h))
        | true =>
          have q5 := Nat.le_of_ble_eq_true q4
          exact turn_S B X T hd hu F N hg S (by omega) (Nat.le_trans (Nat.succ_le_succ q5) hlm) hkz fun tk u' h' g' tkk news' kvs' vs' => next _ _ _ tk u' h' g' tkk news' kvs' vs' (by show (match onOk t2 t3 with | true => some (t1, t3 :: .app t2 t3 :: st, 1) | false => none) = _; rw [q4])
      · cases q4 : onOk t2 t3 with
        | false =>
          have e : step 66 (t1 :: t2 :: t3 :: st) = none := by show (match onOk t2 t3 with | true => some (t1, Tm.app t2 t3 :: st, 1) | false => none) = _; rw [q4]
          exact absurd (hok e) (fun h => Bool.noConfusion (show true = false from h))
        | true =>
          have q5 := Nat.le_of_ble_eq_true q4
          exact turn_B B X T hd hu F N hg S (by omega) (Nat.le_trans (Nat.succ_le_succ q5) hlm) hkz fun tk u' h' g' tkk news' kvs' vs' => next _ _ _ tk u' h' g' tkk news' kvs' vs' (by show (match onOk t2 t3 with | true => some (t1, Tm.app t2 t3 :: st, 1) | false => none) = _; rw [q4])
      · exact turn_C B X T hd hu F N hg S (by omega) fun tk u' h' g' tkk news' kvs' vs' => next _ _ _ tk u' h' g' tkk news' kvs' vs' rfl
  · have q83 : Nat.beq c 83 = false := by cases z : Nat.beq c 83 with | false => rfl | true => exact absurd (.inl (Nat.eq_of_beq_eq_true z)) q3
    have q66 : Nat.beq c 66 = false := by cases z : Nat.beq c 66 with | false => rfl | true => exact absurd (.inr (.inl (Nat.eq_of_beq_eq_true z))) q3
    have q67 : Nat.beq c 67 = false := by cases z : Nat.beq c 67 with | false => rfl | true => exact absurd (.inr (.inr (Nat.eq_of_beq_eq_true z))) q3
    rw [q1] at kI
    rw [q2] at kK
    rw [q83, q66, q67] at kS
    exact turn_bO B X T hd hu kI kK kS F N hg S hz (brk (step_other q1 q2 q83 q66 q67 st).1)
theorem le_sum {a b c k j : Nat} (h1 : a ≤ b + j) (h2 : b ≤ c + k) : a ≤ c + (k + j) := by omega
theorem outer_w {w : World} {dp un : Nat} {gd : Option (List Code)} {outer : List Env} {A₀ : Around} {base h₀ : Heap} {L P p dx : Addr} {mean : ExcName → Option Value} {mg mb : Str → Option Value} {news0 : Led} {kvs : List (Str × Value)} {Q : Flow → Shared → Prop} {E : Value → Shared → Prop}
    (B : Below A₀ base outer h₀) (X : (hd.heap_39 w.params).In h₀) (T : Top topProg looseT mean mg mb h₀) (hd : dp + 60 < recursionLimit) (hu : un + 480 < cLine)
    {s : Shared} {u : Str → Option Value} {tk : Tok} {t : Tm} (F : Fr h₀ L s.heap (mP u tk t p P)) (N : News h₀ L s.heap news0) (hg : AllBare s.gens) (S : PS w P p dx news0 kvs [] []) (hwf : wf t) (hkn : known kvs t)
    (r : Nat × List Tm × Nat) (hr : run 400 t [] 0 = some r) (hz : lim + kvs.length + r.2.2 + 10 ≤ sizeLine)
    (done : ∀ tk u h' g' tkk news kvs' vs, Fr h₀ L h' (mP u tk (.leaf r.1) p P) → News h₀ L h' news → AllBare g' → PS w P p dx news kvs' vs r.2.1 → okc r.1 → kvs'.length ≤ kvs.length + r.2.2 → (∀ u, known kvs u → known kvs' u) → Ext (Off P p dx) news0 news →
      Q .next { heap := h', gens := g', drawn := s.drawn, toks := tkk, os := s.os }) :
    wpAny (model PySem.Challenge.rw_xl0011_01.row.prog w) (plA w dp un gd L outer) (exec (plainX w).1.s2 (plEnv w L)) Q E s := by
  rw [(plainL w).2]
  refine wpAny_For (range_w B X T F N fun It h1 tk1 F1 N1 hIt => ?_)
  refine for_rule (OI w P p dx L It h₀ news0 kvs r s) ?_ 400 (.mk F1 N1 hg (S.cons1 N1) hwf hkn (.head _) hr (Nat.le_refl _) (fun _ h => h) Ext.cons)
  intro n s1 hI
  induction hI with
  | @mk t tk u h' g' tkk news kvs' vs st x k F N hg S hwf hkn hm hrun hle hmo hx =>
  cases n with
  | zero => cases hrun
  | succ n =>
    refine wpAny_pyNext_range_item (N _ hm).1 (by omega) fun h2 hit2 hs2 => ?_
    have e2 : ((n + 1 : Nat) : Int) - 1 = (n : Int) := by omega
    rw [e2] at hit2
    obtain ⟨F2, N2⟩ := put_fr F N hm hs2 hit2
    have x2 : Ext [It] news (put news It (rit (x + 1) n)) := Ext.put (List.mem_singleton.mpr rfl)
    have S2 := S.moveI hm (fun e => by injection e with e; exact absurd e (by decide)) (fun e => by cases e) (fun e => by cases e) (fun e => by injection e with e; exact absurd e (by decide)) x2 (News.uniq N2)
    have m2 : (It, rit (x + 1) n) ∈ put news It (rit (x + 1) n) := put_self hm
    have hx2 : Ext (Off P p dx) news0 (put news It (rit (x + 1) n)) := fun b o hb hn => put_other (hx b o hb hn) (hIt _ hb)
    obtain ⟨pos, hpos⟩ : ∃ pos, (plainL w).1.tgt = .Name "turn" pos := ⟨_, rfl⟩
    show wpAny _ _ (assign (plainL w).1.tgt _ _) _ _ _
    rw [hpos]
    refine wpAny_assign_Name (stN F2 N2 fun h3 F3 N3 => ?_)
    have hlen := S2.stk.len
    obtain ⟨hroom, hstep⟩ := run_succ hrun
    refine wpAny_execs_cons (inner_w B X T hd hu (lim := lim) (by omega) t st _ (.mk (mP_fr F3 rfl rfl rfl) N3 hg S2 hwf hkn (by omega) Ext.refl rfl) ?_)
    intro c tk4 u4 h4 g4 tkk4 news4 vs4 st4 F4 N4 hg4 S4 hc4 hl4 hx4 hun
    have m4 := hx4 _ _ m2 (S2.off m2 (fun e => by injection e with e; exact absurd e (by decide)) (fun e => by cases e) (fun e => by cases e))
    rw [hun] at hstep
    have hk := run_mono hrun
    refine turn_all B X T hd hu hc4 F4 N4 hg4 S4 (by omega) (by omega) (by omega) ?_ ?_ ?_
    · exact fun hn => (pick_none hstep hn).1
    · intro t2 st2 j tk5 u5 h5 g5 tkk5 news5 kvs5 vs5 hs5 F5 N5 hg5 S5 wf5 kn5 hx5 mo5 le5
      exact ⟨n, Nat.lt_succ_self _, .mk F5 N5 hg5 S5 wf5 kn5 (hx5 _ _ m4 (S4.off m4 (fun e => by injection e with e; exact absurd e (by decide)) (fun e => by cases e) (fun e => by cases e))) (pick_some hstep hs5) (le_sum le5 hle) (fun u h => mo5 u (hmo u h)) ((hx2.trans hx4).trans hx5)⟩
    · intro hn tk5 u5 h5 g5 tkk5 news5 F5 N5 hg5 S5 hx5
      have h8 := (pick_none hstep hn).2
      exact done tk5 u5 h5 g5 tkk5 news5 kvs' vs4 (by rw [h8]; exact F5) N5 hg5 (by rw [h8]; exact S5) (by rw [h8]; exact hc4) (by rw [h8]; exact hle) hmo ((hx2.trans hx4).trans hx5)
end
section
open PySem PySem.W PyProof.Rows
open PySem.Calls PySem.Spec
set_option maxRecDepth 100000
set_option maxHeartbeats 8000000
theorem len_pile {w : World} {P p dx : Addr} {kvs : List (Str × Value)} {mean : ExcName → Option Value} {mg mb : Str → Option Value} {dp un : Nat} {gd : Option (List Code)} {cn : Str} {cs : Scope} {a : Addr} {ccd : Value} {cl : List (Str × Addr)} {outer : List Env} {A₀ : Around} {base h₀ : Heap} {L : Addr} {m : Str → Option Value}
    {news : Led} {s : Shared} {Q E : Value → Shared → Prop}
    (B : Below A₀ base outer h₀) (F : Fr h₀ L s.heap m) (X : (hd.heap_39 w.params).In h₀) (N : News h₀ L s.heap news) (T : Top topProg looseT mean mg mb h₀) (hk : cs.kind = .function) (hd : dp + 30 < recursionLimit) (hu : un + 240 < cLine) (hg : AllBare s.gens) (S : PS w P p dx news kvs [] [])
    (ret : ∀ news' h' tk' g' t, Fr h₀ L h' m → News h₀ L h' news' → AllBare g' → Ext (Off P p dx) news news' → PS w P p dx news' kvs [] [] → Q (.int 3 t) { heap := h', gens := g', drawn := s.drawn, toks := tk', os := s.os }) :
    wpAny (model PySem.Challenge.rw_xl0011_01.row.prog w) (ktrTop dp un gd cn cs L a ccd cl outer) (call (.builtin "len") [.ref p]) Q E s := by
  obtain ⟨n, hp⟩ := S.pile.obj
  obtain ⟨hv, tk, ti, n2, hdd⟩ := S.pile.dict
  have k1 : findIn (Mine.hd.heap_39 w.params) (.ref 118) "__len__" = some (some (.ref 85)) := by kernel_rfl
  have k2 : isFn (Mine.hd.heap_39 w.params) (.ref 85) = true := by kernel_rfl
  refine len_K F X (pile_inst N hp hdd) k1 k2 ?_
  refine tel_use (len_ps (w := w) (P := P) (p := p) (dx := dx) (kvs := kvs)) B F X N T hk (by dsimp only [ktrTop, Around.in1]; omega) (by dsimp only [ktrTop, Around.in1]; omega) hg S fun r news' h' tk' g' F' N' G' P' => ?_
  obtain ⟨⟨t, rfl⟩, e, S'⟩ := P'
  exact ⟨⟨by decide, by decide⟩, ret news' h' _ g' _ F' N' G' e S'⟩

theorem ne_lists {prog : Program} {w : World} {A : Around} {E : Value → Shared → Prop} {s : Shared} {a b : Value} {d : PyData} {as bs : List Addr} {Q : Value → Shared → Prop} (ra : Reads s.heap a d as) (rb : Reads s.heap b d bs) (ha : PySem.SeqAt.shaped d = true) (hu : A.units + 64 < cLine) (he : PyData.eqv d d = true) (h : Q (.bool false) s) :
    wpAny (model prog w) A (compareOp .NotEq a b) Q E s := ne_dataH ra rb ha ha hu (by rw [he]; exact h)
abbrev prD (t : Tm) : PyData := .tuple [.str " ", .str (txt t)]
theorem pair_ok {t : Tm} (h : wf t) : PyData.canLay0 (prD t) = true := by
  simp only [PyData.canLay0, PyData.canLayAll0, Bool.and_true]
  exact Bool.and_eq_true_iff.mpr ⟨by decide +kernel, cps_txt h⟩
theorem shaped0 : PySem.SeqAt.shaped (.list []) = true := by rfl
theorem shaped1 {t1 : Tm} (h1 : wf t1) : PySem.SeqAt.shaped (.list [prD t1]) = true := by
  unfold PySem.SeqAt.shaped
  refine Bool.and_eq_true_iff.mpr ⟨?_, rfl⟩
  show (PyData.canLay0 (prD t1) && true) = true
  rw [pair_ok h1]; rfl
theorem shaped2 {t1 t2 : Tm} (h1 : wf t1) (h2 : wf t2) : PySem.SeqAt.shaped (.list [prD t2, prD t1]) = true := by
  unfold PySem.SeqAt.shaped
  refine Bool.and_eq_true_iff.mpr ⟨?_, rfl⟩
  show (PyData.canLay0 (prD t2) && (PyData.canLay0 (prD t1) && true)) = true
  rw [pair_ok h1, pair_ok h2]; rfl
theorem shaped3 {t1 t2 t3 : Tm} (h1 : wf t1) (h2 : wf t2) (h3 : wf t3) : PySem.SeqAt.shaped (.list [prD t3, prD t2, prD t1]) = true := by
  unfold PySem.SeqAt.shaped
  refine Bool.and_eq_true_iff.mpr ⟨?_, rfl⟩
  show (PyData.canLay0 (prD t3) && (PyData.canLay0 (prD t2) && (PyData.canLay0 (prD t1) && true))) = true
  rw [pair_ok h1, pair_ok h2, pair_ok h3]; rfl
abbrev lit (l : Addr) (i : Nat) : Obj := { cls := .type "list_iterator", data := .fields #[.ref l, .int i 0] }
theorem rev_lst {prog : Program} {w : World} {A : Around} {E : Value → Shared → Prop} {h₀ h : Heap} {L l : Addr} {m : Str → Option Value} {news : Led} {g : Array GenState} {d : Drawn} {t : Nat} {os : OsState} {value slice : PySem.Expr} {ys : List Value} {tk : Tok} {ops : List Value} {Q : Value → Shared → Prop}
    (F : Fr h₀ L h m) (N : News h₀ L h news) (hm : (l, lst ys) ∈ news) (hz : ys.length ≤ sizeLine)
    (hs : subscripted slice false (.ref l) (.ref h.objs.size) = operate ops (getItem (.ref l) (.ref h.objs.size))) (ht : ∀ r, letTemporaryGo value (.ref l) r = pure ())
    (hq : ∀ D h', Fr h₀ L h' m → News h₀ L h' ((D, lst ys.reverse) :: news) → Q (.ref D) ⟨h', g, d, t, os⟩) :
    wpAny (model prog w) A (subscriptTail value slice (.ref l) (.ref h.objs.size)) Q E ⟨h.push { cls := .type "slice", data := .fields #[.none, .none, .int (-1) tk] }, g, d, t, os⟩ :=
  krv_lit (s := ⟨h, g, d, t, os⟩) (its := ys.toArray) (zs := ys.reverse) F N ⟨_, (N _ hm).1, rfl, _, rfl⟩ (.int _ _) rfl (fun D h' F' N' _ => hq D h' F' N') hs ht (by rw [List.size_toArray]; exact hz)
theorem iter_lst {prog : Program} {w : World} {A : Around} {E : Value → Shared → Prop} {s : Shared} {h₀ : Heap} {L l : Addr} {m : Str → Option Value} {news : Led} {ys : List Value} {Q : Value → Shared → Prop} (F : Fr h₀ L s.heap m) (N : News h₀ L s.heap news) (hm : (l, lst ys) ∈ news)
    (h : ∀ It h', Fr h₀ L h' m → News h₀ L h' ((It, lit l 0) :: news) → (∀ q ∈ news, q.1 ≠ It) → Q (.ref It) { s with heap := h' }) : wpAny (model prog w) A (pyIter (.ref l)) Q E s :=
  wpAny_pyIter_list (items := ys.toArray) ⟨_, (N _ hm).1, rfl, _, rfl⟩ (h _ _ (F.push _) (N.push F _) fun q hq => Nat.ne_of_lt (Heap.lt_size (N q hq).1))
theorem comp_end1 {h₀ : Heap} {L I C D T' : Addr} {m : Str → Option Value} {s₁ : Shared} {oI oC oD oT : Obj} {S : Led → Prop} {rest : Value → Led → Prop} {y : Value} {h' : Heap} {tk : Nat} {news' : Led} {R : Prop}
    (F : Fr h₀ L h' m) (N : News h₀ L h' ((T', oT) :: (I, oI) :: (C, oC) :: (D, oD) :: news')) (off : LCg.Off3 I C D news') (hlt : I < T' ∧ C < T' ∧ D < T' ∧ R) (hS : S ((T', oT) :: news')) (r : rest y ((T', oT) :: news')) : LCg.CompEnd h₀ L m s₁ I oI C oC D oD S rest y { s₁ with heap := h', toks := tk } :=
  LCg.CompEnd.intro F N ((T', oT) :: news') (fun q hq => by
    rcases List.mem_cons.mp hq with rfl | hq
    · exact .tail _ (.head _)
    rcases List.mem_cons.mp hq with rfl | hq
    · exact .tail _ (.tail _ (.head _))
    rcases List.mem_cons.mp hq with rfl | hq
    · exact .tail _ (.tail _ (.tail _ (.head _)))
    rcases List.mem_cons.mp hq with rfl | hq
    · exact .head _
    · exact .tail _ (.tail _ (.tail _ (.tail _ hq)))) ⟨⟨Nat.ne_of_gt hlt.1, Nat.ne_of_gt hlt.2.1, Nat.ne_of_gt hlt.2.2.1⟩, off⟩ hS r
theorem PS.cons4 {w : World} {P p dx L : Addr} {h₀ h : Heap} {news : Led} {kvs : List (Str × Value)} {vs : List Value} {st : List Tm} {a b c d : Addr × Obj} (S : PS w P p dx news kvs vs st) (N : News h₀ L h (a :: b :: c :: d :: news)) : PS w P p dx (a :: b :: c :: d :: news) kvs vs st := S.move0 (Ext.trans Ext.cons (Ext.trans Ext.cons (Ext.trans Ext.cons Ext.cons))) (News.uniq N)
def PlTel (w : World) (lvl d : Nat) : Prop :=
  ∀ (P : Addr) (kvs : List (Str × Value)) (t rt : Tm) (K : Nat) (tk : Tok), norm d t = some (rt, K) → wf t → known kvs t → lim + kvs.length + K + 10 ≤ sizeLine → Tel w 195 [.str (txt t) tk, .ref P] lvl (fun news => PState RW w news P kvs ∧ Tab news)
    (fun news news' r => (∃ tk', r = .str (txt rt) tk') ∧ Ext [P, 80] news news' ∧ Tab news' ∧ ∃ kvs', PState RW w news' P kvs' ∧ known kvs' rt ∧ (∀ u, known kvs u → known kvs' u) ∧ kvs'.length ≤ kvs.length + K ∧ wf rt)
section
variable {w : World} {P p dx : Addr} {news news' : Led} {kvs kvs' : List (Str × Value)} {vs : List Value} {st : List Tm}
theorem off_P80 : ∀ b ∈ [P, (80 : Addr)], b ∈ Off P p dx := fun b hb => by
  rcases List.mem_cons.mp hb with rfl | hb
  · exact .head _
  · rw [List.mem_singleton.mp hb]; exact .tail _ (.head _)
theorem PS.moveP80 (S : PS w P p dx news kvs vs st) (e : Ext [P, 80] news news') (u : Uniq news') (S' : PState RW w news' P kvs') (t : Tab news') (hk : ∀ u, known kvs u → known kvs' u) : PS w P p dx news' kvs' vs st where
  ps := S'
  pile := S.pile.ext e (fun h => by
      rcases List.mem_cons.mp h with h | h
      · exact S.pP h
      · exact S.p80 (List.mem_singleton.mp h)) (fun h => by
      rcases List.mem_cons.mp h with h | h
      · exact S.dP h
      · exact S.d80 (List.mem_singleton.mp h))
  stk := cells_ext e (fun a ys h hx => S.tup_off h (off_P80 _ hx)) hk S.stk
  tab := t
  uni := u
  pP := S.pP
  dP := S.dP
theorem plain_ps {lvl d : Nat} (C : PlTel w lvl d) {t rt : Tm} {K : Nat} (tk : Tok) (hn : norm d t = some (rt, K)) (hwf : wf t) (hkn : known kvs t) (hz : lim + kvs.length + K + 10 ≤ sizeLine) : Tel w 195 [.str (txt t) tk, .ref P] lvl (fun news => PS w P p dx news kvs vs st)
    (fun news news' r => GotT w P p dx kvs vs st rt K news news' r) :=
  tel_mono (C P kvs t rt K tk hn hwf hkn hz) (fun _ _ S => ⟨S.ps, S.tab⟩) fun news news' r u u' S h => by
    obtain ⟨⟨tk, rfl⟩, p2, p3, kvs', p4, p5, p6, p7, p8⟩ := h
    exact .mk (p2.weaken off_P80) (S.moveP80 p2 u' p4 p3 p6) p5 p6 p7 p8
theorem from00_ps : Tel w 70 [.ref p] 10 (fun news => PS w P p dx news kvs [] []) (fun news news' r => Got0 w P p dx kvs [] [] news news' r) :=
  tel_mono (from0_ps (Nat.zero_le _)) (fun _ _ S => S) fun news news' r u u' S h => by
    obtain ⟨h1, h2, _, l, rfl, h5⟩ := h
    exact .mk h1 h2 h5
theorem from01_ps {v1 : Value} {t1 : Tm} : Tel w 70 [.ref p] 10 (fun news => PS w P p dx news kvs [v1] [t1]) (fun news news' r => Got1 w P p dx kvs [] [] t1 news news' r) :=
  tel_mono (from0_ps (Nat.le_of_ble_eq_true rfl)) (fun _ _ S => S) fun news news' r u u' S h => by
    obtain ⟨h1, h2, h3, l, rfl, h5⟩ := h
    cases h3 with
    | cons c1 r1 =>
      obtain ⟨a1, x1, y1, rfl, m1, f1, k1⟩ := c1
      exact .mk h1 h2 h5 m1 f1 k1
theorem from02_ps {v1 v2 : Value} {t1 t2 : Tm} : Tel w 70 [.ref p] 10 (fun news => PS w P p dx news kvs [v1, v2] [t1, t2]) (fun news news' r => Got2 w P p dx kvs [] [] t1 t2 news news' r) :=
  tel_mono (from0_ps (Nat.le_of_ble_eq_true rfl)) (fun _ _ S => S) fun news news' r u u' S h => by
    obtain ⟨h1, h2, h3, l, rfl, h5⟩ := h
    rcases h3 with _ | ⟨c1, _ | ⟨c2, _⟩⟩
    obtain ⟨a1, x1, y1, rfl, m1, f1, k1⟩ := c1
    obtain ⟨a2, x2, y2, rfl, m2, f2, k2⟩ := c2
    exact .mk h1 h2 h5 m1 f1 k1 m2 f2 k2
theorem from03_ps {v1 v2 v3 : Value} {t1 t2 t3 : Tm} : Tel w 70 [.ref p] 10 (fun news => PS w P p dx news kvs [v1, v2, v3] [t1, t2, t3]) (fun news news' r => Got3 w P p dx kvs [] [] t1 t2 t3 news news' r) :=
  tel_mono (from0_ps (Nat.le_of_ble_eq_true rfl)) (fun _ _ S => S) fun news news' r u u' S h => by
    obtain ⟨h1, h2, h3, l, rfl, h5⟩ := h
    rcases h3 with _ | ⟨c1, _ | ⟨c2, _ | ⟨c3, _⟩⟩⟩
    obtain ⟨a1, x1, y1, rfl, m1, f1, k1⟩ := c1
    obtain ⟨a2, x2, y2, rfl, m2, f2, k2⟩ := c2
    obtain ⟨a3, x3, y3, rfl, m3, f3, k3⟩ := c3
    exact .mk h1 h2 h5 m1 f1 k1 m2 f2 k2 m3 f3 k3
end
end
section
open PySem PySem.W PyProof.Rows
open PySem.Calls PySem.Spec
set_option maxRecDepth 100000
set_option maxHeartbeats 8000000
structure ForOne where
  tgt : Expr
  itr : Expr
  b1 : Stmt
  pos : Pos
noncomputable def plainM (w : World) : (x : ForOne) ×' ((plainX w).1.s5 = .For x.tgt x.itr [x.b1] [] x.pos) := ⟨⟨_, _, _, _⟩, by with_unfolding_all rfl⟩

theorem body_w {w : World} {dp un : Nat} {gd : Option (List Code)} {outer : List Env} {A₀ : Around} {base h₀ : Heap} {L P p dx : Addr} {mean : ExcName → Option Value} {mg mb : Str → Option Value} {news : Led} {kvs : List (Str × Value)} {Q : Flow → Shared → Prop} {E : Value → Shared → Prop} {lvl d : Nat} (C : PlTel w lvl d)
    (B : Below A₀ base outer h₀) (X : (hd.heap_39 w.params).In h₀) (T : Top topProg looseT mean mg mb h₀) (hd : dp + 60 < recursionLimit) (hu : un + 480 < cLine) (hd2 : dp + lvl < recursionLimit) (hu2 : un + 8 * lvl < cLine)
    {s : Shared} {u : Str → Option Value} {tk x1 y1 : Tok} {a : Addr} {acc t1 r1 : Tm} {k1 : Nat} (F : Fr h₀ L s.heap (fun y => if y = "piece" then some (.ref a) else mP u tk acc p P y)) (N : News h₀ L s.heap news) (hg : AllBare s.gens) (S : PS w P p dx news kvs [] [])
    (ma : (a, tup [.str " " x1, .str (txt t1) y1]) ∈ news) (wft : wf t1) (knt : known kvs t1) (wfa : wf acc) (kna : known kvs acc) (hn : norm d t1 = some (r1, k1)) (ho : acc.size + r1.size + 1 ≤ sizeLine) (hz : lim + kvs.length + k1 + 10 ≤ sizeLine)
    (next : ∀ tk u' h' g' tkk news' kvs', Fr h₀ L h' (mP u' tk (.app acc r1) p P) → News h₀ L h' news' → AllBare g' → PS w P p dx news' kvs' [] [] → wf (.app acc r1) → known kvs' (.app acc r1) → Ext (Off P p dx) news news' → (∀ u, known kvs u → known kvs' u) → kvs'.length ≤ kvs.length + k1 + 1 → Q .next { heap := h', gens := g', drawn := s.drawn, toks := tkk, os := s.os }) :
    wpAny (model PySem.Challenge.rw_xl0011_01.row.prog w) (plA w dp un gd L outer) (execs [(plainM w).1.b1] (plEnv w L)) Q E s := by
  unfold plainM plA plEnv plainF
  dsimp only
  revert X
  k_fill
  w_top off
  intro X
  try (refine fold_ctx ?_; intro M9 A9 e9)
  repeat' (first
    | (k_unfold; (try dsimp only))
    | ((with_reducible show wpAny _ _ (call (Value.ref _) _) _ _ _); (k_here; (with_reducible refine fold_q ?_); intro Q9 hQ9; k_dflt (refine' tel_use (plain_ps ?kC _ ?kz1 ?kz2 ?kz3 ?kz4) ?k1 ?k2 ?k3 ?k4 ?k5 ?k6 ?k7 ?k8 ?k9 ?k10 ?_; (case k1 | k2 => k_asm); (case k3 | k4 | k5 => k_asm); (case k6 => first | exact rfl | assumption); (case k7 => ktr_room); (case k8 => ktr_units); (case k9 => assumption); (case k10 => first | assumption | exact PS.cons1 (by assumption) (by k_asm) | exact PS.cons2 (by assumption) (by k_asm) | exact PS.cons3 (by assumption) (by k_asm) | exact PS.cons4 (by assumption) (by k_asm)); (case kC | kz1 | kz2 => assumption); (case kz3 => first | assumption | solve_by_elim); (case kz4 => omega)); intro r9 n9 h9 t9 g9 F9 N9 G9 P9; obtain ⟨x9, S9, kn9, mo9, le9, wf9⟩ := P9; (try (have ml8 := PS.keep_lcg (by assumption) (by assumption) x9)); (try (have ml9 := PS.keep_cls (PS.cons1 (by assumption) (by assumption)) (List.Mem.head _) rfl x9)); (try (replace x9 := Ext.uncons x9)); (try (replace x9 := Ext.uncons x9)); (try (replace x9 := Ext.uncons x9)); (try (have ml7 := PS.keep_lst (by assumption) (by assumption) x9))); (with_reducible refine hQ9 _ _ ?_); clear hQ9 Q9; (try k_fold))
    | ((with_reducible show wpAny _ _ (call (Value.ref _) _) _ _ _); (k_here; (with_reducible refine fold_q ?_); intro Q9 hQ9; k_dflt (refine' tel_use (on_ps _ _ _ _ _ _ ?ke1 ?ke2 ?kz1 ?kz2 ?kz3 ?kz4 ?kz5 ?kz6) ?k1 ?k2 ?k3 ?k4 ?k5 ?k6 ?k7 ?k8 ?k9 ?k10 ?_; (case k1 | k2 => k_asm); (case k3 | k4 | k5 => k_asm); (case k6 => first | exact rfl | assumption); (case k7 => ktr_room); (case k8 => ktr_units); (case k9 => assumption); (case k10 => first | assumption | exact PS.cons1 (by assumption) (by k_asm) | exact PS.cons2 (by assumption) (by k_asm) | exact PS.cons3 (by assumption) (by k_asm) | exact PS.cons4 (by assumption) (by k_asm)); (case ke1 | ke2 => exact rfl); (case kz1 | kz2 => assumption); (case kz3 | kz4 => first | assumption | solve_by_elim); (case kz5 | kz6 => omega)); intro r9 n9 h9 t9 g9 F9 N9 G9 P9; obtain ⟨x9, S9, kn9, mo9, le9, wf9⟩ := P9; (try (have ml8 := PS.keep_lcg (by assumption) (by assumption) x9)); (try (have ml9 := PS.keep_cls (PS.cons1 (by assumption) (by assumption)) (List.Mem.head _) rfl x9)); (try (replace x9 := Ext.uncons x9)); (try (replace x9 := Ext.uncons x9)); (try (replace x9 := Ext.uncons x9))); (with_reducible refine hQ9 _ _ ?_); clear hQ9 Q9; (try k_fold))
    | ((with_reducible show wpAny _ _ (execs (_ :: _) _) _ _ _); (k_here; (with_reducible refine wpAny_execs_cons ?_); (try dsimp only); (try k_fold); (try (refine fold_fn (by k_asm) (by k_asm) ?_; intro led9 fm9 F9 N9))); (try k_fold))
    | (walk1; (try k_fold)) | (dsimp only; walk1; (try k_fold)) | (leave1; (try dsimp only)) | fail "no step")
  all_goals (try k_data)
  exact next _ _ _ _ _ _ _ (mP_fr (by assumption) rfl rfl rfl) (by assumption) (by assumption) (by assumption) (by assumption) (by first | assumption | solve_by_elim) (by (with_reducible first | assumption | (refine Ext.trans (by assumption) ?_; first | assumption | (refine Ext.trans (by assumption) ?_; first | assumption | (refine Ext.trans (by assumption) ?_; assumption))))) (fun _ h => by solve_by_elim) (by omega)
end
section
open PySem PySem.W PyProof.Rows
open PySem.Calls PySem.Spec
set_option maxRecDepth 100000
set_option maxHeartbeats 8000000
theorem normArgs_mono {g : Tm → Option (Tm × Nat)} : ∀ {as : List Tm} {t : Tm} {k : Nat} {r : Tm × Nat}, normArgs g as t k = some r → k ≤ r.2
  | [], t, k, r, h => by
    have := Option.some.inj h
    subst this
    exact Nat.le_refl _
  | a :: as, t, k, r, h => by
    unfold normArgs at h
    cases hg : g a with
    | none => rw [hg] at h; cases h
    | some x =>
      obtain ⟨r1, j⟩ := x
      rw [hg] at h
      dsimp only at h
      cases ho : onOk t r1 with
      | false => rw [ho] at h; cases h
      | true =>
        rw [ho] at h
        have := normArgs_mono h
        have e : Nat.succ (Nat.add k j) = k + j + 1 := rfl
        omega
theorem normArgs_cons {g : Tm → Option (Tm × Nat)} {a : Tm} {as : List Tm} {t : Tm} {k : Nat} {r : Tm × Nat} (h : normArgs g (a :: as) t k = some r) :
    ∃ r1 j, g a = some (r1, j) ∧ t.size + r1.size ≤ lim ∧ normArgs g as (.app t r1) (k + j + 1) = some r := by
  unfold normArgs at h
  cases hg : g a with
  | none => rw [hg] at h; cases h
  | some x =>
    obtain ⟨r1, j⟩ := x
    rw [hg] at h
    dsimp only at h
    cases ho : onOk t r1 with
    | false => rw [ho] at h; cases h
    | true =>
      rw [ho] at h
      exact ⟨r1, j, rfl, Nat.le_of_ble_eq_true ho, h⟩
inductive LI (w : World) (P p dx L It l2 : Addr) (h₀ : Heap) (d : Nat) (news0 : Led) (kvs : List (Str × Value)) (rt : Tm) (K : Nat) (s0 : Shared) : Nat → Shared → Prop where
  | mk {acc : Tm} {tk : Tok} {u : Str → Option Value} {h' : Heap} {g' : Array GenState} {tkk : Nat} {news : Led} {kvs' : List (Str × Value)} {dn rf : List Value} {as : List Tm} {kk : Nat} {oI : Obj} (F : Fr h₀ L h' (mP u tk acc p P)) (N : News h₀ L h' news) (hg : AllBare g') (S : PS w P p dx news kvs' [] []) (wfa : wf acc) (kna : known kvs' acc)
    (hl : (l2, lst (dn ++ rf)) ∈ news) (hi : (It, oI) ∈ news) (hic : oI.cls = .type "list_iterator") (hid : oI.data = .fields #[.ref l2, .int dn.length 0]) (hc : All2 (Cell news kvs') rf as) (hn : normArgs (norm d) as acc kk = some (rt, K)) (hle : kvs'.length ≤ kvs.length + kk) (hmo : ∀ u, known kvs u → known kvs' u) (hx : Ext (Off P p dx) news0 news) :
    LI w P p dx L It l2 h₀ d news0 kvs rt K s0 as.length { heap := h', gens := g', drawn := s0.drawn, toks := tkk, os := s0.os }
theorem loop_w {w : World} {dp un : Nat} {gd : Option (List Code)} {outer : List Env} {A₀ : Around} {base h₀ : Heap} {L P p dx It l2 : Addr} {mean : ExcName → Option Value} {mg mb : Str → Option Value} {news0 news : Led} {kvs : List (Str × Value)} {R : Result → Shared → Prop} {lvl d : Nat} (C : PlTel w lvl d)
    (B : Below A₀ base outer h₀) (X : (hd.heap_39 w.params).In h₀) (T : Top topProg looseT mean mg mb h₀) (hd : dp + 60 < recursionLimit) (hu : un + 480 < cLine) (hd2 : dp + lvl < recursionLimit) (hu2 : un + 8 * lvl < cLine)
    {s : Shared} {u : Str → Option Value} {tk : Tok} {acc rt : Tm} {K : Nat} {rf : List Value} {as : List Tm} (F : Fr h₀ L s.heap (mP u tk acc p P)) (N : News h₀ L s.heap news) (hg : AllBare s.gens) (S : PS w P p dx news kvs [] []) (wfa : wf acc) (kna : known kvs acc)
    (hl : (l2, lst rf) ∈ news) (hi : (It, lit l2 0) ∈ news) (hIt : ∀ q ∈ news0, q.1 ≠ It) (hx : Ext (Off P p dx) news0 news) (hc : All2 (Cell news kvs) rf as) (hn : normArgs (norm d) as acc 0 = some (rt, K)) (hz : lim + kvs.length + K + 10 ≤ sizeLine)
    (done : ∀ tk u h' g' tkk news' kvs', Fr h₀ L h' (mP u tk rt p P) → News h₀ L h' news' → AllBare g' → PS w P p dx news' kvs' [] [] → wf rt → known kvs' rt → Ext (Off P p dx) news0 news' → (∀ u, known kvs u → known kvs' u) → kvs'.length ≤ kvs.length + K → R (.ok .next) { heap := h', gens := g', drawn := s.drawn, toks := tkk, os := s.os }) :
    codeAny (model PySem.Challenge.rw_xl0011_01.row.prog w) (plA w dp un gd L outer) (.forLoop (plainM w).1.tgt (.ref It) [(plainM w).1.b1] [] (plEnv w L)) R s := by
  obtain ⟨pos, hpos⟩ : ∃ pos, (plainM w).1.tgt = .Name "piece" pos := ⟨_, rfl⟩
  rw [hpos]
  refine for_rule (LI w P p dx L It l2 h₀ d news0 kvs rt K s) ?_ as.length (.mk (dn := []) F N hg S wfa kna hl hi rfl rfl hc hn (Nat.le_refl _) (fun _ h => h) hx)
  intro n s1 hI
  induction hI with
  | @mk acc tk u h' g' tkk news kvs' dn rf as kk oI F N hg S wfa kna hl hi hic hid hc hn hle hmo hx =>
  have hlist : (Heap.IsList h' l2 (dn ++ rf).toArray) := ⟨_, (N _ hl).1, rfl, _, rfl⟩
  have hiter : Heap.IsListIter h' It l2 dn.length := ⟨_, (N _ hi).1, hic, hid⟩
  have hoffI := S.off hi (fun e => by rw [hic] at e; injection e with e; exact absurd e (by decide)) (fun e => by rw [hic] at e; cases e) (fun e => by rw [hic] at e; cases e)
  cases hc with
  | nil =>
    have e := Option.some.inj hn
    injection e with e1 e2
    subst e1 e2
    refine wpAny_pyNext_list_end rfl hiter hlist (by simp) fun h2 hx2 => ?_
    refine wpAny_execs_nil ?_
    have F2 : Fr h₀ L h2 (mP u tk acc p P) := ⟨F.ns.extBut hx2 (Ne.symm (N _ hi).2.1), fun b o e => hx2 b o (fun q => by rw [q, (N _ hi).2.2] at e; cases e) (F.keep b o e), F.above⟩
    have N2 : News h₀ L h2 (news.filter fun q => q.1 != It) := fun q hq => by
      obtain ⟨hq1, hq2⟩ := List.mem_filter.mp hq
      exact ⟨hx2 _ _ (by simpa using hq2) (N q hq1).1, (N q hq1).2⟩
    have x2 : Ext [It] news (news.filter fun q => q.1 != It) := fun b o hb hn => List.mem_filter.mpr ⟨hb, by simpa using hn⟩
    have S2 := S.moveI hi (fun e => by rw [hic] at e; injection e with e; exact absurd e (by decide)) (fun e => by rw [hic] at e; cases e) (fun e => by rw [hic] at e; cases e) (fun e => by rw [hic] at e; injection e with e; exact absurd e (by decide)) x2 (News.uniq N2)
    refine done _ _ _ _ _ _ kvs' F2 N2 hg S2 wfa kna (fun b o hb hn => x2 b o (hx b o hb hn) (fun q => hIt _ hb (List.mem_singleton.mp q))) hmo ?_
    exact hle
  | cons c r =>
    rename_i v t1 rf as
    obtain ⟨a, x1, y1, rfl, ma, wft, knt⟩ := c
    obtain ⟨r1, k1, hn1, ho1, hn2⟩ := normArgs_cons hn
    refine wpAny_pyNext_list_item hiter hlist (x := .ref a) (by simp) fun h2 hit2 hs2 => ?_
    obtain ⟨o2, ho2, hc2, hd2'⟩ := hit2
    obtain ⟨F2, N2⟩ := put_fr F N hi hs2 ho2
    have x2 : Ext [It] news (put news It o2) := Ext.put (List.mem_singleton.mpr rfl)
    have S2 := S.moveI hi (fun e => by rw [hic] at e; injection e with e; exact absurd e (by decide)) (fun e => by rw [hic] at e; cases e) (fun e => by rw [hic] at e; cases e) (fun e => by rw [hic] at e; injection e with e; exact absurd e (by decide)) x2 (News.uniq N2)
    have htI : ∀ a ys, (a, tup ys) ∈ news → a ∉ [It] := fun a ys ha hh => by
      rw [List.mem_singleton.mp hh] at ha
      have := S.uni _ _ _ hi ha
      rw [this] at hic; injection hic with e; exact absurd e (by decide)
    have hlI : l2 ∉ [It] := fun hh => by
      have e := List.mem_singleton.mp hh
      rw [e] at hl
      have := S.uni _ _ _ hi hl
      rw [this] at hic; injection hic with e; exact absurd e (by decide)
    have hx2 : Ext (Off P p dx) news0 (put news It o2) := fun b o hb hn => x2 b o (hx b o hb hn) (fun q => hIt _ hb (List.mem_singleton.mp q))
    refine wpAny_assign_Name (stN F2 N2 fun h3 F3 N3 => ?_)
    have hk := normArgs_mono hn2
    dsimp only at hk
    refine body_w C B X T hd hu hd2 hu2 F3 N3 hg S2 (x2 _ _ ma (htI _ _ ma)) wft knt wfa kna hn1 (by omega) (by omega) ?_
    intro tk5 u5 h5 g5 tkk5 news5 kvs5 F5 N5 hg5 S5 wf5 kn5 hx5 mo5 le5
    have hoff2 := S2.off (put_self hi) (fun e => by rw [hc2] at e; injection e with e; exact absurd e (by decide)) (fun e => by rw [hc2] at e; cases e) (fun e => by rw [hc2] at e; cases e)
    have hl2 := x2 _ _ hl hlI
    refine ⟨as.length, Nat.lt_succ_self _, .mk (dn := dn ++ [.ref a]) (rf := rf) F5 N5 hg5 S5 wf5 kn5 ?_ (hx5 _ _ (put_self hi) hoff2) hc2 ?_ ?_ hn2 (by omega) (fun u h => mo5 u (hmo u h)) (hx2.trans hx5)⟩
    · rw [List.append_assoc]; exact S2.keep_lst hl2 hx5
    · rw [hd2', List.length_append, List.length_singleton]
    · exact cells_ext hx5 (fun a ys h => S2.tup_off h) mo5 (cells_ext x2 htI (fun _ h => h) r)
end
section
open PySem PySem.W PyProof.Rows
open PySem.Calls PySem.Spec
set_option maxRecDepth 100000
set_option maxHeartbeats 8000000
theorem tail_0 {w : World} {dp un : Nat} {gd : Option (List Code)} {outer : List Env} {A₀ : Around} {base h₀ : Heap} {L P p dx : Addr} {mean : ExcName → Option Value} {mg mb : Str → Option Value} {news : Led} {kvs : List (Str × Value)} {Q : Flow → Shared → Prop} {E : Value → Shared → Prop} {lvl d : Nat} (C : PlTel w lvl d)
    (B : Below A₀ base outer h₀) (X : (hd.heap_39 w.params).In h₀) (T : Top topProg looseT mean mg mb h₀) (hd : dp + 60 < recursionLimit) (hu : un + 480 < cLine) (hd2 : dp + lvl < recursionLimit) (hu2 : un + 8 * lvl < cLine)
    {s : Shared} {u : Str → Option Value} {tk : Tok} {c : Nat} {rt : Tm} {K : Nat} (F : Fr h₀ L s.heap (mP u tk (.leaf c) p P)) (N : News h₀ L s.heap news) (hg : AllBare s.gens) (S : PS w P p dx news kvs [] []) (hc : okc c) (hn : normArgs (norm d) [] (.leaf c) 0 = some (rt, K)) (hz : lim + kvs.length + K + 10 ≤ sizeLine)
    (ret : ∀ tk' h' g' tkk news' kvs' m', Fr h₀ L h' m' → News h₀ L h' news' → AllBare g' → PS w P p dx news' kvs' [] [] → wf rt → known kvs' rt → Ext (Off P p dx) news news' → (∀ u, known kvs u → known kvs' u) → kvs'.length ≤ kvs.length + K → Q (.ret (.str (txt rt) tk')) { heap := h', gens := g', drawn := s.drawn, toks := tkk, os := s.os }) :
    wpAny (model PySem.Challenge.rw_xl0011_01.row.prog w) (plA w dp un gd L outer) (execs [(plainX w).1.s3, (plainX w).1.s4, (plainX w).1.s5, (plainX w).1.s6] (plEnv w L)) Q E s := by
  unfold plainX plA plEnv plainF
  dsimp only
  revert X
  k_fill
  w_top off
  intro X
  repeat' (first
    | (k_unfold; (try dsimp only))
    | ((with_reducible first | show wpAny _ _ (exec _ _) _ _ _ | show wpAny _ _ (isTrue _ _ _) _ _ _); (fail_if_success (with_reducible show wpAny _ _ _ Q8 _ _)); (with_reducible refine fold_q ?_); intro Q8 hQ8)
    | ((with_reducible refine hQ8 _ _ ?_); clear hQ8; (try dsimp only))
    | ((with_reducible show wpAny _ _ (compareOp CmpOp.NotEq (Value.ref _) (Value.ref _)) _ _ _); (k_here; (with_reducible show wpAny _ _ (compareOp CmpOp.NotEq (Value.ref _) (Value.ref _)) _ _ _); k_dflt (refine' ne_lists ?k1 ?k2 ?k3 ?k4 ?k5 ?_; (case k1 | k2 => ked_read); (case k3 => first | exact shaped0 | exact shaped1 (by assumption) | exact shaped2 (by assumption) (by assumption) | exact shaped3 (by assumption) (by assumption) (by assumption)); (case k4 => ktr_units); (case k5 => simp [PyData.eqv, PyData.eqvAll]); k_whole)))
    | ((with_reducible show wpAny _ _ (pyIter (Value.ref _)) _ _ _); (k_here; k_dflt (refine' iter_lst ?k1 ?k2 ?k3 ?_; (case k1 | k2 => k_asm); (case k3 => exact List.Mem.head _); k_whole); intro I9 h' F' N' i9))
    | ((with_reducible show wpAny _ _ (exec (Stmt.For _ _ _ _ _) _) _ _ _); (k_here; k_dflt (refine wpAny_For ?_)))
    | ((with_reducible show wpAny _ _ (call (Value.builtin "len") _) _ _ _); (k_here; k_dflt (refine' len_pile ?k1 ?k2 ?k3 ?k4 ?k5 ?k6 ?k7 ?k8 ?k9 ?k10 ?_; (case k1 | k2 => k_asm); (case k3 | k4 | k5 => k_asm); (case k6 => first | exact rfl | assumption); (case k7 => ktr_room); (case k8 => ktr_units); (case k9 => assumption); (case k10 => first | assumption | exact PS.cons1 (by assumption) (by k_asm) | exact PS.cons2 (by assumption) (by k_asm) | exact PS.cons3 (by assumption) (by k_asm) | exact PS.cons4 (by assumption) (by k_asm))); intro n9 h9 t9 g9 tk9 F9 N9 G9 x9 S9; (try (have ml8 := PS.keep_lcg (by assumption) (by assumption) x9)); (try (have ml9 := PS.keep_cls (PS.cons1 (by assumption) (by assumption)) (List.Mem.head _) rfl x9)); (try (replace x9 := Ext.uncons x9)); (try (replace x9 := Ext.uncons x9)); (try (replace x9 := Ext.uncons x9)); (try (replace x9 := Ext.uncons x9)); (try (have ml7 := PS.keep_lst (by assumption) (by assumption) x9))))
    | ((with_reducible show wpAny _ _ (call (Value.ref _) _) _ _ _); (k_here; (with_reducible refine fold_q ?_); intro Q9 hQ9; k_dflt (refine' tel_use (from00_ps) ?k1 ?k2 ?k3 ?k4 ?k5 ?k6 ?k7 ?k8 ?k9 ?k10 ?_; (case k1 | k2 => k_asm); (case k3 | k4 | k5 => k_asm); (case k6 => first | exact rfl | assumption); (case k7 => ktr_room); (case k8 => ktr_units); (case k9 => assumption); (case k10 => first | assumption | exact PS.cons1 (by assumption) (by k_asm) | exact PS.cons2 (by assumption) (by k_asm) | exact PS.cons3 (by assumption) (by k_asm) | exact PS.cons4 (by assumption) (by k_asm))); intro r9 n9 h9 t9 g9 F9 N9 G9 P9; obtain ⟨x9, S9, m9⟩ := P9; (try (have ml8 := PS.keep_lcg (by assumption) (by assumption) x9)); (try (have ml9 := PS.keep_cls (PS.cons1 (by assumption) (by assumption)) (List.Mem.head _) rfl x9)); (try (replace x9 := Ext.uncons x9)); (try (replace x9 := Ext.uncons x9)); (try (replace x9 := Ext.uncons x9)); (try (replace x9 := Ext.uncons x9)); (try (have ml7 := PS.keep_lst (by assumption) (by assumption) x9)); (with_reducible refine hQ9 _ _ ?_); clear hQ9 Q9))
    | ((with_reducible show wpAny _ _ (getMethod (Value.ref _) _ _) _ _ _); (k_here; k_dflt (refine' method_ps ?k1 ?k2 ?k3 ?k4 ?k5 ?k6 ?k7 ?_; (case k2 | k3 | k4 => k_asm); (case k1 => first | assumption | exact PS.cons1 (by assumption) (by k_asm) | exact PS.cons2 (by assumption) (by k_asm) | exact PS.cons3 (by assumption) (by k_asm) | exact PS.cons4 (by assumption) (by k_asm)); (case k5 | k6 => k_is); (case k7 => (intros; kernel_rfl)); k_whole)))
    | ((with_reducible show wpAny _ _ (subscriptTail _ _ _ _) _ _ _); (k_here; (with_reducible show wpAny _ _ (subscriptTail _ (PySem.Expr.Slice _ _ _ _) (Value.ref _) (Value.ref _)) _ _ _); k_dflt (refine' rev_lst ?k1 ?k2 ?k3 ?k4 ?k5 ?k6 ?_; (case k1 | k2 => k_asm); (case k3 => k_mem); (case k4 => exact Nat.le_of_ble_eq_true rfl); (case k5 => with_unfolding_all rfl); (case k6 => (intro _; with_unfolding_all rfl)); k_whole); intro D9 h' F' N'; (try simp only [List.reverse_cons, List.reverse_nil, List.nil_append, List.cons_append] at N')))
    | (walk1) | (dsimp only; walk1) | (leave1; (try dsimp only)) | fail "no step")
  all_goals (try k_data)
  rename News _ _ _ _ => N9
  rename AllBare _ => G9
  rename Fr _ _ _ _ => F9
  rename ∀ q : Addr × Obj, q ∈ _ → q.1 ≠ _ => i9
  rename PS w P p dx _ kvs [] [] => S9
  refine loop_w C B X T hd hu hd2 hu2 (mP_fr F9 rfl rfl rfl) N9 G9 (PS.cons2 S9 N9) hc trivial (.tail _ (.head _)) (.head _) (fun q hq => i9 q (.tail _ hq)) (Ext.trans Ext.cons Ext.cons) .nil hn hz ?_
  intro tk5 u5 h5 g5 tkk5 news5 kvs5 F5 N5 hg5 S5 wf5 kn5 hx5 mo5 le5
  clear F9 N9 G9 i9
  dsimp only
  repeat' (first
    | (k_unfold; (try dsimp only))
    | ((with_reducible first | show wpAny _ _ (exec _ _) _ _ _ | show wpAny _ _ (isTrue _ _ _) _ _ _); (fail_if_success (with_reducible show wpAny _ _ _ Q8 _ _)); (with_reducible refine fold_q ?_); intro Q8 hQ8)
    | ((with_reducible refine hQ8 _ _ ?_); clear hQ8; (try dsimp only))
    | (walk1) | (dsimp only; walk1) | (leave1; (try dsimp only)) | fail "no step")
  exact ret _ _ _ _ _ _ _ F5 N5 hg5 S5 wf5 kn5 (by (with_reducible first | assumption | (refine Ext.trans (by assumption) ?_; first | assumption | (refine Ext.trans (by assumption) ?_; first | assumption | (refine Ext.trans (by assumption) ?_; assumption))))) mo5 le5
theorem tail_1 {w : World} {dp un : Nat} {gd : Option (List Code)} {outer : List Env} {A₀ : Around} {base h₀ : Heap} {L P p dx : Addr} {mean : ExcName → Option Value} {mg mb : Str → Option Value} {news : Led} {kvs : List (Str × Value)} {Q : Flow → Shared → Prop} {E : Value → Shared → Prop} {lvl d : Nat} (C : PlTel w lvl d)
    (B : Below A₀ base outer h₀) (X : (hd.heap_39 w.params).In h₀) (T : Top topProg looseT mean mg mb h₀) (hd : dp + 60 < recursionLimit) (hu : un + 480 < cLine) (hd2 : dp + lvl < recursionLimit) (hu2 : un + 8 * lvl < cLine)
    {s : Shared} {u : Str → Option Value} {tk : Tok} {c : Nat} {rt : Tm} {K : Nat} {v1 : Value} {t1 : Tm} (F : Fr h₀ L s.heap (mP u tk (.leaf c) p P)) (N : News h₀ L s.heap news) (hg : AllBare s.gens) (S : PS w P p dx news kvs [v1] [t1]) (hc : okc c) (hn : normArgs (norm d) [t1] (.leaf c) 0 = some (rt, K)) (hz : lim + kvs.length + K + 10 ≤ sizeLine)
    (ret : ∀ tk' h' g' tkk news' kvs' m', Fr h₀ L h' m' → News h₀ L h' news' → AllBare g' → PS w P p dx news' kvs' [] [] → wf rt → known kvs' rt → Ext (Off P p dx) news news' → (∀ u, known kvs u → known kvs' u) → kvs'.length ≤ kvs.length + K → Q (.ret (.str (txt rt) tk')) { heap := h', gens := g', drawn := s.drawn, toks := tkk, os := s.os }) :
    wpAny (model PySem.Challenge.rw_xl0011_01.row.prog w) (plA w dp un gd L outer) (execs [(plainX w).1.s3, (plainX w).1.s4, (plainX w).1.s5, (plainX w).1.s6] (plEnv w L)) Q E s := by
  unfold plainX plA plEnv plainF
  dsimp only
  revert X
  k_fill
  w_top off
  intro X
  repeat' (first
    | (k_unfold; (try dsimp only))
    | ((with_reducible first | show wpAny _ _ (exec _ _) _ _ _ | show wpAny _ _ (isTrue _ _ _) _ _ _); (fail_if_success (with_reducible show wpAny _ _ _ Q8 _ _)); (with_reducible refine fold_q ?_); intro Q8 hQ8)
    | ((with_reducible refine hQ8 _ _ ?_); clear hQ8; (try dsimp only))
    | ((with_reducible show wpAny _ _ (compareOp CmpOp.NotEq (Value.ref _) (Value.ref _)) _ _ _); (k_here; (with_reducible show wpAny _ _ (compareOp CmpOp.NotEq (Value.ref _) (Value.ref _)) _ _ _); k_dflt (refine' ne_lists ?k1 ?k2 ?k3 ?k4 ?k5 ?_; (case k1 | k2 => ked_read); (case k3 => first | exact shaped0 | exact shaped1 (by assumption) | exact shaped2 (by assumption) (by assumption) | exact shaped3 (by assumption) (by assumption) (by assumption)); (case k4 => ktr_units); (case k5 => simp [PyData.eqv, PyData.eqvAll]); k_whole)))
    | ((with_reducible show wpAny _ _ (pyIter (Value.ref _)) _ _ _); (k_here; k_dflt (refine' iter_lst ?k1 ?k2 ?k3 ?_; (case k1 | k2 => k_asm); (case k3 => exact List.Mem.head _); k_whole); intro I9 h' F' N' i9))
    | ((with_reducible show wpAny _ _ (exec (Stmt.For _ _ _ _ _) _) _ _ _); (k_here; k_dflt (refine wpAny_For ?_)))
    | ((with_reducible show wpAny _ _ (call (Value.builtin "len") _) _ _ _); (k_here; k_dflt (refine' len_pile ?k1 ?k2 ?k3 ?k4 ?k5 ?k6 ?k7 ?k8 ?k9 ?k10 ?_; (case k1 | k2 => k_asm); (case k3 | k4 | k5 => k_asm); (case k6 => first | exact rfl | assumption); (case k7 => ktr_room); (case k8 => ktr_units); (case k9 => assumption); (case k10 => first | assumption | exact PS.cons1 (by assumption) (by k_asm) | exact PS.cons2 (by assumption) (by k_asm) | exact PS.cons3 (by assumption) (by k_asm) | exact PS.cons4 (by assumption) (by k_asm))); intro n9 h9 t9 g9 tk9 F9 N9 G9 x9 S9; (try (have ml8 := PS.keep_lcg (by assumption) (by assumption) x9)); (try (have ml9 := PS.keep_cls (PS.cons1 (by assumption) (by assumption)) (List.Mem.head _) rfl x9)); (try (replace x9 := Ext.uncons x9)); (try (replace x9 := Ext.uncons x9)); (try (replace x9 := Ext.uncons x9)); (try (replace x9 := Ext.uncons x9)); (try (have ml7 := PS.keep_lst (by assumption) (by assumption) x9))))
    | ((with_reducible show wpAny _ _ (call (Value.ref _) _) _ _ _); (k_here; (with_reducible refine fold_q ?_); intro Q9 hQ9; k_dflt (refine' tel_use (from01_ps) ?k1 ?k2 ?k3 ?k4 ?k5 ?k6 ?k7 ?k8 ?k9 ?k10 ?_; (case k1 | k2 => k_asm); (case k3 | k4 | k5 => k_asm); (case k6 => first | exact rfl | assumption); (case k7 => ktr_room); (case k8 => ktr_units); (case k9 => assumption); (case k10 => first | assumption | exact PS.cons1 (by assumption) (by k_asm) | exact PS.cons2 (by assumption) (by k_asm) | exact PS.cons3 (by assumption) (by k_asm) | exact PS.cons4 (by assumption) (by k_asm))); intro r9 n9 h9 t9 g9 F9 N9 G9 P9; obtain ⟨x9, S9, m9, m91, wf91, kn91⟩ := P9; (try (have ml8 := PS.keep_lcg (by assumption) (by assumption) x9)); (try (have ml9 := PS.keep_cls (PS.cons1 (by assumption) (by assumption)) (List.Mem.head _) rfl x9)); (try (replace x9 := Ext.uncons x9)); (try (replace x9 := Ext.uncons x9)); (try (replace x9 := Ext.uncons x9)); (try (replace x9 := Ext.uncons x9)); (try (have ml7 := PS.keep_lst (by assumption) (by assumption) x9)); (with_reducible refine hQ9 _ _ ?_); clear hQ9 Q9))
    | ((with_reducible show wpAny _ _ (getMethod (Value.ref _) _ _) _ _ _); (k_here; k_dflt (refine' method_ps ?k1 ?k2 ?k3 ?k4 ?k5 ?k6 ?k7 ?_; (case k2 | k3 | k4 => k_asm); (case k1 => first | assumption | exact PS.cons1 (by assumption) (by k_asm) | exact PS.cons2 (by assumption) (by k_asm) | exact PS.cons3 (by assumption) (by k_asm) | exact PS.cons4 (by assumption) (by k_asm)); (case k5 | k6 => k_is); (case k7 => (intros; kernel_rfl)); k_whole)))
    | ((with_reducible show wpAny _ _ (subscriptTail _ _ _ _) _ _ _); (k_here; (with_reducible show wpAny _ _ (subscriptTail _ (PySem.Expr.Slice _ _ _ _) (Value.ref _) (Value.ref _)) _ _ _); k_dflt (refine' rev_lst ?k1 ?k2 ?k3 ?k4 ?k5 ?k6 ?_; (case k1 | k2 => k_asm); (case k3 => k_mem); (case k4 => exact Nat.le_of_ble_eq_true rfl); (case k5 => with_unfolding_all rfl); (case k6 => (intro _; with_unfolding_all rfl)); k_whole); intro D9 h' F' N'; (try simp only [List.reverse_cons, List.reverse_nil, List.nil_append, List.cons_append] at N')))
    | ((fail_if_success (with_reducible show wpAny _ _ _ _ _ _)); first
      | (k_here; k_dflt (refine' comp_end1 ?c1 ?c2 ?c4 ?c6 ?c5 ?_; (case c1 | c2 => assumption); (case c4 | c6 => assumption); (case c5 => lcg_src)))
      | fail "no own line")
    | (walk1) | (dsimp only; walk1) | (leave1; (try dsimp only)) | fail "no step")
  all_goals (try k_data)
  rename (_, tup [_, .str (txt t1) _]) ∈ _ => m1
  have q1 := PS.keep_tup (by assumption) m1 (by assumption)
  rename News _ _ _ _ => N9
  rename AllBare _ => G9
  rename Fr _ _ _ _ => F9
  rename ∀ q : Addr × Obj, q ∈ _ → q.1 ≠ _ => i9
  rename PS w P p dx _ kvs [] [] => S9
  refine loop_w C B X T hd hu hd2 hu2 (mP_fr F9 rfl rfl rfl) N9 G9 (PS.cons2 S9 N9) hc trivial (.tail _ (.head _)) (.head _) (fun q hq => i9 q (.tail _ hq)) (Ext.trans Ext.cons Ext.cons) (.cons ⟨_, _, _, rfl, .tail _ (.tail _ q1), by assumption, by assumption⟩ .nil) hn hz ?_
  intro tk5 u5 h5 g5 tkk5 news5 kvs5 F5 N5 hg5 S5 wf5 kn5 hx5 mo5 le5
  clear F9 N9 G9 i9
  dsimp only
  repeat' (first
    | (k_unfold; (try dsimp only))
    | ((with_reducible first | show wpAny _ _ (exec _ _) _ _ _ | show wpAny _ _ (isTrue _ _ _) _ _ _); (fail_if_success (with_reducible show wpAny _ _ _ Q8 _ _)); (with_reducible refine fold_q ?_); intro Q8 hQ8)
    | ((with_reducible refine hQ8 _ _ ?_); clear hQ8; (try dsimp only))
    | (walk1) | (dsimp only; walk1) | (leave1; (try dsimp only)) | fail "no step")
  exact ret _ _ _ _ _ _ _ F5 N5 hg5 S5 wf5 kn5 (by (with_reducible first | assumption | (refine Ext.trans (by assumption) ?_; first | assumption | (refine Ext.trans (by assumption) ?_; first | assumption | (refine Ext.trans (by assumption) ?_; assumption))))) mo5 le5
theorem tail_2 {w : World} {dp un : Nat} {gd : Option (List Code)} {outer : List Env} {A₀ : Around} {base h₀ : Heap} {L P p dx : Addr} {mean : ExcName → Option Value} {mg mb : Str → Option Value} {news : Led} {kvs : List (Str × Value)} {Q : Flow → Shared → Prop} {E : Value → Shared → Prop} {lvl d : Nat} (C : PlTel w lvl d)
    (B : Below A₀ base outer h₀) (X : (hd.heap_39 w.params).In h₀) (T : Top topProg looseT mean mg mb h₀) (hd : dp + 60 < recursionLimit) (hu : un + 480 < cLine) (hd2 : dp + lvl < recursionLimit) (hu2 : un + 8 * lvl < cLine)
    {s : Shared} {u : Str → Option Value} {tk : Tok} {c : Nat} {rt : Tm} {K : Nat} {v1 v2 : Value} {t1 t2 : Tm} (F : Fr h₀ L s.heap (mP u tk (.leaf c) p P)) (N : News h₀ L s.heap news) (hg : AllBare s.gens) (S : PS w P p dx news kvs [v1, v2] [t1, t2]) (hc : okc c) (hn : normArgs (norm d) [t1, t2] (.leaf c) 0 = some (rt, K)) (hz : lim + kvs.length + K + 10 ≤ sizeLine)
    (ret : ∀ tk' h' g' tkk news' kvs' m', Fr h₀ L h' m' → News h₀ L h' news' → AllBare g' → PS w P p dx news' kvs' [] [] → wf rt → known kvs' rt → Ext (Off P p dx) news news' → (∀ u, known kvs u → known kvs' u) → kvs'.length ≤ kvs.length + K → Q (.ret (.str (txt rt) tk')) { heap := h', gens := g', drawn := s.drawn, toks := tkk, os := s.os }) :
    wpAny (model PySem.Challenge.rw_xl0011_01.row.prog w) (plA w dp un gd L outer) (execs [(plainX w).1.s3, (plainX w).1.s4, (plainX w).1.s5, (plainX w).1.s6] (plEnv w L)) Q E s := by
  unfold plainX plA plEnv plainF
  dsimp only
  revert X
  k_fill
  w_top off
  intro X
  repeat' (first
    | (k_unfold; (try dsimp only))
    | ((with_reducible first | show wpAny _ _ (exec _ _) _ _ _ | show wpAny _ _ (isTrue _ _ _) _ _ _); (fail_if_success (with_reducible show wpAny _ _ _ Q8 _ _)); (with_reducible refine fold_q ?_); intro Q8 hQ8)
    | ((with_reducible refine hQ8 _ _ ?_); clear hQ8; (try dsimp only))
    | ((with_reducible show wpAny _ _ (compareOp CmpOp.NotEq (Value.ref _) (Value.ref _)) _ _ _); (k_here; (with_reducible show wpAny _ _ (compareOp CmpOp.NotEq (Value.ref _) (Value.ref _)) _ _ _); k_dflt (refine' ne_lists ?k1 ?k2 ?k3 ?k4 ?k5 ?_; (case k1 | k2 => ked_read); (case k3 => first | exact shaped0 | exact shaped1 (by assumption) | exact shaped2 (by assumption) (by assumption) | exact shaped3 (by assumption) (by assumption) (by assumption)); (case k4 => ktr_units); (case k5 => simp [PyData.eqv, PyData.eqvAll]); k_whole)))
    | ((with_reducible show wpAny _ _ (pyIter (Value.ref _)) _ _ _); (k_here; k_dflt (refine' iter_lst ?k1 ?k2 ?k3 ?_; (case k1 | k2 => k_asm); (case k3 => exact List.Mem.head _); k_whole); intro I9 h' F' N' i9))
    | ((with_reducible show wpAny _ _ (exec (Stmt.For _ _ _ _ _) _) _ _ _); (k_here; k_dflt (refine wpAny_For ?_)))
    | ((with_reducible show wpAny _ _ (call (Value.builtin "len") _) _ _ _); (k_here; k_dflt (refine' len_pile ?k1 ?k2 ?k3 ?k4 ?k5 ?k6 ?k7 ?k8 ?k9 ?k10 ?_; (case k1 | k2 => k_asm); (case k3 | k4 | k5 => k_asm); (case k6 => first | exact rfl | assumption); (case k7 => ktr_room); (case k8 => ktr_units); (case k9 => assumption); (case k10 => first | assumption | exact PS.cons1 (by assumption) (by k_asm) | exact PS.cons2 (by assumption) (by k_asm) | exact PS.cons3 (by assumption) (by k_asm) | exact PS.cons4 (by assumption) (by k_asm))); intro n9 h9 t9 g9 tk9 F9 N9 G9 x9 S9; (try (have ml8 := PS.keep_lcg (by assumption) (by assumption) x9)); (try (have ml9 := PS.keep_cls (PS.cons1 (by assumption) (by assumption)) (List.Mem.head _) rfl x9)); (try (replace x9 := Ext.uncons x9)); (try (replace x9 := Ext.uncons x9)); (try (replace x9 := Ext.uncons x9)); (try (replace x9 := Ext.uncons x9)); (try (have ml7 := PS.keep_lst (by assumption) (by assumption) x9))))
    | ((with_reducible show wpAny _ _ (call (Value.ref _) _) _ _ _); (k_here; (with_reducible refine fold_q ?_); intro Q9 hQ9; k_dflt (refine' tel_use (from02_ps) ?k1 ?k2 ?k3 ?k4 ?k5 ?k6 ?k7 ?k8 ?k9 ?k10 ?_; (case k1 | k2 => k_asm); (case k3 | k4 | k5 => k_asm); (case k6 => first | exact rfl | assumption); (case k7 => ktr_room); (case k8 => ktr_units); (case k9 => assumption); (case k10 => first | assumption | exact PS.cons1 (by assumption) (by k_asm) | exact PS.cons2 (by assumption) (by k_asm) | exact PS.cons3 (by assumption) (by k_asm) | exact PS.cons4 (by assumption) (by k_asm))); intro r9 n9 h9 t9 g9 F9 N9 G9 P9; obtain ⟨x9, S9, m9, m91, wf91, kn91, m92, wf92, kn92⟩ := P9; (try (have ml8 := PS.keep_lcg (by assumption) (by assumption) x9)); (try (have ml9 := PS.keep_cls (PS.cons1 (by assumption) (by assumption)) (List.Mem.head _) rfl x9)); (try (replace x9 := Ext.uncons x9)); (try (replace x9 := Ext.uncons x9)); (try (replace x9 := Ext.uncons x9)); (try (replace x9 := Ext.uncons x9)); (try (have ml7 := PS.keep_lst (by assumption) (by assumption) x9)); (with_reducible refine hQ9 _ _ ?_); clear hQ9 Q9))
    | ((with_reducible show wpAny _ _ (getMethod (Value.ref _) _ _) _ _ _); (k_here; k_dflt (refine' method_ps ?k1 ?k2 ?k3 ?k4 ?k5 ?k6 ?k7 ?_; (case k2 | k3 | k4 => k_asm); (case k1 => first | assumption | exact PS.cons1 (by assumption) (by k_asm) | exact PS.cons2 (by assumption) (by k_asm) | exact PS.cons3 (by assumption) (by k_asm) | exact PS.cons4 (by assumption) (by k_asm)); (case k5 | k6 => k_is); (case k7 => (intros; kernel_rfl)); k_whole)))
    | ((with_reducible show wpAny _ _ (subscriptTail _ _ _ _) _ _ _); (k_here; (with_reducible show wpAny _ _ (subscriptTail _ (PySem.Expr.Slice _ _ _ _) (Value.ref _) (Value.ref _)) _ _ _); k_dflt (refine' rev_lst ?k1 ?k2 ?k3 ?k4 ?k5 ?k6 ?_; (case k1 | k2 => k_asm); (case k3 => k_mem); (case k4 => exact Nat.le_of_ble_eq_true rfl); (case k5 => with_unfolding_all rfl); (case k6 => (intro _; with_unfolding_all rfl)); k_whole); intro D9 h' F' N'; (try simp only [List.reverse_cons, List.reverse_nil, List.nil_append, List.cons_append] at N')))
    | ((fail_if_success (with_reducible show wpAny _ _ _ _ _ _)); first
      | (k_here; k_dflt (refine' comp_end1 ?c1 ?c2 ?c4 ?c6 ?c5 ?_; (case c1 | c2 => assumption); (case c4 | c6 => assumption); (case c5 => lcg_src)))
      | fail "no own line")
    | (walk1) | (dsimp only; walk1) | (leave1; (try dsimp only)) | fail "no step")
  all_goals (try k_data)
  rename (_, tup [_, .str (txt t2) _]) ∈ _ => m2
  have q2 := PS.keep_tup (by assumption) m2 (by assumption)
  rename (_, tup [_, .str (txt t1) _]) ∈ _ => m1
  have q1 := PS.keep_tup (by assumption) m1 (by assumption)
  rename News _ _ _ _ => N9
  rename AllBare _ => G9
  rename Fr _ _ _ _ => F9
  rename ∀ q : Addr × Obj, q ∈ _ → q.1 ≠ _ => i9
  rename PS w P p dx _ kvs [] [] => S9
  refine loop_w C B X T hd hu hd2 hu2 (mP_fr F9 rfl rfl rfl) N9 G9 (PS.cons2 S9 N9) hc trivial (.tail _ (.head _)) (.head _) (fun q hq => i9 q (.tail _ hq)) (Ext.trans Ext.cons Ext.cons) (.cons ⟨_, _, _, rfl, .tail _ (.tail _ q1), by assumption, by assumption⟩ (.cons ⟨_, _, _, rfl, .tail _ (.tail _ q2), by assumption, by assumption⟩ .nil)) hn hz ?_
  intro tk5 u5 h5 g5 tkk5 news5 kvs5 F5 N5 hg5 S5 wf5 kn5 hx5 mo5 le5
  clear F9 N9 G9 i9
  dsimp only
  repeat' (first
    | (k_unfold; (try dsimp only))
    | ((with_reducible first | show wpAny _ _ (exec _ _) _ _ _ | show wpAny _ _ (isTrue _ _ _) _ _ _); (fail_if_success (with_reducible show wpAny _ _ _ Q8 _ _)); (with_reducible refine fold_q ?_); intro Q8 hQ8)
    | ((with_reducible refine hQ8 _ _ ?_); clear hQ8; (try dsimp only))
    | (walk1) | (dsimp only; walk1) | (leave1; (try dsimp only)) | fail "no step")
  exact ret _ _ _ _ _ _ _ F5 N5 hg5 S5 wf5 kn5 (by (with_reducible first | assumption | (refine Ext.trans (by assumption) ?_; first | assumption | (refine Ext.trans (by assumption) ?_; first | assumption | (refine Ext.trans (by assumption) ?_; assumption))))) mo5 le5
end
section
open PySem PySem.W PyProof.Rows
open PySem.Calls PySem.Spec
set_option maxRecDepth 100000
set_option maxHeartbeats 8000000
theorem tail_3 {w : World} {dp un : Nat} {gd : Option (List Code)} {outer : List Env} {A₀ : Around} {base h₀ : Heap} {L P p dx : Addr} {mean : ExcName → Option Value} {mg mb : Str → Option Value} {news : Led} {kvs : List (Str × Value)} {Q : Flow → Shared → Prop} {E : Value → Shared → Prop} {lvl d : Nat} (C : PlTel w lvl d)
    (B : Below A₀ base outer h₀) (X : (hd.heap_39 w.params).In h₀) (T : Top topProg looseT mean mg mb h₀) (hd : dp + 60 < recursionLimit) (hu : un + 480 < cLine) (hd2 : dp + lvl < recursionLimit) (hu2 : un + 8 * lvl < cLine)
    {s : Shared} {u : Str → Option Value} {tk : Tok} {c : Nat} {rt : Tm} {K : Nat} {v1 v2 v3 : Value} {t1 t2 t3 : Tm} (F : Fr h₀ L s.heap (mP u tk (.leaf c) p P)) (N : News h₀ L s.heap news) (hg : AllBare s.gens) (S : PS w P p dx news kvs [v1, v2, v3] [t1, t2, t3]) (hc : okc c) (hn : normArgs (norm d) [t1, t2, t3] (.leaf c) 0 = some (rt, K)) (hz : lim + kvs.length + K + 10 ≤ sizeLine)
    (ret : ∀ tk' h' g' tkk news' kvs' m', Fr h₀ L h' m' → News h₀ L h' news' → AllBare g' → PS w P p dx news' kvs' [] [] → wf rt → known kvs' rt → Ext (Off P p dx) news news' → (∀ u, known kvs u → known kvs' u) → kvs'.length ≤ kvs.length + K → Q (.ret (.str (txt rt) tk')) { heap := h', gens := g', drawn := s.drawn, toks := tkk, os := s.os }) :
    wpAny (model PySem.Challenge.rw_xl0011_01.row.prog w) (plA w dp un gd L outer) (execs [(plainX w).1.s3, (plainX w).1.s4, (plainX w).1.s5, (plainX w).1.s6] (plEnv w L)) Q E s := by
  unfold plainX plA plEnv plainF
  dsimp only
  revert X
  k_fill
  w_top off
  intro X
  repeat' (first
    | (k_unfold; (try dsimp only))
    | ((with_reducible first | show wpAny _ _ (exec _ _) _ _ _ | show wpAny _ _ (isTrue _ _ _) _ _ _); (fail_if_success (with_reducible show wpAny _ _ _ Q8 _ _)); (with_reducible refine fold_q ?_); intro Q8 hQ8)
    | ((with_reducible refine hQ8 _ _ ?_); clear hQ8; (try dsimp only))
    | ((with_reducible show wpAny _ _ (compareOp CmpOp.NotEq (Value.ref _) (Value.ref _)) _ _ _); (k_here; (with_reducible show wpAny _ _ (compareOp CmpOp.NotEq (Value.ref _) (Value.ref _)) _ _ _); k_dflt (refine' ne_lists ?k1 ?k2 ?k3 ?k4 ?k5 ?_; (case k1 | k2 => ked_read); (case k3 => first | exact shaped0 | exact shaped1 (by assumption) | exact shaped2 (by assumption) (by assumption) | exact shaped3 (by assumption) (by assumption) (by assumption)); (case k4 => ktr_units); (case k5 => simp [PyData.eqv, PyData.eqvAll]); k_whole)))
    | ((with_reducible show wpAny _ _ (pyIter (Value.ref _)) _ _ _); (k_here; k_dflt (refine' iter_lst ?k1 ?k2 ?k3 ?_; (case k1 | k2 => k_asm); (case k3 => exact List.Mem.head _); k_whole); intro I9 h' F' N' i9))
    | ((with_reducible show wpAny _ _ (exec (Stmt.For _ _ _ _ _) _) _ _ _); (k_here; k_dflt (refine wpAny_For ?_)))
    | ((with_reducible show wpAny _ _ (call (Value.builtin "len") _) _ _ _); (k_here; k_dflt (refine' len_pile ?k1 ?k2 ?k3 ?k4 ?k5 ?k6 ?k7 ?k8 ?k9 ?k10 ?_; (case k1 | k2 => k_asm); (case k3 | k4 | k5 => k_asm); (case k6 => first | exact rfl | assumption); (case k7 => ktr_room); (case k8 => ktr_units); (case k9 => assumption); (case k10 => first | assumption | exact PS.cons1 (by assumption) (by k_asm) | exact PS.cons2 (by assumption) (by k_asm) | exact PS.cons3 (by assumption) (by k_asm) | exact PS.cons4 (by assumption) (by k_asm))); intro n9 h9 t9 g9 tk9 F9 N9 G9 x9 S9; (try (have ml8 := PS.keep_lcg (by assumption) (by assumption) x9)); (try (have ml9 := PS.keep_cls (PS.cons1 (by assumption) (by assumption)) (List.Mem.head _) rfl x9)); (try (replace x9 := Ext.uncons x9)); (try (replace x9 := Ext.uncons x9)); (try (replace x9 := Ext.uncons x9)); (try (replace x9 := Ext.uncons x9)); (try (have ml7 := PS.keep_lst (by assumption) (by assumption) x9))))
    | ((with_reducible show wpAny _ _ (call (Value.ref _) _) _ _ _); (k_here; (with_reducible refine fold_q ?_); intro Q9 hQ9; k_dflt (refine' tel_use (from03_ps) ?k1 ?k2 ?k3 ?k4 ?k5 ?k6 ?k7 ?k8 ?k9 ?k10 ?_; (case k1 | k2 => k_asm); (case k3 | k4 | k5 => k_asm); (case k6 => first | exact rfl | assumption); (case k7 => ktr_room); (case k8 => ktr_units); (case k9 => assumption); (case k10 => first | assumption | exact PS.cons1 (by assumption) (by k_asm) | exact PS.cons2 (by assumption) (by k_asm) | exact PS.cons3 (by assumption) (by k_asm) | exact PS.cons4 (by assumption) (by k_asm))); intro r9 n9 h9 t9 g9 F9 N9 G9 P9; obtain ⟨x9, S9, m9, m91, wf91, kn91, m92, wf92, kn92, m93, wf93, kn93⟩ := P9; (try (have ml8 := PS.keep_lcg (by assumption) (by assumption) x9)); (try (have ml9 := PS.keep_cls (PS.cons1 (by assumption) (by assumption)) (List.Mem.head _) rfl x9)); (try (replace x9 := Ext.uncons x9)); (try (replace x9 := Ext.uncons x9)); (try (replace x9 := Ext.uncons x9)); (try (replace x9 := Ext.uncons x9)); (try (have ml7 := PS.keep_lst (by assumption) (by assumption) x9)); (with_reducible refine hQ9 _ _ ?_); clear hQ9 Q9))
    | ((with_reducible show wpAny _ _ (getMethod (Value.ref _) _ _) _ _ _); (k_here; k_dflt (refine' method_ps ?k1 ?k2 ?k3 ?k4 ?k5 ?k6 ?k7 ?_; (case k2 | k3 | k4 => k_asm); (case k1 => first | assumption | exact PS.cons1 (by assumption) (by k_asm) | exact PS.cons2 (by assumption) (by k_asm) | exact PS.cons3 (by assumption) (by k_asm) | exact PS.cons4 (by assumption) (by k_asm)); (case k5 | k6 => k_is); (case k7 => (intros; kernel_rfl)); k_whole)))
    | ((with_reducible show wpAny _ _ (subscriptTail _ _ _ _) _ _ _); (k_here; (with_reducible show wpAny _ _ (subscriptTail _ (PySem.Expr.Slice _ _ _ _) (Value.ref _) (Value.ref _)) _ _ _); k_dflt (refine' rev_lst ?k1 ?k2 ?k3 ?k4 ?k5 ?k6 ?_; (case k1 | k2 => k_asm); (case k3 => k_mem); (case k4 => exact Nat.le_of_ble_eq_true rfl); (case k5 => with_unfolding_all rfl); (case k6 => (intro _; with_unfolding_all rfl)); k_whole); intro D9 h' F' N'; (try simp only [List.reverse_cons, List.reverse_nil, List.nil_append, List.cons_append] at N')))
    | ((fail_if_success (with_reducible show wpAny _ _ _ _ _ _)); first
      | (k_here; k_dflt (refine' comp_end1 ?c1 ?c2 ?c4 ?c6 ?c5 ?_; (case c1 | c2 => assumption); (case c4 | c6 => assumption); (case c5 => lcg_src)))
      | fail "no own line")
    | (walk1) | (dsimp only; walk1) | (leave1; (try dsimp only)) | fail "no step")
  all_goals (try k_data)
  rename (_, tup [_, .str (txt t3) _]) ∈ _ => m3
  have q3 := PS.keep_tup (by assumption) m3 (by assumption)
  rename (_, tup [_, .str (txt t2) _]) ∈ _ => m2
  have q2 := PS.keep_tup (by assumption) m2 (by assumption)
  rename (_, tup [_, .str (txt t1) _]) ∈ _ => m1
  have q1 := PS.keep_tup (by assumption) m1 (by assumption)
  rename News _ _ _ _ => N9
  rename AllBare _ => G9
  rename Fr _ _ _ _ => F9
  rename ∀ q : Addr × Obj, q ∈ _ → q.1 ≠ _ => i9
  rename PS w P p dx _ kvs [] [] => S9
  refine loop_w C B X T hd hu hd2 hu2 (mP_fr F9 rfl rfl rfl) N9 G9 (PS.cons2 S9 N9) hc trivial (.tail _ (.head _)) (.head _) (fun q hq => i9 q (.tail _ hq)) (Ext.trans Ext.cons Ext.cons) (.cons ⟨_, _, _, rfl, .tail _ (.tail _ q1), by assumption, by assumption⟩ (.cons ⟨_, _, _, rfl, .tail _ (.tail _ q2), by assumption, by assumption⟩ (.cons ⟨_, _, _, rfl, .tail _ (.tail _ q3), by assumption, by assumption⟩ .nil))) hn hz ?_
  intro tk5 u5 h5 g5 tkk5 news5 kvs5 F5 N5 hg5 S5 wf5 kn5 hx5 mo5 le5
  clear F9 N9 G9 i9
  dsimp only
  repeat' (first
    | (k_unfold; (try dsimp only))
    | ((with_reducible first | show wpAny _ _ (exec _ _) _ _ _ | show wpAny _ _ (isTrue _ _ _) _ _ _); (fail_if_success (with_reducible show wpAny _ _ _ Q8 _ _)); (with_reducible refine fold_q ?_); intro Q8 hQ8)
    | ((with_reducible refine hQ8 _ _ ?_); clear hQ8; (try dsimp only))
    | (walk1) | (dsimp only; walk1) | (leave1; (try dsimp only)) | fail "no step")
  exact ret _ _ _ _ _ _ _ F5 N5 hg5 S5 wf5 kn5 (by (with_reducible first | assumption | (refine Ext.trans (by assumption) ?_; first | assumption | (refine Ext.trans (by assumption) ?_; first | assumption | (refine Ext.trans (by assumption) ?_; assumption))))) mo5 le5
end
section
open PySem PySem.W PyProof.Rows
open PySem.Calls PySem.Spec
set_option maxRecDepth 100000
set_option maxHeartbeats 8000000
theorem normArgs_shift {g : Tm → Option (Tm × Nat)} : ∀ {as : List Tm} {t : Tm} {k j : Nat} {rt : Tm} {K : Nat}, normArgs g as t (k + j) = some (rt, K) → ∃ K', normArgs g as t j = some (rt, K') ∧ K = k + K'
  | [], t, k, j, rt, K, h => by
    have e := Option.some.inj h
    injection e with e1 e2
    exact ⟨j, by rw [← e1]; rfl, e2.symm⟩
  | a :: as, t, k, j, rt, K, h => by
    obtain ⟨r1, i, hg, ho, h2⟩ := normArgs_cons h
    rw [show k + j + i + 1 = k + (j + i + 1) by omega] at h2
    obtain ⟨K', h3, h4⟩ := normArgs_shift h2
    refine ⟨K', ?_, h4⟩
    unfold normArgs
    rw [hg]
    dsimp only
    rw [show onOk t r1 = true from Nat.ble_eq_true_of_le ho]
    exact h3
theorem norm_succ {d : Nat} {t rt : Tm} {K : Nat} (h : norm (d + 1) t = some (rt, K)) : ∃ c args k K', run 400 t [] 0 = some (c, args, k) ∧ few args = true ∧ normArgs (norm d) args (.leaf c) 0 = some (rt, K') ∧ K = k + K' := by
  unfold norm at h
  cases hr : run 400 t [] 0 with
  | none => rw [hr] at h; cases h
  | some x =>
    obtain ⟨c, args, k⟩ := x
    rw [hr] at h
    dsimp only at h
    cases hf : few args with
    | false => rw [hf] at h; cases h
    | true =>
      rw [hf] at h
      obtain ⟨K', h1, h2⟩ := normArgs_shift (k := k) (j := 0) h
      exact ⟨c, args, k, K', rfl, hf, h1, h2⟩

theorem plain_all {w : World} : ∀ d, PlTel w (70 + 10 * d) d
  | 0 => fun P kvs t rt K tk hn => by cases hn
  | d + 1 => by
    have C := plain_all (w := w) d
    intro P kvs t rt K tk hn hwf hkn hz
    obtain ⟨c, args, k, K', hrun, hfew, hargs, hK⟩ := norm_succ hn
    unfold Tel
    k_fill
    intro mean mg mb dp un gd cn cs a ccd cl outer A₀ base h₀ L m news s Q E B F X N T hk hd hu hg hp hret
    obtain ⟨hps, htab⟩ := hp
    refine wpAny_call ?_
    k_dflt (refine' code_def ?k1 ?k2 ?k3 ?k4 ?k5 ?kA ?kF ?kK ?k6 ?k7 ?k8 ?k9 ?kB ?_ ?c2 ?c3 ?c4 ?c5; (case kA | kF => exact rfl); (case kK => assumption); (case k1 | k2 => k_asm); (case k3 | k4 | k5 => k_asm); (case k6 | k7 => k_is); (case k8 => ktr_room); (case k9 => first | exact BindsTo.of_eq rfl | exact binds_K (by k_in) rfl (by k_is) rfl rfl rfl); (case c5 => decide); (case kB => exact locs rfl); (case c2 | c3 | c4 => exact rfl); k_whole; intro g' L' h' FG' F' N' B' X' T'; (try dsimp only); (try k_fold))
    repeat' (first
      | (k_unfold; (try dsimp only))
      | ((with_reducible show wpAny _ _ (exec (Stmt.For (PySem.Expr.Name _ _) (PySem.Expr.Call _ _ _ _) _ _ _) _) _ _ _); (k_here; k_dflt (refine hold ?_)))
      | ((with_reducible show wpAny _ _ (call (Value.ref _) _) _ _ _); (k_here; (with_reducible refine fold_q ?_); intro Q9 hQ9; k_dflt (refine' tel_use (acc_tel _) ?k1 ?k2 ?k3 ?k4 ?k5 ?k6 ?k7 ?k8 ?k9 ?k10 ?_; (case k1 | k2 => k_asm); (case k3 | k4 | k5 => k_asm); (case k6 => first | exact rfl | assumption); (case k7 => ktr_room); (case k8 => ktr_units); (case k9 => assumption); (case k10 => exact True.intro)); intro r9 n9 h9 t9 g9 F9 N9 G9 P9; obtain ⟨p9, dx9, y9, x9, pl9, fr9⟩ := P9; subst y9; (with_reducible refine hQ9 _ _ ?_); clear hQ9 Q9))
      | ((with_reducible show wpAny _ _ (execs (_ :: _) _) _ _ _); (k_here; (with_reducible refine wpAny_execs_cons ?_); (try dsimp only); (try (refine fold_fn (by k_asm) (by k_asm) ?_; intro led9 fm9 F9 N9))))
      | (walk1) | (dsimp only; walk1) | (leave1; (try dsimp only)) | fail "no step")
    all_goals (try k_data)
    rename Pile _ _ _ _ => pl9
    rename Ext [] _ _ => x9
    rename ∀ q : Addr × Obj, q ∈ _ → q.1 ≠ _ ∧ q.1 ≠ _ => fr9
    rename News _ _ _ _ => N9
    rename AllBare _ => G9
    rename Fr _ _ _ _ => F9
    obtain ⟨oP, hoP, _⟩ := hps.obj
    have S9 := PS.mk (w := w) (hps.ext x9 (by simp) (by simp)) (vs := []) (st := []) pl9 .nil (htab.ext x9 (by simp)) (News.uniq N9) (Ne.symm (fr9 _ hoP).1) (Ne.symm (fr9 _ hoP).2)
    unfold Hold
    refine outer_w (by assumption) (by assumption) (by assumption) ?h1 ?h2 (mP_fr (t := t) F9 rfl rfl rfl) N9 G9 S9 hwf hkn (c, args, k) hrun ?h3 ?_
    case h1 => (dsimp only [ktrTop]; omega)
    case h2 => (dsimp only [ktrTop]; omega)
    case h3 => (dsimp only; omega)
    intro tk5 u5 h5 g5 tkk5 news5 kvs5 vs5 F5 N5 G5 S5 hc5 le5 mo5 x5
    dsimp only at F5 S5 hc5 le5 ⊢
    have hs := S5.stk
    rcases hs with _ | ⟨c1, _ | ⟨c2, _ | ⟨c3, _ | ⟨c4, r4⟩⟩⟩⟩
    · refine tail_0 C (by assumption) (by assumption) (by assumption) ?g1 ?g2 ?g3 ?g4 F5 N5 G5 S5 hc5 hargs ?g5 ?_
      case g1 => (dsimp only [ktrTop]; omega)
      case g2 => (dsimp only [ktrTop]; omega)
      case g3 => (dsimp only [ktrTop]; omega)
      case g4 => (dsimp only [ktrTop]; omega)
      case g5 => omega
      intro tk6 h6 g6 tkk6 news6 kvs6 m6 F6 N6 G6 S6 wf6 kn6 x6 mo6 le6
      clear F9 N9 G9 F5 N5 G5
      repeat' (first
        | (k_unfold; (try dsimp only))
        | (walk1) | (dsimp only; walk1) | (leave1; (try dsimp only)) | fail "no step")
      refine hret _ _ _ _ _ (by assumption) (by assumption) G6 ⟨⟨_, rfl⟩, fun b o hb hn => (x5.trans x6) b o (x9 b o hb (by simp)) (fun hm => ?_), S6.tab, kvs6, S6.ps, kn6, fun u h => mo6 u (mo5 u h), by omega, wf6⟩
      rcases List.mem_cons.mp hm with q | hm
      · exact hn (q ▸ .head _)
      rcases List.mem_cons.mp hm with q | hm
      · exact hn (q ▸ .tail _ (.head _))
      rcases List.mem_cons.mp hm with q | hm
      · exact (fr9 _ hb).1 q
      · exact (fr9 _ hb).2 (List.mem_singleton.mp hm)
    · refine tail_1 C (by assumption) (by assumption) (by assumption) ?g1 ?g2 ?g3 ?g4 F5 N5 G5 S5 hc5 hargs ?g5 ?_
      case g1 => (dsimp only [ktrTop]; omega)
      case g2 => (dsimp only [ktrTop]; omega)
      case g3 => (dsimp only [ktrTop]; omega)
      case g4 => (dsimp only [ktrTop]; omega)
      case g5 => omega
      intro tk6 h6 g6 tkk6 news6 kvs6 m6 F6 N6 G6 S6 wf6 kn6 x6 mo6 le6
      clear F9 N9 G9 F5 N5 G5
      repeat' (first
        | (k_unfold; (try dsimp only))
        | (walk1) | (dsimp only; walk1) | (leave1; (try dsimp only)) | fail "no step")
      refine hret _ _ _ _ _ (by assumption) (by assumption) G6 ⟨⟨_, rfl⟩, fun b o hb hn => (x5.trans x6) b o (x9 b o hb (by simp)) (fun hm => ?_), S6.tab, kvs6, S6.ps, kn6, fun u h => mo6 u (mo5 u h), by omega, wf6⟩
      rcases List.mem_cons.mp hm with q | hm
      · exact hn (q ▸ .head _)
      rcases List.mem_cons.mp hm with q | hm
      · exact hn (q ▸ .tail _ (.head _))
      rcases List.mem_cons.mp hm with q | hm
      · exact (fr9 _ hb).1 q
      · exact (fr9 _ hb).2 (List.mem_singleton.mp hm)
    · refine tail_2 C (by assumption) (by assumption) (by assumption) ?g1 ?g2 ?g3 ?g4 F5 N5 G5 S5 hc5 hargs ?g5 ?_
      case g1 => (dsimp only [ktrTop]; omega)
      case g2 => (dsimp only [ktrTop]; omega)
      case g3 => (dsimp only [ktrTop]; omega)
      case g4 => (dsimp only [ktrTop]; omega)
      case g5 => omega
      intro tk6 h6 g6 tkk6 news6 kvs6 m6 F6 N6 G6 S6 wf6 kn6 x6 mo6 le6
      clear F9 N9 G9 F5 N5 G5
      repeat' (first
        | (k_unfold; (try dsimp only))
        | (walk1) | (dsimp only; walk1) | (leave1; (try dsimp only)) | fail "no step")
      refine hret _ _ _ _ _ (by assumption) (by assumption) G6 ⟨⟨_, rfl⟩, fun b o hb hn => (x5.trans x6) b o (x9 b o hb (by simp)) (fun hm => ?_), S6.tab, kvs6, S6.ps, kn6, fun u h => mo6 u (mo5 u h), by omega, wf6⟩
      rcases List.mem_cons.mp hm with q | hm
      · exact hn (q ▸ .head _)
      rcases List.mem_cons.mp hm with q | hm
      · exact hn (q ▸ .tail _ (.head _))
      rcases List.mem_cons.mp hm with q | hm
      · exact (fr9 _ hb).1 q
      · exact (fr9 _ hb).2 (List.mem_singleton.mp hm)
    · refine tail_3 C (by assumption) (by assumption) (by assumption) ?g1 ?g2 ?g3 ?g4 F5 N5 G5 S5 hc5 hargs ?g5 ?_
      case g1 => (dsimp only [ktrTop]; omega)
      case g2 => (dsimp only [ktrTop]; omega)
      case g3 => (dsimp only [ktrTop]; omega)
      case g4 => (dsimp only [ktrTop]; omega)
      case g5 => omega
      intro tk6 h6 g6 tkk6 news6 kvs6 m6 F6 N6 G6 S6 wf6 kn6 x6 mo6 le6
      clear F9 N9 G9 F5 N5 G5
      repeat' (first
        | (k_unfold; (try dsimp only))
        | (walk1) | (dsimp only; walk1) | (leave1; (try dsimp only)) | fail "no step")
      refine hret _ _ _ _ _ (by assumption) (by assumption) G6 ⟨⟨_, rfl⟩, fun b o hb hn => (x5.trans x6) b o (x9 b o hb (by simp)) (fun hm => ?_), S6.tab, kvs6, S6.ps, kn6, fun u h => mo6 u (mo5 u h), by omega, wf6⟩
      rcases List.mem_cons.mp hm with q | hm
      · exact hn (q ▸ .head _)
      rcases List.mem_cons.mp hm with q | hm
      · exact hn (q ▸ .tail _ (.head _))
      rcases List.mem_cons.mp hm with q | hm
      · exact (fr9 _ hb).1 q
      · exact (fr9 _ hb).2 (List.mem_singleton.mp hm)
    · cases hfew
end
end
section
open PySem PySem.W PyProof.Rows
open PySem.Calls PySem.Spec
set_option maxRecDepth 100000
set_option maxHeartbeats 8000000
/-! the law's def, in pieces -/
noncomputable def lawF (w : World) : (x : FnLit) ×' (fnAt (KH w) 200 = some (fnOf x.name x.qual x.params x.body x.scope x.dV x.kV x.doc x.pm x.an x.cdv x.ct)) := ⟨⟨"law", "law", _, _, _, _, _, _, _, _, _, _⟩, by with_unfolding_all rfl⟩
structure Law24 where
  s1 : Stmt
  s2 : Stmt
  s3 : Stmt
  s4 : Stmt
  s5 : Stmt
  s6 : Stmt
  s7 : Stmt
  s8 : Stmt
  s9 : Stmt
  s10 : Stmt
  s11 : Stmt
  s12 : Stmt
  s13 : Stmt
  s14 : Stmt
  s15 : Stmt
  s16 : Stmt
  s17 : Stmt
  s18 : Stmt
  s19 : Stmt
  s20 : Stmt
  s21 : Stmt
  s22 : Stmt
  s23 : Stmt
  s24 : Stmt
noncomputable def lawX (w : World) : (x : Law24) ×' ((lawF w).1.body = [x.s1, x.s2, x.s3, x.s4, x.s5, x.s6, x.s7, x.s8, x.s9, x.s10, x.s11, x.s12, x.s13, x.s14, x.s15, x.s16, x.s17, x.s18, x.s19, x.s20, x.s21, x.s22, x.s23, x.s24]) :=
  ⟨⟨_, _, _, _, _, _, _, _, _, _, _, _, _, _, _, _, _, _, _, _, _, _, _, _⟩, by with_unfolding_all rfl⟩
abbrev lwCl (a1 a2 a3 a4 : Addr) : List (Str × Addr) := [("more", a4), ("table", a3), ("cells", a2), ("script", a1)]
noncomputable abbrev lwEnv (w : World) (L fa : Addr) (cd : Value) (cl : List (Str × Addr)) : Env := envX (lawF w).1.qual (lawF w).1.scope L fa cd cl
noncomputable abbrev lwA (w : World) (dp un : Nat) (gd : Option (List Code)) (L fa : Addr) (cd : Value) (cl : List (Str × Addr)) (outer : List Env) : Around := ktrTop dp un gd (lawF w).1.qual (lawF w).1.scope L fa cd cl outer

theorem fold_m {M : Model} {A : Around} {α : Type} {t : Sem α} {Q : α → Shared → Prop} {E : Value → Shared → Prop} {s : Shared} {h₀ : Heap} {L : Addr} {m : Str → Option Value} (F : Fr h₀ L s.heap m)
    (h : let fm := m; Fr h₀ L s.heap fm → wpAny M A t Q E s) : wpAny M A t Q E s := h F
/-! the frame's names -/
theorem m_set {m : Str → Option Value} {x : Str} {v : Value} (h : m x = some v) : m = fun y => if y = x then some v else m y := by
  funext y
  by_cases e : y = x
  · rw [if_pos e, e]; exact h
  · rw [if_neg e]
theorem fr_set {h₀ h : Heap} {L : Addr} {m : Str → Option Value} {x : Str} {v : Value} (F : Fr h₀ L h m) (e : m x = some v) : Fr h₀ L h (fun y => if y = x then some v else m y) := m_set e ▸ F
theorem m_skip {m : Str → Option Value} {x y : Str} {v : Value} {w : Option Value} (n : ¬ y = x) (h : m y = some v) : (fun z => if z = x then w else m z) y = some v := (if_neg n).trans h
/-! the ledger: what is written, ahead of what is not -/
inductive okE (o : Obj) : Prop where
  | cell {v : Option Value} : o.data = .cell v → okE o
  | cl {T : String} : o.cls = .type T → T ≠ "dict" ∧ T ≠ "tuple" → okE o
theorem okE.id {o : Obj} (h : okE o) : okE o := h
theorem okE.ntup {o : Obj} (h : okE o) (vs : List Value) : o ≠ tup vs := fun e => by
  rcases h with h | ⟨h1, h2⟩
  · rw [e] at h; cases h
  · rw [e] at h1
    injection h1 with h1
    exact h2.2 h1.symm
inductive Sp (base : Led) : Led → Led → Prop where
  | nil : Sp base [] base
  | cons {p : Addr × Obj} {es news : Led} : okE p.2 → Sp base es news → Sp base (p :: es) (p :: news)
  | app {es : Led} : (∀ p ∈ es, okE p.2) → Sp base es (es ++ base)
theorem Sp.eq {base es news : Led} (x : Sp base es news) : news = es ++ base := by
  induction x with
  | nil => rfl
  | cons _ _ ih => rw [ih]; rfl
  | app _ => rfl
theorem Sp.ok {base es news : Led} (x : Sp base es news) : ∀ p ∈ es, okE p.2 := by
  induction x with
  | nil => intro p hp; cases hp
  | cons h _ ih =>
    intro p hp
    rcases List.mem_cons.mp hp with rfl | hp
    · exact h
    · exact ih p hp
  | app h => exact h
theorem Sp.base {base es news : Led} (x : Sp base es news) : ∀ p ∈ base, p ∈ news := fun p hp => by rw [x.eq]; exact List.mem_append_right _ hp
theorem PState.ne80 {h₀ h : Heap} {L : Addr} {n : Led} {P : Addr} {w : World} {kvs : List (Str × Value)} (N : News h₀ L h n) (S : PState RW w n P kvs) (T : Tab n) : P ≠ 80 := fun q => by
  obtain ⟨o, ho, es', ep', _, hdd, _⟩ := S.obj
  obtain ⟨ps, ht, _⟩ := T
  have e1 := (N _ ho).1
  have e2 := (N _ ht).1
  rw [q, e2] at e1
  injection e1 with e1
  have e1 : tabObj ps = o := e1
  rw [← e1] at hdd
  cases hdd
theorem okE.off {h₀ h : Heap} {L : Addr} {es base : Led} {P : Addr} {w : World} {kvs : List (Str × Value)} (N : News h₀ L h (es ++ base)) (S : PState RW w base P kvs) (T : Tab base) (ok : ∀ p ∈ es, okE p.2) : ∀ p ∈ es, p.1 ∉ [P, 80] := fun p hp hm => by
  have e := (N p (List.mem_append_left _ hp)).1
  rcases List.mem_cons.mp hm with q | hm
  · obtain ⟨o, ho, es', ep', hex, hdd, _⟩ := S.obj
    have e2 := (N _ (List.mem_append_right _ ho)).1
    rw [q, e2] at e
    injection e with e
    have e : o = p.2 := e
    rcases ok p hp with h1 | ⟨h1, h2⟩
    · rw [← e, hdd] at h1; cases h1
    · rw [← e, hex.1] at h1
      injection h1 with h1
      exact h2.1 h1.symm
  · have q := List.mem_singleton.mp hm
    obtain ⟨ps, ht, _⟩ := T
    have e2 := (N _ (List.mem_append_right _ ht)).1
    rw [q, e2] at e
    injection e with e
    have e : tabObj ps = p.2 := e
    rcases ok p hp with h1 | ⟨h1, _⟩ <;> rw [← e] at h1 <;> cases h1
def LPost (w : World) (P : Addr) (kvs : List (Str × Value)) (t : Tm) (K : Nat) (news news' : Led) (r : Value) : Prop :=
  (∃ tk', r = .str (txt t) tk') ∧ Ext [P, 80] news news' ∧ Tab news' ∧ ∃ kvs', PState RW w news' P kvs' ∧ known kvs' t ∧ (∀ u, known kvs u → known kvs' u) ∧ kvs'.length ≤ kvs.length + K ∧ wf t
def LTel (w : World) (f : Addr) (args : List Value) (lvl : Nat) (P : Addr) (kvs : List (Str × Value)) (t : Tm) (K : Nat) : Prop :=
  Tel w f args lvl (fun news => PState RW w news P kvs ∧ Tab news) (LPost w P kvs t K)
theorem law_use {w : World} {f : Addr} {args : List Value} {lvl : Nat} {P : Addr} {kvs : List (Str × Value)} {t : Tm} {K : Nat} (C : LTel w f args lvl P kvs t K)
    {mean : ExcName → Option Value} {mg mb : Str → Option Value} {dp un : Nat} {gd : Option (List Code)} {cn : Str} {cs : Scope} {a : Addr} {ccd : Value} {cl : List (Str × Addr)} {outer : List Env} {A₀ : Around} {base h₀ : Heap} {L : Addr} {m : Str → Option Value}
    {es bs news : Led} {s : Shared} {Q E : Value → Shared → Prop}
    (B : Below A₀ base outer h₀) (F : Fr h₀ L s.heap m) (X : (hd.heap_39 w.params).In h₀) (N : News h₀ L s.heap news) (T : Top topProg looseT mean mg mb h₀) (hk : cs.kind = .function) (hd : dp + lvl < recursionLimit) (hu : un + 8 * lvl < cLine) (hg : AllBare s.gens)
    (sp : Sp bs es news) (S : PState RW w bs P kvs) (tb : Tab bs)
    (ret : ∀ tk bs' kvs' h' tk' g', Fr h₀ L h' m → News h₀ L h' (es ++ bs') → AllBare g' → PState RW w bs' P kvs' → Tab bs' → known kvs' t → (∀ u, known kvs u → known kvs' u) → kvs'.length ≤ kvs.length + K → wf t → (∀ e ∈ es, ∀ q ∈ bs', q.1 ≠ e.1) → Q (.str (txt t) tk) { heap := h', gens := g', drawn := s.drawn, toks := tk', os := s.os }) :
    wpAny (model PySem.Challenge.rw_xl0011_01.row.prog w) (ktrTop dp un gd cn cs L a ccd cl outer) (call (.ref f) args) Q E s := by
  have e := sp.eq
  have ok := sp.ok
  subst e
  have hx : Ext [] bs (es ++ bs) := fun b o hb _ => List.mem_append_right _ hb
  refine tel_use C B F X N T hk hd hu hg ⟨S.ext hx (by simp) (by simp), tb.ext hx (by simp)⟩ fun r n' h' tk' g' F' N' G' P' => ?_
  obtain ⟨⟨tk, rfl⟩, x, tb', kvs', S', kn, mo, le, wf'⟩ := P'
  have off := okE.off N S tb ok
  have hes : ∀ p ∈ es, h'.get? p.1 = some p.2 := fun p hp => (N' _ (x _ _ (List.mem_append_left _ hp) (off p hp))).1
  have hX : Ext (es.map (·.1)) n' (n'.filter fun q => decide (q.1 ∉ es.map (·.1))) := fun b o hb hn => List.mem_filter.mpr ⟨hb, decide_eq_true hn⟩
  have nP : ∀ a ∈ [P, 80], a ∉ es.map (·.1) := fun a ha hm => by
    obtain ⟨p, hp, q⟩ := List.mem_map.mp hm
    exact off p hp (q ▸ ha)
  refine ret tk (n'.filter fun q => decide (q.1 ∉ es.map (·.1))) kvs' h' tk' g' F' (fun p hp => ?_) G' (S'.ext hX (nP _ (.head _)) fun b hb o ho vs e => ?_) (tb'.ext hX (nP _ (.tail _ (.head _)))) kn mo le wf' fun e he q hq => ?_
  · rcases List.mem_append.mp hp with hp | hp
    · exact N' _ (x _ _ (List.mem_append_left _ hp) (off p hp))
    · exact N' _ (List.mem_filter.mp hp).1
  · obtain ⟨p, hp, q⟩ := List.mem_map.mp hb
    have e1 := hes p hp
    have e2 := (N' _ ho).1
    have q : p.1 = b := q
    rw [q, e2] at e1
    exact (ok p hp).ntup vs ((Option.some.inj e1).symm.trans e)
  · have := (List.mem_filter.mp hq).2
    intro q2
    exact (of_decide_eq_true this) (List.mem_map.mpr ⟨e, he, q2.symm⟩)
theorem on_L {w : World} {P : Addr} {kvs : List (Str × Value)} (x y : Str) (f l : Tm) (tf tl : Tok) (ex : x = txt f) (ey : y = txt l) (hf : wf f) (hl : wf l) (kf : known kvs f) (kl : known kvs l) (hlen : f.size + l.size + 1 ≤ sizeLine) (hz : kvs.length ≤ sizeLine) :
    LTel w 183 [.str x tf, .str y tl, .ref P] 20 P kvs (.app f l) 1 := by
  intro mean mg mb dp un gd cn cs a ccd cl outer A₀ base h₀ L m news s Q E B F X N T hk hd hu hg hp hret
  refine on_telE (w := w) x y f l tf tl ex ey hf hl kf kl hlen hz mean mg mb dp un gd cn cs a ccd cl outer A₀ base h₀ L m news s Q E B F X N T hk hd hu hg hp.1 fun r news' h' tk' g' F' N' G' P' => hret r news' h' tk' g' F' N' G' ?_
  obtain ⟨p1, p2, kvs', p3, p4, p5, p6, p7⟩ := P'
  have n80 := PState.ne80 N hp.1 hp.2
  exact ⟨p1, p2.weaken (fun b hb => by rw [List.mem_singleton.mp hb]; exact .head _), hp.2.ext p2 (fun q => n80 (List.mem_singleton.mp q).symm), kvs', p3, p4, p5, p6, p7⟩
theorem w_L {w : World} {P : Addr} {x : Nat} {d m : Bool} (hx : okc x) {kvs : List (Str × Value)} (n y : Str) (t : Tm) (tx tt : Tok) (en : n = txt (.leaf x)) (ey : y = txt t) (hwf : wf t) (hkn : known kvs t) (h1 : 4 * t.size ≤ sizeLine) (h2 : kvs.length + 2 * t.size ≤ sizeLine) :
    LTel w 190 [.str n tx, .str y tt, .bool d, .bool m, .ref P] (30 + 2 * t.size) P kvs (without x d m t) (2 * t.size) := by
  subst en ey
  intro mean mg mb dp un gd cn cs a ccd cl outer A₀ base h₀ L m' news s Q E B F X N T hk hd hu hg hp hret
  refine w_all hx t hwf kvs tx tt hwf hkn h1 h2 mean mg mb dp un gd cn cs a ccd cl outer A₀ base h₀ L m' news s Q E B F X N T hk hd hu hg hp.1 fun r news' h' tk' g' F' N' G' P' => hret r news' h' tk' g' F' N' G' ?_
  obtain ⟨p1, p2, kvs', p3, p4, p5, p6, p7, _⟩ := P'
  have n80 := PState.ne80 N hp.1 hp.2
  exact ⟨p1, p2.weaken (fun b hb => by rw [List.mem_singleton.mp hb]; exact .head _), hp.2.ext p2 (fun q => n80 (List.mem_singleton.mp q).symm), kvs', p3, p4, p5, p6, p7⟩
theorem pl_L {w : World} {P : Addr} {kvs : List (Str × Value)} (y : Str) (t rt : Tm) (K : Nat) (tk : Tok) (ey : y = txt t) (hn : norm 8 t = some (rt, K)) (hwf : wf t) (hkn : known kvs t) (hz : lim + kvs.length + K + 10 ≤ sizeLine) :
    LTel w 195 [.str y tk, .ref P] 150 P kvs rt K := by
  subst ey
  exact plain_all 8 P kvs t rt K tk hn hwf hkn hz
/-! reach and strip, in the law's frame -/
theorem same_use {w : World} {f : Addr} {args : List Value} {lvl : Nat} {y : Str} (C : Tel w f args lvl (fun _ => True) (fun news news' r => (∃ nw, news' = nw ++ news) ∧ ∃ t, r = .str y t))
    {mean : ExcName → Option Value} {mg mb : Str → Option Value} {dp un : Nat} {gd : Option (List Code)} {cn : Str} {cs : Scope} {a : Addr} {ccd : Value} {cl : List (Str × Addr)} {outer : List Env} {A₀ : Around} {base h₀ : Heap} {L : Addr} {m : Str → Option Value}
    {news : Led} {s : Shared} {Q E : Value → Shared → Prop}
    (B : Below A₀ base outer h₀) (F : Fr h₀ L s.heap m) (X : (hd.heap_39 w.params).In h₀) (N : News h₀ L s.heap news) (T : Top topProg looseT mean mg mb h₀) (hk : cs.kind = .function) (hd : dp + lvl < recursionLimit) (hu : un + 8 * lvl < cLine) (hg : AllBare s.gens)
    (ret : ∀ tk h' tk' g', Fr h₀ L h' m → News h₀ L h' news → AllBare g' → Q (.str y tk) { heap := h', gens := g', drawn := s.drawn, toks := tk', os := s.os }) :
    wpAny (model PySem.Challenge.rw_xl0011_01.row.prog w) (ktrTop dp un gd cn cs L a ccd cl outer) (call (.ref f) args) Q E s :=
  tel_use C B F X N T hk hd hu hg True.intro fun r n' h' tk' g' F' N' G' P' => by
    obtain ⟨⟨nw, rfl⟩, tk, rfl⟩ := P'
    exact ret tk h' tk' g' F' (fun p hp => N' p (List.mem_append_right _ hp)) G'
end
section
open PySem PySem.W PyProof.Rows
open PySem.Calls PySem.Spec
set_option maxRecDepth 100000
set_option maxHeartbeats 8000000
inductive Pk (x : Addr × Obj) : Led → Led → Prop where
  | here {r : Led} : Pk x (x :: r) r
  | next {y : Addr × Obj} {l r : Led} : Pk x l r → Pk x (y :: l) (y :: r)
theorem Pk.mem {x : Addr × Obj} {l r : Led} (h : Pk x l r) : ∀ q ∈ x :: r, q ∈ l := by
  induction h with
  | here => exact fun q hq => hq
  | next _ ih =>
    intro q hq
    rcases List.mem_cons.mp hq with rfl | hq
    · exact .tail _ (ih _ (.head _))
    · rcases List.mem_cons.mp hq with rfl | hq
      · exact .head _
      · exact .tail _ (ih _ (.tail _ hq))
/-! for loops whose turns may touch the generators' table -/
inductive LwEnd (h₀ : Heap) (L : Addr) (dr : Drawn) (os : OsState) (I : Addr) (it : Obj) (rest : (Str → Option Value) → Led → Array GenState → Prop) : Shared → Prop where
  | mk {h' : Heap} {tk : Nat} {g' : Array GenState} {m' : Str → Option Value} {news' : Led} (F : Fr h₀ L h' m') (N : News h₀ L h' ((I, it) :: news')) (off : ∀ p ∈ news', p.1 ≠ I) (r : rest m' news' g') : LwEnd h₀ L dr os I it rest { heap := h', gens := g', drawn := dr, toks := tk, os := os }
/-- what holds ahead of a turn: i turns done, j to do -/
inductive FW (h₀ : Heap) (L I : Addr) (St : Nat → Heap → Prop) (S : Led → Prop) (n : Nat) (dr : Drawn) (os : OsState) (R : Nat → Nat → (Str → Option Value) → Led → Array GenState → Prop) : Nat → Shared → Prop where
  | mk {h : Heap} {tk : Nat} {g : Array GenState} {i j : Nat} {m : Str → Option Value} {news : Led} (e : i + j = n) (hst : St i h) (F : Fr h₀ L h m) (N : News h₀ L h news) (off : ∀ p ∈ news, p.1 ≠ I) (hS : S news) (r : R j i m news g) : FW h₀ L I St S n dr os R j { heap := h, gens := g, drawn := dr, toks := tk, os := os }
def LwRest (prog : Program) (w : World) (A : Around) (h₀ : Heap) (L : Addr) (env : Env) (x : Str) (body : List Stmt) (Q : Flow → Shared → Prop) (S : Led → Prop) (P : Nat → Value → Prop) (dr : Drawn) (os : OsState) (I : Addr) : Nat → Nat → (Str → Option Value) → Led → Array GenState → Prop
  | 0, _, m, news, g => ∀ h tk, Fr h₀ L h m → News h₀ L h news → Q .next { heap := h, gens := g, drawn := dr, toks := tk, os := os }
  | k + 1, i, m, news, g => ∀ v it h tk, P i v → okE it → Fr h₀ L h (fun y => if y = x then some v else m y) → News h₀ L h ((I, it) :: news) →
      wpAny (model prog w) A (execs body env) (fun f s' => match f with
        | .ret v => Q (.ret v) s'
        | .brk => Q .next s'
        | _ => LwEnd h₀ L dr os I it (fun m' n' g' => S n' ∧ LwRest prog w A h₀ L env x body Q S P dr os I k (i + 1) m' n' g') s') (fun _ _ => False) { heap := h, gens := g, drawn := dr, toks := tk, os := os }
section
variable {prog : Program} {w : World} {A : Around} {h₀ : Heap} {L : Addr} {x : Str} {body : List Stmt} {Q : Flow → Shared → Prop} {cn : Str} {cs : Scope} {a : Addr} {ccd : Value} {cl : List (Str × Addr)}
theorem for_walk {s : Shared} {px : Pos} {S : Led → Prop} {P : Nat → Value → Prop} {I : Addr} {fp : List Addr} {n : Nat} {St : Nat → Heap → Prop} {m : Str → Option Value} {news : Led}
    (W : Walks prog w A I fp [I] n P St) (hIo : ∀ i h, St i h → ∃ o, h.get? I = some o ∧ okE o)
    (hSt : ∀ i h h' o nw, St i h → h.get? I = some o → h'.get? I = some o → (∀ b o, h₀.get? b = some o → h'.get? b = some o) → News h₀ L h' nw → S nw → St i h')
    (hk : cs.kind = .function) (hx : (envX cn cs L a ccd cl).kindOf x = some .local) (hst : St 0 s.heap)
    (F : Fr h₀ L s.heap m) (N : News h₀ L s.heap news) (hIL : L ≠ I) (hI₀ : h₀.get? I = none) (off : ∀ p ∈ news, p.1 ≠ I) (hS : S news)
    (R : LwRest prog w A h₀ L (envX cn cs L a ccd cl) x body Q S P s.drawn s.os I n 0 m news s.gens) :
    codeAny (model prog w) A (.forLoop (.Name x px) (.ref I) body [] (envX cn cs L a ccd cl)) (fun r s' => match r with | .ok f => Q f s' | .error _ => False) s := by
  refine for_rule (FW h₀ L I St S n s.drawn s.os (LwRest prog w A h₀ L (envX cn cs L a ccd cl) x body Q S P s.drawn s.os I)) ?_ n (.mk (Nat.zero_add n) hst F N off hS R)
  intro k s' hI
  induction hI with
  | @mk h tk g i j m news e hst F N off hS R =>
  cases j with
  | succ j =>
    refine W.item i _ _ _ (e ▸ Nat.lt_add_of_pos_right (Nat.succ_pos j)) hst fun v h₂ tk₂ hPv hst₂ hk₂ => ?_
    obtain ⟨oI, heI, hok⟩ := hIo _ _ hst₂
    have F₂ : Fr h₀ L h₂ m := LCg.fr_but F hk₂ hIL hI₀
    have N₂ : News h₀ L h₂ ((I, oI) :: news) := fun p hp => by
      rcases List.mem_cons.mp hp with rfl | hp
      · exact ⟨heI, Ne.symm hIL, hI₀⟩
      · exact LCg.news_but N hk₂ off p hp
    refine wpAny_assign_Name (storeX_L F₂ N₂ (fun h₃ F₃ N₃ => ?_) hk hx)
    have eI := (N₃ (I, oI) (.head _)).1
    have hst₃ : St (i + 1) h₃ := hSt _ _ _ _ _ hst₂ heI eI F₃.keep (fun p hp => N₃ p (.tail _ hp)) hS
    refine wpAny_mono (R v oI h₃ _ hPv hok F₃ N₃) (fun f s₄ h₄ => ?_) fun _ _ e => e.elim
    have fin : LwEnd h₀ L s.drawn s.os I oI (fun m' n' g' => S n' ∧ LwRest prog w A h₀ L (envX cn cs L a ccd cl) x body Q S P s.drawn s.os I j (i + 1) m' n' g') s₄ → Less (FW h₀ L I St S n s.drawn s.os (LwRest prog w A h₀ L (envX cn cs L a ccd cl) x body Q S P s.drawn s.os I)) (j + 1) s₄ := fun z => by
      induction z with
      | mk F₄ N₄ off₄ r₄ => exact ⟨j, Nat.lt_succ_self j, .mk ((Nat.succ_add i j).trans e) (hSt _ _ _ _ _ hst₃ eI (N₄ (I, oI) (.head _)).1 F₄.keep (fun p hp => N₄ p (.tail _ hp)) r₄.1) F₄ (fun p hp => N₄ p (.tail _ hp)) off₄ r₄.1 r₄.2⟩
    cases f with
    | ret v => exact h₄
    | brk => exact h₄
    | next => exact fin h₄
    | cont => exact fin h₄
  | zero =>
    have hn : St n h := e ▸ hst
    refine W.done _ _ _ hn fun h₂ tk₂ hk₂ => ?_
    refine wpAny_execs_nil ?_
    exact R h₂ tk₂ (LCg.fr_but F hk₂ hIL hI₀) (LCg.news_but N hk₂ off)
/-- the loop ahead, its iterator made -/
def FLoop (prog : Program) (w : World) (A : Around) (env : Env) (x : Str) (px : Pos) (body : List Stmt) (Q : Flow → Shared → Prop) (it : Value) (s : Shared) : Prop :=
  codeAny (model prog w) A (.forLoop (.Name x px) it body [] env) (fun r s' => match r with | .ok f => Q f s' | .error _ => False) s
theorem for_x {env : Env} {px pos : Pos} {iter : Expr} {s : Shared} (h : wpAny (model prog w) A (eval iter env) (fun xv s₁ => wpAny (model prog w) A (pyIter xv) (fun it s₂ => FLoop prog w A env x px body Q it s₂) (fun _ _ => False) s₁) (fun _ _ => False) s)
    (hs : ∀ x, foldedSetIterable iter env x = pure x := by intro _; rfl) : wpAny (model prog w) A (exec (.For (.Name x px) iter body [] pos) env) Q (fun _ _ => False) s := by
  refine wpAny_For (hs := hs) ?_
  refine wpAny_mono h (fun xv s₁ h₁ => ?_) fun _ _ e => e.elim
  refine wpAny_mono h₁ (fun it s₂ h₂ => ?_) fun _ _ e => e.elim
  refine codeAny_mono h₂ fun r s' h₃ => ?_
  cases r with
  | ok f => exact h₃
  | error e => exact h₃.elim
theorem iter_l {s : Shared} {px : Pos} {m : Str → Option Value} {news : Led} {ax : Addr} {vs : List Value} {k : Nat} (hh : A.handled = none) (hk : cs.kind = .function) (hx : (envX cn cs L a ccd cl).kindOf x = some .local)
    (F : Fr h₀ L s.heap m) (N : News h₀ L s.heap news) (hm : (ax, ({ cls := .type "list", data := .seq vs.toArray k } : Obj)) ∈ news)
    (h : ∀ I, (∀ p ∈ news, p.1 < I) → LwRest prog w A h₀ L (envX cn cs L a ccd cl) x body Q (LCg.SrcAt h₀ ax vs.toArray) (fun i v => vs[i]? = some v) s.drawn s.os I vs.length 0 m news s.gens) :
    wpAny (model prog w) A (pyIter (.ref ax)) (fun it s₂ => FLoop prog w A (envX cn cs L a ccd cl) x px body Q it s₂) (fun _ _ => False) s := by
  have hl : s.heap.IsList ax vs.toArray := ⟨_, (N _ hm).1, rfl, _, rfl⟩
  have hlt : ax < s.heap.objs.size := Heap.lt_size (N _ hm).1
  refine wpAny_pyIter_list hl ?_
  have hR := h s.heap.objs.size fun p hp => Heap.lt_size (N p hp).1
  have hw : ∀ i v, vs.toArray[i]? = some v → vs[i]? = some v := fun i v e => by rw [List.getElem?_toArray] at e; exact e
  have W := Walks.list (prog := prog) (w := w) hh s.heap.objs.size ax (Nat.ne_of_lt hlt) vs.toArray
  have W' : Walks prog w A s.heap.objs.size [s.heap.objs.size, ax] [s.heap.objs.size] vs.length (fun i v => vs[i]? = some v) (fun i h => h.IsListIter s.heap.objs.size ax i ∧ h.IsList ax vs.toArray) :=
    { sub := W.sub, frame := W.frame, done := fun s Q E st => W.done s Q E st, self := W.self, item := fun i s Q E hi st hQ => W.item i s Q E hi st fun v h' tk hP => hQ v h' tk (hw _ _ hP) }
  exact for_walk W' (fun i h st => by obtain ⟨⟨o, e, c, _⟩, _⟩ := st; exact ⟨o, e, .cl c (by decide)⟩) LCg.list_st hk hx ⟨⟨_, Heap.get?_push_size _ rfl, rfl, rfl⟩, hl.push _⟩ (F.push _) (N.grown fun b o e => Heap.get?_push_of_some _ e) (Nat.ne_of_lt F.ns.lt) (next_is_new F)
    (fun p hp => Nat.ne_of_lt (Heap.lt_size (N p hp).1)) (.inr ⟨_, hm, rfl, _, rfl⟩) hR
theorem iter_r {s : Shared} {px : Pos} {m : Str → Option Value} {news : Led} {r : Addr} {lo hi : Int} {t u v : Tok} {n : Nat} (hh : A.handled = none) (hk : cs.kind = .function) (hx : (envX cn cs L a ccd cl).kindOf x = some .local)
    (F : Fr h₀ L s.heap m) (N : News h₀ L s.heap news) (hr : IsRange s.heap r lo hi 1 t u v) (hsm : Builtin.Range.small lo hi 1 = true) (hn : Builtin.Range.rangeSize lo hi 1 = ((n : Nat) : Int))
    (h : ∀ I, (∀ p ∈ news, p.1 < I) → LwRest prog w A h₀ L (envX cn cs L a ccd cl) x body Q (fun _ => True) (fun i v => ∃ t, v = .int (lo + (i : Int)) t) s.drawn s.os I n 0 m news s.gens) :
    wpAny (model prog w) A (pyIter (.ref r)) (fun it s₂ => FLoop prog w A (envX cn cs L a ccd cl) x px body Q it s₂) (fun _ _ => False) s := by
  refine wpAny_pyIter_range hr hsm ?_
  have hR := h s.heap.objs.size fun p hp => Heap.lt_size (N p hp).1
  refine for_walk (LCg.range_walks hh lo n) (fun i h st => ⟨_, st, .cl rfl (by decide)⟩) LCg.range_st hk hx ?_ (F.push _) (N.grown fun b o e => Heap.get?_push_of_some _ e) (Nat.ne_of_lt F.ns.lt) (next_is_new F)
    (fun p hp => Nat.ne_of_lt (Heap.lt_size (N p hp).1)) trivial hR
  have e : (s.heap.push { cls := .type "range_iterator", data := .fields #[rawInt lo, rawInt (Builtin.Range.rangeSize lo hi 1), rawInt 1] }).get? s.heap.objs.size = some { cls := .type "range_iterator", data := .fields #[rawInt lo, rawInt (Builtin.Range.rangeSize lo hi 1), rawInt 1] } := Heap.get?_push_size _ rfl
  rw [hn] at e
  show _ = some _
  rw [hn, show lo + ((0 : Nat) : Int) * 1 = lo by omega, show (n : Int) - ((0 : Nat) : Int) = n by omega]
  exact e
theorem iter_s {s : Shared} {px : Pos} {m : Str → Option Value} {news : Led} {y : Str} {t : Tok} (hh : A.handled = none) (hk : cs.kind = .function) (hx : (envX cn cs L a ccd cl).kindOf x = some .local) (hy : y.cps.all (· < 128) = true)
    (F : Fr h₀ L s.heap m) (N : News h₀ L s.heap news)
    (h : ∀ I, (∀ p ∈ news, p.1 < I) → LwRest prog w A h₀ L (envX cn cs L a ccd cl) x body Q (fun _ => True) (SignAt y) s.drawn s.os I y.cps.size 0 m news s.gens) :
    wpAny (model prog w) A (pyIter (.str y t)) (fun it s₂ => FLoop prog w A (envX cn cs L a ccd cl) x px body Q it s₂) (fun _ _ => False) s := by
  refine wpAny_pyIter_ascii hy ?_
  have hR := h s.heap.objs.size fun p hp => Heap.lt_size (N p hp).1
  exact for_walk (S := fun _ => True) (Walks.strAscii hh s.heap.objs.size y t) (fun i h st => by obtain ⟨o, e, c, _⟩ := st; exact ⟨o, e, .cl c (by decide)⟩)
    (fun i h h' o nw st e e' _ _ _ => by obtain ⟨o', q, r⟩ := st; rw [e] at q; cases q; exact ⟨o, e', r⟩) hk hx ⟨_, Heap.get?_push_size _ rfl, rfl, rfl⟩ (F.push _) (N.grown fun b o e => Heap.get?_push_of_some _ e) (Nat.ne_of_lt F.ns.lt) (next_is_new F)
    (fun p hp => Nat.ne_of_lt (Heap.lt_size (N p hp).1)) trivial hR
theorem LwRest.zero {S : Led → Prop} {P : Nat → Value → Prop} {dr : Drawn} {os : OsState} {I : Addr} {env : Env} {i : Nat} {m : Str → Option Value} {news : Led} {g : Array GenState}
    (h : ∀ h tk, Fr h₀ L h m → News h₀ L h news → Q .next { heap := h, gens := g, drawn := dr, toks := tk, os := os }) : LwRest prog w A h₀ L env x body Q S P dr os I 0 i m news g := h
theorem LwRest.succ {S : Led → Prop} {P : Nat → Value → Prop} {dr : Drawn} {os : OsState} {I : Addr} {env : Env} {k i : Nat} {m : Str → Option Value} {news : Led} {g : Array GenState}
    (h : ∀ v it h tk, P i v → okE it → Fr h₀ L h (fun y => if y = x then some v else m y) → News h₀ L h ((I, it) :: news) →
      wpAny (model prog w) A (execs body env) (fun f s' => match f with
        | .ret v => Q (.ret v) s'
        | .brk => Q .next s'
        | _ => LwEnd h₀ L dr os I it (fun m' n' g' => S n' ∧ LwRest prog w A h₀ L env x body Q S P dr os I k (i + 1) m' n' g') s') (fun _ _ => False) { heap := h, gens := g, drawn := dr, toks := tk, os := os }) : LwRest prog w A h₀ L env x body Q S P dr os I (k + 1) i m news g := h
theorem LwEnd.intro {dr : Drawn} {os : OsState} {I : Addr} {it : Obj} {rest : (Str → Option Value) → Led → Array GenState → Prop} {h' : Heap} {tk : Nat} {g' : Array GenState} {m' : Str → Option Value} {news news' : Led} (F : Fr h₀ L h' m') (N : News h₀ L h' news) (pk : Pk (I, it) news news') (off : ∀ p ∈ news', p.1 ≠ I) (r : rest m' news' g') :
    LwEnd h₀ L dr os I it rest { heap := h', gens := g', drawn := dr, toks := tk, os := os } := .mk F (fun p hp => N p (pk.mem p hp)) off r
end
theorem offA {l : Led} {I a : Addr} {o o2 : Obj} (h : ∀ p ∈ l, p.1 < I) (m : (a, o2) ∈ l) : (a, o).1 ≠ I := Nat.ne_of_lt (h (a, o2) m)
theorem offB {l : Led} {I a : Addr} {o it : Obj} (h : ∀ q ∈ l, @LT.lt Nat _ q.1 a) (m : (I, it) ∈ l) : (a, o).1 ≠ I := Nat.ne_of_gt (h _ m)
theorem offT {l bs : Led} {I : Addr} {it : Obj} (h : ∀ e ∈ l, ∀ q ∈ bs, q.1 ≠ e.1) (m : (I, it) ∈ l) : ∀ q ∈ bs, q.1 ≠ I := fun q hq => h _ m q hq
theorem offE {l es : Led} {I : Addr} (h : ∀ p ∈ l, p.1 < I) (m : ∀ q ∈ es, q ∈ l) : ∀ q ∈ es, q.1 ≠ I := fun q hq => Nat.ne_of_lt (h _ (m q hq))
noncomputable def fbody (s : Stmt) : List Stmt := match s with
  | .For _ _ b _ _ => b
  | _ => []
end
section
open PySem PySem.W PyProof.Rows
open PySem.Calls PySem.Spec
set_option maxRecDepth 100000
set_option maxHeartbeats 8000000
def numOf : Value → Int
  | .int n _ => n
  | _ => 0
theorem ints_of : ∀ {l : List Value}, (∀ v ∈ l, ∃ n t, v = .int n t) → IntsAre l (l.map numOf)
  | [], _ => .nil
  | v :: l, h => by
    obtain ⟨n, t, rfl⟩ := h v (.head _)
    exact .cons n t (ints_of fun v hv => h v (.tail _ hv))
theorem ints_mem : ∀ {vs : List Value} {ns : List Int}, IntsAre vs ns → ∀ v ∈ vs, ∃ n t, v = .int n t
  | _, _, .nil, v, h => by cases h
  | _, _, .cons n t r, v, h => by
    rcases List.mem_cons.mp h with rfl | h
    · exact ⟨n, t, rfl⟩
    · exact ints_mem r v h
theorem pick_ints {vs : List Value} {ns : List Int} (h : IntsAre vs ns) (a b c : Option Int) : IntsAre (slicePick vs.toArray a b c).toList ((slicePick vs.toArray a b c).toList.map numOf) := by
  refine ints_of fun v hv => ints_mem h v ?_
  unfold slicePick at hv
  simp only [List.mem_filterMap] at hv
  obtain ⟨i, _, e⟩ := hv
  have := Array.mem_of_getElem? e
  simpa using this
def sumOf (vs : List Value) (k : Int) : Int := ((slicePick vs.toArray (some k) none (some 3)).toList.map numOf).sum
theorem sum_pick {prog : Program} {w : World} {A : Around} {E : Value → Shared → Prop} {s : Shared} {h₀ : Heap} {L D : Addr} {m : Str → Option Value} {news : Led} {vs : List Value} {ns : List Int} {k : Int} {n : Nat} {Q : Value → Shared → Prop}
    (hh : A.handled = none) (F : Fr h₀ L s.heap m) (N : News h₀ L s.heap news) (hi : IntsAre vs ns) (hm : (D, ({ cls := .type "list", data := .seq (slicePick vs.toArray (some k) none (some 3)) n } : Obj)) ∈ news)
    (h : ∀ h' tk t', Fr h₀ L h' m → News h₀ L h' news → Q (.int (sumOf vs k) t') { s with heap := h', toks := tk }) : wpAny (model prog w) A (call (.builtin "sum") [.ref D]) Q E s :=
  LSm.sum_ints F N hh (vs := (slicePick vs.toArray (some k) none (some 3)).toList) ⟨_, (N _ hm).1, rfl, n, rfl⟩ (pick_ints hi _ _ _) h
theorem seg1 {w : World} {dp un : Nat} {gd : Option (List Code)} {outer : List Env} {A₀ : Around} {base h₀ : Heap} {L fa l a1 a2 a3 a4 : Addr} {cd : Value} {mean : ExcName → Option Value} {mg mb : Str → Option Value} {Q : Flow → Shared → Prop} {E : Value → Shared → Prop}
    (B : Below A₀ base outer h₀) (X : (hd.heap_39 w.params).In h₀) (T : Top topProg looseT mean mg mb h₀)
    {s : Shared} {u : Str → Option Value} {o1 o2 o3 o4 : Obj} {vs : List Value} {ns : List Int} (n0 : @LT.lt Nat _ 80 a1) (n1 : @LT.lt Nat _ a1 a2) (n2 : @LT.lt Nat _ a2 a3) (n3 : @LT.lt Nat _ a3 a4) (hl : h₀.IsList l vs.toArray) (hi : IntsAre vs ns) (hz : ns.length ≤ 63)
    (F : Fr h₀ L s.heap u) (N : News h₀ L s.heap [(a4, o4), (a3, o3), (a2, o2), (a1, o1), (80, tabObj #[])]) (d1 : o1.data = .cell (some (.ref l))) (d2 : o2.data = .cell none) (hg : AllBare s.gens)
    (next : ∀ D c0 c1 c2 t0 t1 t2 o2' h' tk', Fr h₀ L h' u → News h₀ L h' [(D, LCg.lst [.int c0 t0, .int c1 t1, .int c2 t2]), (a4, o4), (a3, o3), (a2, o2'), (a1, o1), (80, tabObj #[])] → o2'.data = .cell (some (.ref D)) → Q .next { heap := h', gens := s.gens, drawn := s.drawn, toks := tk', os := s.os }) :
    wpAny (model PySem.Challenge.rw_xl0011_01.row.prog w) (lwA w dp un gd L fa cd (lwCl a1 a2 a3 a4) outer) (execs [(lawX w).1.s1] (lwEnv w L fa cd (lwCl a1 a2 a3 a4))) Q E s := by
  unfold lawX lwA lwEnv lawF
  dsimp only
  revert X
  k_fill
  w_top off
  intro X
  try (refine fold_ctx ?_; intro M9 A9 e9)
  repeat' (first
    | (k_unfold; (try dsimp only))
    | ((with_reducible first | show wpAny _ _ (exec _ _) _ _ _ | show wpAny _ _ (isTrue _ _ _) _ _ _); (fail_if_success (with_reducible show wpAny _ _ _ Q8 _ _)); (with_reducible refine fold_q ?_); intro Q8 hQ8)
    | ((with_reducible refine hQ8 _ _ ?_); clear hQ8; (try dsimp only))
    | ((with_reducible show wpAny _ _ (eval (PySem.Expr.ListComp _ _ _ _) _) _ _ _); (k_here; k_dflt (refine LCg.ListComp_U (F₀ := by k_asm) (by with_unfolding_all rfl) (by decide) (by rfl) (by decide) (by rfl) ?_)))
    | ((with_reducible show wpAny _ _ (call (Value.builtin "sum") _) _ _ _); (k_here; k_dflt (refine' sum_pick ?k1 ?k2 ?k3 ?k4 ?k5 ?_; (case k1 => exact rfl); (case k2 | k3 => k_asm); (case k4 => assumption); (case k5 => k_mem); k_whole); intro h' tk' t' F' N'))
    | ((fail_if_success (with_reducible show wpAny _ _ _ _ _ _)); first
      | (k_here; k_dflt (refine LCg.CompSrc.range (by rfl) (by k_asm) (by k_asm) (by assumption) (by first | decide | rfl) (by first | rfl | decide) (by first | size_fits | exact Nat.le_of_ble_eq_true rfl) ?_; intro g'; lcg_lit))
      | (k_here; k_dflt (refine' LCg.CompEnd.intro ?F ?N _ ?sub ?off ?S ?_; (case off | F | N => assumption); (case sub => lcg_sub); (case S => exact True.intro)))
      | (with_unfolding_all first
        | (refine LCg.CompRest.succ ?_; intro v' I' oI' C' oC' D' m' h' tk' E' hv' hC' hx' F' N' off' ne'; obtain ⟨t9', hv9'⟩ := hv'; subst hv9')
        | refine LCg.CompRest.zero ?_)
      | fail "no own line")
    | (k_end; kc_close) | (k_end; wrow_close) | (walk1) | (dsimp only; walk1) | (leave1; (try dsimp only)) | fail "no step")
  exact next _ _ _ _ _ _ _ _ _ _ (by assumption) (by assumption) (by assumption)
end
section
open PySem PySem.W PyProof.Rows
open PySem.Calls PySem.Spec
set_option maxRecDepth 100000
set_option maxHeartbeats 8000000
theorem news_sub {h₀ h : Heap} {L : Addr} {n1 n2 : Led} (N : News h₀ L h n1) (k : ∀ q ∈ n2, q ∈ n1) : News h₀ L h n2 := fun q hq => N q (k q hq)
noncomputable def lawR (w : World) : (x : ForLit) ×' ((lawX w).1.s5 = .For x.tgt x.itr [x.b1, x.b2, x.b3] [] x.pos) := ⟨⟨_, _, _, _, _, _⟩, by with_unfolding_all rfl⟩
abbrev lo (vs : List Value) (n : Nat) : Obj := { cls := .type "list", data := .seq vs.toArray n }
theorem mod_p {prog : Program} {w : World} {A : Around} {E : Value → Shared → Prop} {s : Shared} {a b : Int} {t u : Tok} {p : Int} {Q : Value → Shared → Prop} (hb : b ≠ 0) (hp : a.fmod b = p) (h : ∀ t' k, Q (.int p t') { s with toks := k }) :
    wpAny (model prog w) A (binaryOp .Mod (.int a t) (.int b u)) Q E s := PyProof.Rows.mod_int' hb (by rw [hp]; exact h _ _)
theorem item_row {prog : Program} {w : World} {A : Around} {E : Value → Shared → Prop} {s : Shared} {h₀ : Heap} {L l : Addr} {news : Led} {value slice : PySem.Expr} {ys : List Value} {n : Nat} {k : Int} {u : Tok} {v : Value} {Q : Value → Shared → Prop} (N : News h₀ L s.heap news) (hm : (l, lo ys n) ∈ news) (h0 : 0 ≤ k) (hhi : k < 2 ^ 63) (hx : ys[k.toNat]? = some v)
    (hs : subscripted slice false (.ref l) (.int k u) = operate [.ref l, .int k u] (getItem (.ref l) (.int k u))) (h : Q v s) : wpAny (model prog w) A (subscriptTail value slice (.ref l) (.int k u)) Q E s :=
  item_litK (vs := ys) ⟨_, (N _ hm).1, rfl, _, rfl⟩ h0 hhi hx h hs
theorem fit1 {vs : List Value} {x : Value} {a b c : Option Int} (h : vs.length < 100) : (slicePick vs.toArray a b c).size + (#[x] : Array Value).size ≤ sizeLine := by
  have h1 : (slicePick vs.toArray a b c).size ≤ vs.length := slicePick_size_le vs.toArray a b c
  rw [sizeLine_eq]
  show (slicePick vs.toArray a b c).size + 1 ≤ _
  omega
theorem fit2 {vs : List Value} {x : Value} {a b c d e f : Option Int} (h : vs.length < 100) : ((slicePick vs.toArray a b c).toList ++ (#[x] : Array Value).toList).toArray.size + (slicePick vs.toArray d e f).size ≤ sizeLine := by
  have h1 : (slicePick vs.toArray a b c).size ≤ vs.length := slicePick_size_le vs.toArray a b c
  have h2 : (slicePick vs.toArray d e f).size ≤ vs.length := slicePick_size_le vs.toArray d e f
  rw [sizeLine_eq, List.size_toArray, List.length_append, Array.length_toList]
  show (slicePick vs.toArray a b c).size + 1 + (slicePick vs.toArray d e f).size ≤ _
  omega
theorem fdiv_p {prog : Program} {w : World} {A : Around} {E : Value → Shared → Prop} {s : Shared} {a b : Int} {t u : Tok} {Q : Value → Shared → Prop} (hb : b ≠ 0) (hpy : ∀ a, Builtin.divisionGoesByPylong a b = false) (h : ∀ t' k, Q (.int (a.fdiv b) t') { s with toks := k }) :
    wpAny (model prog w) A (binaryOp .FloorDiv (.int a t) (.int b u)) Q E s := PyProof.Rows.floordiv_int hb (h _ _) (.inl (hpy a))
theorem row_eq (vs : List Value) (x : Value) (p : Nat) (hp : p ≤ vs.length) : (((slicePick vs.toArray none (some (p : Int)) none).toList ++ (#[x] : Array Value).toList).toArray.toList ++ (slicePick vs.toArray (some ((p : Int) + 2)) none none).toList).toArray = (vs.take p ++ [x] ++ vs.drop (p + 2)).toArray := by
  have e1 := slicePick_upto vs.toArray p (by simpa using hp)
  have e2 := slicePick_from' vs.toArray (p + 2)
  rw [e1, show ((p : Int) + 2) = ((p + 2 : Nat) : Int) by omega, e2]
theorem add_row {prog : Program} {w : World} {A : Around} {E : Value → Shared → Prop} {s : Shared} {h₀ : Heap} {L l b : Addr} {m : Str → Option Value} {news : Led} {its its2 : Array Value} {n1 n2 : Nat} {Q : Value → Shared → Prop} (F : Fr h₀ L s.heap m) (N : News h₀ L s.heap news)
    (hl : (l, ({ cls := .type "list", data := .seq its n1 } : Obj)) ∈ news) (hb : (b, ({ cls := .type "list", data := .seq its2 n2 } : Obj)) ∈ news) (hz : its.size + its2.size ≤ sizeLine)
    (h : ∀ D h', Fr h₀ L h' m → News h₀ L h' ((D, { cls := .type "list", data := .seq (its.toList ++ its2.toList).toArray }) :: news) → (∀ p ∈ news, p.1 < D) → Q (.ref D) { s with heap := h' }) :
    wpAny (model prog w) A (binaryOp .Add (.ref l) (.ref b)) Q E s :=
  add_arrays F N ⟨_, (N _ hl).1, rfl, _, rfl⟩ ⟨_, (N _ hb).1, rfl, _, rfl⟩ (fun h' F' N' => h _ h' F' N' fun p hp => Heap.lt_size (N p hp).1) hz
local macro_rules | `(tactic| k_room) => `(tactic| ((try simp only [depth_under_make]); (try dsimp only [ktrTop, Around.deeper]); omega))
local macro_rules | `(tactic| k_mem) => `(tactic| (refine mem_skip ?_; k_mem))
theorem turn_w {w : World} {dp un : Nat} {gd : Option (List Code)} {outer : List Env} {A₀ : Around} {base h₀ : Heap} {L fa a1 a2 a3 a4 P R : Addr} {cd : Value} {mean : ExcName → Option Value} {mg mb : Str → Option Value} {es bs : Led} {kvs : List (Str × Value)} {Q : Flow → Shared → Prop} {E : Value → Shared → Prop}
    (B : Below A₀ base outer h₀) (X : (hd.heap_39 w.params).In h₀) (T : Top topProg looseT mean mg mb h₀) (hd : dp + 60 < recursionLimit) (hu : un + 480 < cLine)
    {s : Shared} {u : Str → Option Value} {n p : Nat} {size sh : Int} {vs : List Value} {f l : Tm} {tf tl ts tz : Tok} (hb : size ≠ 0) (hpy : ∀ a, Builtin.divisionGoesByPylong a size = false) (hp : sh.fmod size = (p : Int)) (hp9 : p < 100) (hvl : vs.length < 100) (hx0 : vs[((p : Nat) : Int).toNat]? = some (.str (txt f) tf)) (hx1 : vs[((p : Nat) + 1 : Int).toNat]? = some (.str (txt l) tl))
    (wff : wf f) (wfl : wf l) (knf : known kvs f) (knl : known kvs l) (hlen : f.size + l.size + 1 ≤ sizeLine) (hz : kvs.length ≤ sizeLine)
    (F : Fr h₀ L s.heap (fun y => if y = "size" then some (.int size tz) else if y = "row" then some (.ref R) else if y = "parts" then some (.ref P) else if y = "shape" then some (.int sh ts) else u y))
    (hes : ∀ q ∈ es, okE q.2) (N : News h₀ L s.heap ((R, lo vs n) :: (es ++ bs))) (S : PState RW w bs P kvs) (tb : Tab bs) (hg : AllBare s.gens)
    (next : ∀ (R' : Addr) (n' : Nat) (tk ts' : Tok) (bs' : Led) (kvs' : List (Str × Value)) (m' : Str → Option Value) (h' : Heap) (g' : Array GenState) (tkk : Nat), m' "shape" = some (.int (sh.fdiv size) ts') → m' "row" = some (.ref R') → m' "parts" = some (.ref P) → Fr h₀ L h' m' → News h₀ L h' ((R', lo (vs.take p ++ [.str (txt (.app f l)) tk] ++ vs.drop (p + 2)) n') :: (es ++ bs')) → AllBare g' → PState RW w bs' P kvs' → Tab bs' → known kvs' (.app f l) → (∀ u, known kvs u → known kvs' u) → kvs'.length ≤ kvs.length + 1 → (∀ q ∈ es, @LT.lt Nat _ q.1 R') → (∀ e ∈ es, ∀ q ∈ bs', q.1 ≠ e.1) → Q .next { heap := h', gens := g', drawn := s.drawn, toks := tkk, os := s.os }) :
    wpAny (model PySem.Challenge.rw_xl0011_01.row.prog w) (lwA w dp un gd L fa cd (lwCl a1 a2 a3 a4) outer) (execs [(lawR w).1.b1, (lawR w).1.b2, (lawR w).1.b3] (lwEnv w L fa cd (lwCl a1 a2 a3 a4))) Q E s := by
  unfold lawR lwA lwEnv lawF
  dsimp only
  revert X
  k_fill
  w_top off
  intro X
  try (refine fold_ctx ?_; intro M9 A9 e9)
  repeat' (first
    | (k_unfold; (try dsimp only))
    | ((with_reducible show wpAny _ _ (binaryOp PySem.Operator.Mod (Value.int _ _) (Value.int _ _)) _ _ _); (k_here; k_dflt (refine' mod_p ?k1 ?k2 ?_; (case k1 | k2 => assumption); k_whole); intro t9 k9))
    | ((with_reducible show wpAny _ _ (binaryOp PySem.Operator.Add (Value.ref _) (Value.ref _)) _ _ _); (k_here; k_dflt (refine' add_row ?k1 ?k2 ?k3 ?k4 ?k5 ?_; (case k1 | k2 => k_asm); (case k3 | k4 => k_mem); (case k5 => first | exact fit1 (by assumption) | exact fit2 (by assumption)); k_whole); intro D9 h9 F9 N9 l9))
    | ((with_reducible show wpAny _ _ (binaryOp PySem.Operator.FloorDiv (Value.int _ _) (Value.int _ _)) _ _ _); (k_here; k_dflt (refine' fdiv_p ?k1 ?k2 ?_; (case k1 | k2 => assumption); k_whole); intro t9 k9))
    | ((with_reducible show wpAny _ _ (call (Value.ref _) _) _ _ _); (k_here; k_dflt (refine' law_use (on_L _ _ _ _ _ _ ?ke1 ?ke2 ?kz1 ?kz2 ?kz3 ?kz4 ?kz5 ?kz6) ?k1 ?k2 ?k3 ?k4 ?k5 ?k6 ?k7 ?k8 ?k9 ?ksp ?kS ?kT ?_; (case k1 | k2 => k_asm); (case k3 | k4 | k5 => k_asm); (case k6 => exact rfl); (case k7 => ktr_room); (case k8 => ktr_units); (case k9 => assumption); (case ksp => (repeat' first | exact okE.id (by assumption) | exact okE.cell (by assumption) | exact okE.cl rfl (by decide) | refine' Sp.cons ?_ ?_ | exact Sp.app (by assumption) | exact Sp.nil)); (case kS | kT => assumption); (case ke1 | ke2 => exact rfl); (case kz1 | kz2 => assumption); (case kz3 | kz4 => assumption); (case kz5 | kz6 => omega)); intro tk9 bs9 kvs9 h9 tkk9 g9 F9 N9 G9 S9 T9 kn9 mo9 le9 wf9 of9; (try simp only [List.cons_append, List.nil_append] at N9)))
    | ((with_reducible show wpAny _ _ (subscriptTail _ _ _ _) _ _ _); (k_here; (with_reducible show wpAny _ _ (subscriptTail _ _ (Value.ref _) (Value.int _ _)) _ _ _); k_dflt (refine' item_row ?k0 ?k1 ?k2 ?k3 ?k4 ?k6 ?_; (case k0 => k_asm); (case k1 => k_mem); (case k4 => assumption); (case k2 | k3 => omega); (case k6 => with_unfolding_all rfl); k_whole)))
    | (walk1) | (dsimp only; walk1) | (leave1; (try dsimp only)) | fail "no step")
  rename News _ _ _ _ => N9
  have hpl : p ≤ vs.length := by
    apply Classical.byContradiction
    intro hp2
    rw [List.getElem?_eq_none (by omega)] at hx0
    cases hx0
  rw [row_eq vs _ p hpl] at N9
  refine' next _ _ _ _ _ _ _ _ _ _ ?r1 ?r2 ?r3 ?F ?N ?G ?S ?T ?k ?mo ?le ?lt ?of
  case F => assumption
  case r1 => exact rfl
  case r2 => exact rfl
  case r3 => exact rfl
  case S => assumption
  case N =>
    refine news_sub N9 fun q hq => ?_
    rcases List.mem_cons.mp hq with hq | hq
    · rw [hq]; exact .head _
    · exact .tail _ (.tail _ (.tail _ (.tail _ (.tail _ (.tail _ hq)))))
  case lt =>
    intro q hq
    have l8 := ‹∀ p : Addr × Obj, p ∈ _ → p.1 < _›
    exact l8 q (.tail _ (.tail _ (.tail _ (.tail _ (.tail _ (List.mem_append_left _ hq))))))
  case of =>
    have of8 := ‹∀ e : Addr × Obj, e ∈ _ → ∀ q : Addr × Obj, q ∈ _ → q.1 ≠ e.1›
    exact fun e he q hq => of8 e (.tail _ (.tail _ he)) q hq
  all_goals assumption
end
section
open PySem PySem.W PyProof.Rows
open PySem.Calls PySem.Spec
set_option maxRecDepth 100000
set_option maxHeartbeats 8000000
def sizes : List Tm → Nat
  | [] => 0
  | t :: r => t.size + sizes r
/-- a row of terms -/
structure Row (kvs : List (Str × Value)) (vs : List Value) (ts : List Tm) : Prop where
  all : All2 (fun v t => (∃ tk, v = .str (txt t) tk) ∧ wf t ∧ known kvs t) vs ts
  sz : sizes ts + ts.length ≤ 8
def fuse : Nat → List Tm → List Tm
  | 0, f :: l :: r => .app f l :: r
  | p + 1, t :: r => t :: fuse p r
  | _, ts => ts
theorem sizes_fuse : ∀ {p : Nat} {ts : List Tm}, p + 1 < ts.length → sizes (fuse p ts) + (fuse p ts).length = sizes ts + ts.length ∧ (fuse p ts).length + 1 = ts.length
  | 0, f :: l :: r, _ => by
    have e : fuse 0 (f :: l :: r) = .app f l :: r := rfl
    rw [e]
    refine ⟨?_, rfl⟩
    show (f.size + l.size + 1) + sizes r + (r.length + 1) = f.size + (l.size + sizes r) + (r.length + 1 + 1)
    omega
  | p + 1, t :: r, h => by
    obtain ⟨h1, h2⟩ := sizes_fuse (p := p) (ts := r) (by simp at h; omega)
    have e : fuse (p + 1) (t :: r) = t :: fuse p r := rfl
    rw [e]
    simp only [sizes, List.length_cons]
    omega
theorem sizes_get : ∀ {ts : List Tm} {p : Nat} {f l : Tm}, ts[p]? = some f → ts[p + 1]? = some l → f.size + l.size ≤ sizes ts
  | t :: r, 0, f, l, h1, h2 => by
    cases r with
    | nil => cases h2
    | cons t2 r =>
      cases h1; cases h2
      simp only [sizes]; omega
  | t :: r, p + 1, f, l, h1, h2 => by
    have := sizes_get (ts := r) (p := p) h1 h2
    simp only [sizes]; omega
theorem all2_get {R : Value → Tm → Prop} : ∀ {vs : List Value} {ts : List Tm} {p : Nat}, All2 R vs ts → p < ts.length → ∃ v t, vs[p]? = some v ∧ ts[p]? = some t ∧ R v t
  | _, _, 0, .cons a _, _ => ⟨_, _, rfl, rfl, a⟩
  | _, _, p + 1, .cons _ r, h => by
    obtain ⟨v, t, h1, h2, h3⟩ := all2_get (p := p) r (by simpa using h)
    exact ⟨v, t, h1, h2, h3⟩
theorem fuse_all {R R' : Value → Tm → Prop} {x : Value} {f l : Tm} (hx : R' x (.app f l)) (hR : ∀ v t, R v t → R' v t) : ∀ {vs : List Value} {ts : List Tm} {p : Nat}, All2 R vs ts → ts[p]? = some f → ts[p + 1]? = some l → All2 R' (vs.take p ++ [x] ++ vs.drop (p + 2)) (fuse p ts)
  | _, _, 0, .cons a (.cons b r), h1, h2 => by
    cases h1; cases h2
    exact .cons hx (go r)
  | _, _, 0, .cons a .nil, h1, h2 => by cases h2
  | _, _, p + 1, .cons a r, h1, h2 => .cons (hR _ _ a) (fuse_all hx hR r h1 h2)
where
  go : ∀ {vs : List Value} {ts : List Tm}, All2 R vs ts → All2 R' vs ts
  | _, _, .nil => .nil
  | _, _, .cons a r => .cons (hR _ _ a) (go r)
theorem Row.turn {kvs kvs' : List (Str × Value)} {vs : List Value} {ts : List Tm} {p : Nat} {f l : Tm} {tk : Tok} (r : Row kvs vs ts) (hp : p + 1 < ts.length) (h1 : ts[p]? = some f) (h2 : ts[p + 1]? = some l) (hw : wf (.app f l)) (hk : known kvs' (.app f l)) (mo : ∀ u, known kvs u → known kvs' u) :
    Row kvs' (vs.take p ++ [.str (txt (.app f l)) tk] ++ vs.drop (p + 2)) (fuse p ts) where
  all := fuse_all ⟨⟨_, rfl⟩, hw, hk⟩ (fun v t h => ⟨h.1, h.2.1, mo _ h.2.2⟩) r.all h1 h2
  sz := by
    have := (sizes_fuse hp).1
    have := r.sz
    omega
theorem turn_r {w : World} {dp un : Nat} {gd : Option (List Code)} {outer : List Env} {A₀ : Around} {base h₀ : Heap} {L fa a1 a2 a3 a4 P R : Addr} {cd : Value} {mean : ExcName → Option Value} {mg mb : Str → Option Value} {es bs : Led} {kvs : List (Str × Value)} {Q : Flow → Shared → Prop} {E : Value → Shared → Prop}
    (B : Below A₀ base outer h₀) (X : (hd.heap_39 w.params).In h₀) (T : Top topProg looseT mean mg mb h₀) (hd : dp + 60 < recursionLimit) (hu : un + 480 < cLine)
    {s : Shared} {m : Str → Option Value} {n p : Nat} {size sh : Int} {vs : List Value} {ts : List Tm} {tsh tz : Tok} (hb : size ≠ 0) (hpy : ∀ a, Builtin.divisionGoesByPylong a size = false) (hp : sh.fmod size = (p : Int)) (hpl : p + 1 < ts.length) (row : Row kvs vs ts) (hz : kvs.length ≤ sizeLine)
    (F : Fr h₀ L s.heap m) (m1 : m "size" = some (.int size tz)) (m2 : m "row" = some (.ref R)) (m3 : m "parts" = some (.ref P)) (m4 : m "shape" = some (.int sh tsh))
    (hes : ∀ q ∈ es, okE q.2) (N : News h₀ L s.heap ((R, lo vs n) :: (es ++ bs))) (S : PState RW w bs P kvs) (tb : Tab bs) (hg : AllBare s.gens)
    (next : ∀ (R' : Addr) (n' : Nat) (ts' : Tok) (vs' : List Value) (bs' : Led) (kvs' : List (Str × Value)) (m' : Str → Option Value) (h' : Heap) (g' : Array GenState) (tkk : Nat), m' "shape" = some (.int (sh.fdiv size) ts') → m' "row" = some (.ref R') → m' "parts" = some (.ref P) → Fr h₀ L h' m' → News h₀ L h' ((R', lo vs' n') :: (es ++ bs')) → AllBare g' → PState RW w bs' P kvs' → Tab bs' → Row kvs' vs' (fuse p ts) → kvs'.length ≤ kvs.length + 1 → (∀ q ∈ es, @LT.lt Nat _ q.1 R') → (∀ e ∈ es, ∀ q ∈ bs', q.1 ≠ e.1) → Q .next { heap := h', gens := g', drawn := s.drawn, toks := tkk, os := s.os }) :
    wpAny (model PySem.Challenge.rw_xl0011_01.row.prog w) (lwA w dp un gd L fa cd (lwCl a1 a2 a3 a4) outer) (execs [(lawR w).1.b1, (lawR w).1.b2, (lawR w).1.b3] (lwEnv w L fa cd (lwCl a1 a2 a3 a4))) Q E s := by
  obtain ⟨v0, f, hv0, ht0, ⟨tf, rfl⟩, wf0, kn0⟩ := all2_get (p := p) row.all (by omega)
  obtain ⟨v1, l, hv1, ht1, ⟨tl, rfl⟩, wf1, kn1⟩ := all2_get (p := p + 1) row.all (by omega)
  have hsz := sizes_get ht0 ht1
  have hr := row.sz
  have hvl := row.all.len
  refine turn_w (tz := tz) B X T hd hu hb hpy hp (by omega) (by omega) (by rw [Int.toNat_natCast]; exact hv0) (by rw [show ((p : Int) + 1).toNat = p + 1 by omega]; exact hv1) wf0 wf1 kn0 kn1 (by rw [sizeLine_eq]; omega) hz
    (fr_set (fr_set (fr_set (fr_set F m4) ?_) ?_) ?_) hes N S tb hg ?_
  · exact (if_neg (by decide)).trans m3
  · exact (if_neg (by decide)).trans ((if_neg (by decide)).trans m2)
  · exact (if_neg (by decide)).trans ((if_neg (by decide)).trans ((if_neg (by decide)).trans m1))
  · intro R' n' tk ts' bs' kvs' m' h' g' tkk q1 q2 q3 F' N' G' S' T' k' mo' le' lt' of'
    exact next R' n' ts' _ bs' kvs' m' h' g' tkk q1 q2 q3 F' N' G' S' T' (row.turn hpl ht0 ht1 ⟨wf0, wf1⟩ k' mo') le' lt' of'
end
section
open PySem PySem.W PyProof.Rows
open PySem.Calls PySem.Spec
set_option maxRecDepth 100000
set_option maxHeartbeats 8000000
def lt4 (i : Int) : Nat := match i.toNat with
  | 0 => 120
  | 1 => 121
  | 2 => 122
  | _ => 107
theorem xyzk : Str.ofString "xyzk" = S [120, 121, 122, 107] := by decide +kernel
theorem item_xyzk {i : Int} (h0 : 0 ≤ i) (h1 : i < 4) : Txt.item (Str.ofString "xyzk") i = txt (.leaf (lt4 i)) := by
  have h : i = 0 ∨ i = 1 ∨ i = 2 ∨ i = 3 := by omega
  rw [xyzk]
  rcases h with rfl | rfl | rfl | rfl <;> decide +kernel
theorem fm_lo (e : Int) {b : Int} (hb : 0 < b) : 0 ≤ e.fmod b := by rw [Int.fmod_eq_emod_of_nonneg e (Int.le_of_lt hb)]; exact Int.emod_nonneg _ (Int.ne_of_gt hb)
theorem fm_hi (e : Int) {b : Int} (hb : 0 < b) : e.fmod b < b := by rw [Int.fmod_eq_emod_of_nonneg e (Int.le_of_lt hb)]; exact Int.emod_lt_of_pos _ hb
theorem letter_item {prog : Program} {w : World} {A : Around} {E : Value → Shared → Prop} {s : Shared} {value slice : PySem.Expr} {t u : Tok} {e : Int} {Q : Value → Shared → Prop}
    (hs : subscripted slice false (.str (Str.ofString "xyzk") t) (.int (e.fmod 4) u) = operate [.str (Str.ofString "xyzk") t, .int (e.fmod 4) u] (getItem (.str (Str.ofString "xyzk") t) (.int (e.fmod 4) u)))
    (ht : ∀ r, letTemporaryGo value (.str (Str.ofString "xyzk") t) r = pure ())
    (h : ∀ t' k, Q (.str (txt (.leaf (lt4 (e.fmod 4)))) t') { s with toks := k }) : wpAny (model prog w) A (subscriptTail value slice (.str (Str.ofString "xyzk") t) (.int (e.fmod 4) u)) Q E s := by
  have h0 := fm_lo e (b := 4) (by decide)
  have h1 := fm_hi e (b := 4) (by decide)
  have hl : (Str.ofString "xyzk").length = 4 := by decide +kernel
  refine item_str (fitsSsize_of (N := 9223372036854775808) (by omega) (by omega) (Int.le_refl _)) (by rw [hl]; omega) (by rw [hl]; omega) (fun _ => ?_) hs ht
  rw [item_xyzk h0 h1]
  exact h _ _
def Lt (b : Nat) : Prop := b = 120 ∨ b = 121 ∨ b = 122 ∨ b = 107
theorem lt_lt4 (i : Int) : Lt (lt4 i) := by
  unfold lt4
  split
  · exact .inl rfl
  · exact .inr (.inl rfl)
  · exact .inr (.inr (.inl rfl))
  · exact .inr (.inr (.inr rfl))
theorem Lt.ok {b : Nat} (h : Lt b) : okc b := by
  rcases h with rfl | rfl | rfl | rfl <;> exact ⟨by decide, by decide⟩
theorem row4 {kvs : List (Str × Value)} {b0 b1 b2 b3 : Nat} {t0 t1 t2 t3 : Tok} (h0 : Lt b0) (h1 : Lt b1) (h2 : Lt b2) (h3 : Lt b3) : Row kvs [.str (txt (.leaf b0)) t0, .str (txt (.leaf b1)) t1, .str (txt (.leaf b2)) t2, .str (txt (.leaf b3)) t3] [.leaf b0, .leaf b1, .leaf b2, .leaf b3] where
  all := .cons ⟨⟨_, rfl⟩, h0.ok, trivial⟩ (.cons ⟨⟨_, rfl⟩, h1.ok, trivial⟩ (.cons ⟨⟨_, rfl⟩, h2.ok, trivial⟩ (.cons ⟨⟨_, rfl⟩, h3.ok, trivial⟩ .nil)))
  sz := Nat.le_refl 8
theorem pstate0 {w : World} {P : Addr} {oP : Obj} (h1 : (P == sysModules) = false) (h2 : oP.IsDictOf (strKind RW w) []) : PState RW w [(P, oP), (80, tabObj #[])] P [] where
  obj := ⟨oP, .head _, h2⟩
  lo := h1
  all := fun kv h => by cases h
theorem tab0 {P : Addr} {oP : Obj} : Tab [(P, oP), (80, tabObj #[])] := ⟨#[], .tail _ (.head _), trivial⟩
theorem seg2 {w : World} {dp un : Nat} {gd : Option (List Code)} {outer : List Env} {A₀ : Around} {base h₀ : Heap} {L fa a1 a2 a3 a4 D : Addr} {cd : Value} {mean : ExcName → Option Value} {mg mb : Str → Option Value} {Q : Flow → Shared → Prop} {E : Value → Shared → Prop}
    (B : Below A₀ base outer h₀) (X : (hd.heap_39 w.params).In h₀) (T : Top topProg looseT mean mg mb h₀)
    {s : Shared} {u : Str → Option Value} {o1 o2 o3 o4 : Obj} {c0 c1 c2 : Int} {t0 t1 t2 : Tok} (n0 : @LT.lt Nat _ 80 a1) (n1 : @LT.lt Nat _ a1 a2) (n2 : @LT.lt Nat _ a2 a3) (n3 : @LT.lt Nat _ a3 a4)
    (F : Fr h₀ L s.heap u) (N : News h₀ L s.heap [(D, LCg.lst [.int c0 t0, .int c1 t1, .int c2 t2]), (a4, o4), (a3, o3), (a2, o2), (a1, o1), (80, tabObj #[])]) (d2 : o2.data = .cell (some (.ref D))) (hg : AllBare s.gens)
    (next : ∀ (R P : Addr) (bs : Led) (vs : List Value) (n b0 b1 b2 b3 : Nat) (tsh : Tok) (m' : Str → Option Value) (h' : Heap) (tk' : Nat), m' "shape" = some (.int c1 tsh) → m' "row" = some (.ref R) → m' "parts" = some (.ref P) → Fr h₀ L h' m' →
      News h₀ L h' ((R, lo vs n) :: (D, LCg.lst [.int c0 t0, .int c1 t1, .int c2 t2]) :: (a4, o4) :: (a3, o3) :: (a2, o2) :: (a1, o1) :: bs) → PState RW w bs P [] → Tab bs → Row [] vs [.leaf b0, .leaf b1, .leaf b2, .leaf b3] → Lt b0 → Lt b1 → Lt b2 → Lt b3 →
      Q .next { heap := h', gens := s.gens, drawn := s.drawn, toks := tk', os := s.os }) :
    wpAny (model PySem.Challenge.rw_xl0011_01.row.prog w) (lwA w dp un gd L fa cd (lwCl a1 a2 a3 a4) outer) (execs [(lawX w).1.s2, (lawX w).1.s3, (lawX w).1.s4] (lwEnv w L fa cd (lwCl a1 a2 a3 a4))) Q E s := by
  unfold lawX lwA lwEnv lawF
  dsimp only
  revert X
  k_fill
  w_top off
  intro X
  try (refine fold_ctx ?_; intro M9 A9 e9)
  repeat' (first
    | (k_unfold; (try dsimp only))
    | ((with_reducible first | show wpAny _ _ (exec _ _) _ _ _ | show wpAny _ _ (isTrue _ _ _) _ _ _); (fail_if_success (with_reducible show wpAny _ _ _ Q8 _ _)); (with_reducible refine fold_q ?_); intro Q8 hQ8)
    | ((with_reducible refine hQ8 _ _ ?_); clear hQ8; (try dsimp only))
    | ((with_reducible show wpAny _ _ (exec (Stmt.Assign _ (PySem.Expr.ListComp _ _ _ _) _) _) _ _ _); (k_here; k_dflt (refine LCg.Assign_ListComp_U (F₀ := by k_asm) (by rfl) (by with_unfolding_all rfl) (by with_unfolding_all rfl) (by decide) (by rfl) (by decide) (by rfl) (by rfl) (by rfl) ?_)))
    | ((with_reducible show wpAny _ _ (eval (PySem.Expr.ListComp _ _ _ _) _) _ _ _); (k_here; k_dflt (refine LCg.ListComp_U (F₀ := by k_asm) (by with_unfolding_all rfl) (by decide) (by rfl) (by decide) (by rfl) ?_)))
    | ((with_reducible show wpAny _ _ (subscriptTail (PySem.Expr.Constant _ _ _) _ _ _) _ _ _); (k_here; (with_reducible show wpAny _ _ (subscriptTail _ _ (Value.str _ _) (Value.int _ _)) _ _ _); k_dflt (refine' letter_item ?k1 ?k2 ?_; (case k1 => with_unfolding_all rfl); (case k2 => intro _; with_unfolding_all rfl); k_whole); intro t9 k9))
    | ((fail_if_success (with_reducible show wpAny _ _ _ _ _ _)); first
      | (k_here; k_dflt (refine LCg.CompSrc.range (by rfl) (by k_asm) (by k_asm) (by assumption) (by first | decide | rfl) (by first | rfl | decide) (by first | size_fits | exact Nat.le_of_ble_eq_true rfl) ?_; intro g'; lcg_lit))
      | (k_here; k_dflt (refine' LCg.CompEnd.intro ?F ?N _ ?sub ?off ?S ?_; (case off | F | N => assumption); (case sub => lcg_sub); (case S => exact True.intro)))
      | (with_unfolding_all first
        | (refine LCg.CompRest.succ ?_; intro v' I' oI' C' oC' D' m' h' tk' E' hv' hC' hx' F' N' off' ne'; obtain ⟨t9', hv9'⟩ := hv'; subst hv9')
        | refine LCg.CompRest.zero ?_)
      | fail "no own line")
    | (k_end; kc_close) | (k_end; wrow_close) | (walk1) | (dsimp only; walk1) | (leave1; (try dsimp only)) | fail "no step")
  have N8 := ‹News h₀ L _ _›
  refine' next _ _ _ _ _ _ _ _ _ _ _ _ _ ?r1 ?r2 ?r3 ?F ?N (pstate0 (by assumption) (by assumption)) tab0 (row4 (lt_lt4 _) (lt_lt4 _) (lt_lt4 _) (lt_lt4 _)) (lt_lt4 _) (lt_lt4 _) (lt_lt4 _) (lt_lt4 _)
  case F => assumption
  case r1 => exact rfl
  case r2 => exact rfl
  case r3 => exact rfl
  case N =>
    refine news_sub N8 fun q hq => ?_
    revert q
    lcg_sub
end
section
open PySem PySem.W PyProof.Rows
open PySem.Calls PySem.Spec
set_option maxRecDepth 100000
set_option maxHeartbeats 8000000
theorem turn_q {w : World} {dp un : Nat} {gd : Option (List Code)} {outer : List Env} {A₀ : Around} {base h₀ : Heap} {L fa a1 a2 a3 a4 P R : Addr} {cd : Value} {mean : ExcName → Option Value} {mg mb : Str → Option Value} {es bs news rest : Led} {kvs : List (Str × Value)} {Q : Flow → Shared → Prop} {E : Value → Shared → Prop}
    (B : Below A₀ base outer h₀) (X : (hd.heap_39 w.params).In h₀) (T : Top topProg looseT mean mg mb h₀) (hd : dp + 60 < recursionLimit) (hu : un + 480 < cLine)
    {s : Shared} {m : Str → Option Value} {n p : Nat} {size sh : Int} {vs : List Value} {ts : List Tm} {tsh tz : Tok} (F : Fr h₀ L s.heap m) (m1 : m "size" = some (.int size tz)) (m2 : m "row" = some (.ref R)) (m3 : m "parts" = some (.ref P)) (m4 : m "shape" = some (.int sh tsh))
    (hb : size ≠ 0) (hpy : size.natAbs < 1073741824) (hp : sh.fmod size = (p : Int)) (row : Row kvs vs ts) (hpl : p + 1 < ts.length) (hz : kvs.length ≤ sizeLine)
    (N : News h₀ L s.heap news) (pk : Pk (R, lo vs n) news rest) (sp : Sp bs es rest) (S : PState RW w bs P kvs) (tb : Tab bs) (hg : AllBare s.gens)
    (next : ∀ (R' : Addr) (n' : Nat) (ts' : Tok) (vs' : List Value) (bs' : Led) (kvs' : List (Str × Value)) (m' : Str → Option Value) (h' : Heap) (g' : Array GenState) (tkk : Nat), m' "shape" = some (.int (sh.fdiv size) ts') → m' "row" = some (.ref R') → m' "parts" = some (.ref P) → Fr h₀ L h' m' → News h₀ L h' ((R', lo vs' n') :: (es ++ bs')) → AllBare g' → PState RW w bs' P kvs' → Tab bs' → Row kvs' vs' (fuse p ts) → kvs'.length ≤ kvs.length + 1 → (∀ q ∈ es, @LT.lt Nat _ q.1 R') → (∀ e ∈ es, ∀ q ∈ bs', q.1 ≠ e.1) → Q .next { heap := h', gens := g', drawn := s.drawn, toks := tkk, os := s.os }) :
    wpAny (model PySem.Challenge.rw_xl0011_01.row.prog w) (lwA w dp un gd L fa cd (lwCl a1 a2 a3 a4) outer) (execs [(lawR w).1.b1, (lawR w).1.b2, (lawR w).1.b3] (lwEnv w L fa cd (lwCl a1 a2 a3 a4))) Q E s := by
  have e := sp.eq
  have ok := sp.ok
  subst e
  exact turn_r B X T hd hu hb (fun a => PyProof.noPylong_small hpy) hp hpl row hz F m1 m2 m3 m4 ok (news_sub N pk.mem) S tb hg next
local macro_rules | `(tactic| k_mem) => `(tactic| (refine mem_skip ?_; k_mem))
theorem seg3 {w : World} {dp un : Nat} {gd : Option (List Code)} {outer : List Env} {A₀ : Around} {base h₀ : Heap} {L fa a1 a2 a3 a4 P R : Addr} {cd : Value} {mean : ExcName → Option Value} {mg mb : Str → Option Value} {bs : Led} {kvs : List (Str × Value)} {Q : Flow → Shared → Prop}
    (B : Below A₀ base outer h₀) (X : (hd.heap_39 w.params).In h₀) (T : Top topProg looseT mean mg mb h₀) (hd : dp + 60 < recursionLimit) (hu : un + 480 < cLine)
    {s : Shared} {u : Str → Option Value} {n p3 p2 : Nat} {sh : Int} {vs : List Value} {t1 t2 t3 t4 : Tm} {tsh : Tok} {es : Led} (hp3 : sh.fmod 3 = (p3 : Int)) (hp2 : (sh.fdiv 3).fmod 2 = (p2 : Int)) (hp1 : ((sh.fdiv 3).fdiv 2).fmod 1 = ((0 : Nat) : Int)) (h3 : p3 < 3) (h2 : p2 < 2) (row : Row kvs vs [t1, t2, t3, t4]) (hz : kvs.length + 10 ≤ sizeLine)
    (F : Fr h₀ L s.heap (fun y => if y = "shape" then some (.int sh tsh) else if y = "row" then some (.ref R) else if y = "parts" then some (.ref P) else u y))
    (hes : ∀ q ∈ es, okE q.2) (N : News h₀ L s.heap ((R, lo vs n) :: (es ++ bs))) (S : PState RW w bs P kvs) (tb : Tab bs) (hg : AllBare s.gens)
    (next : ∀ (R' : Addr) (n' : Nat) (vs' : List Value) (bs' : Led) (kvs' : List (Str × Value)) (m' : Str → Option Value) (h' : Heap) (g' : Array GenState) (tkk : Nat), m' "row" = some (.ref R') → m' "parts" = some (.ref P) → Fr h₀ L h' m' → News h₀ L h' ((R', lo vs' n') :: (es ++ bs')) → AllBare g' → PState RW w bs' P kvs' → Tab bs' → Row kvs' vs' (fuse 0 (fuse p2 (fuse p3 [t1, t2, t3, t4]))) → kvs'.length ≤ kvs.length + 3 → Q .next { heap := h', gens := g', drawn := s.drawn, toks := tkk, os := s.os }) :
    wpAny (model PySem.Challenge.rw_xl0011_01.row.prog w) (lwA w dp un gd L fa cd (lwCl a1 a2 a3 a4) outer) (execs [(lawX w).1.s5] (lwEnv w L fa cd (lwCl a1 a2 a3 a4))) Q (fun _ _ => False) s := by
  have f1 := (sizes_fuse (p := p3) (ts := [t1, t2, t3, t4]) (by simp; omega)).2
  have f2 := (sizes_fuse (p := p2) (ts := fuse p3 [t1, t2, t3, t4]) (by simp at f1; omega)).2
  simp only [List.length_cons, List.length_nil] at f1
  unfold lawX lwA lwEnv lawF
  dsimp only
  revert X
  k_fill
  w_top off
  intro X
  refine fold_ctx ?_
  intro M9 A9 e9
  repeat' (first
    | (k_unfold; (try dsimp only))
    | ((with_reducible show wpAny _ _ (exec (Stmt.For (PySem.Expr.Name _ _) (PySem.Expr.List _ _) _ _ _) _) _ _ _); (k_here; k_dflt (refine' for_x ?_ ?hs; (case hs => intro _; rfl); k_whole)); (try k_fold))
    | ((with_reducible show wpAny _ _ (execs (_ :: _) _) _ _ _); (k_here; k_dflt (refine' turn_q ?k1 ?k2 ?k3 ?k4 ?k5 ?F ?m1 ?m2 ?m3 ?m4 ?hb ?hpy ?hp ?row ?hpl ?hz ?N ?pk ?sp ?S ?tb ?hg ?_; (case k1 | k2 => k_asm); (case k3 | F => k_asm); (case m1 | m2 => first | exact rfl | exact m_skip (by decide) (by assumption)); (case m3 | m4 => first | exact rfl | exact m_skip (by decide) (by assumption)); (case hb | hpy => decide); (case hp => assumption); (case N => k_asm); (case pk => (repeat' first | exact Pk.here | refine' Pk.next ?_)); (case sp => (repeat' first | exact okE.id (by assumption) | exact okE.cell (by assumption) | exact okE.cl rfl (by decide) | refine' Sp.cons ?_ ?_ | exact Sp.app (by assumption) | exact Sp.nil)); (case S | row => assumption); (case hpl => ((try simp only [List.length_cons, List.length_nil]); omega)); (case hz => omega); (case tb | hg => assumption); (case k4 => ktr_room); (case k5 => ktr_units); k_whole); intro R9 n9 t9 vs9 bs9 kvs9 m9 h9 g9 tk9 q1 q2 q3 F9 N9 G9 S9 T9 row9 le9 lt9 of9; (try simp only [List.cons_append, List.nil_append] at N9)); (try k_fold))
    | ((with_reducible show wpAny _ _ (pyIter (Value.ref _)) _ _ _); (k_here; k_dflt (refine' iter_l ?hh ?hk ?hx ?F ?N ?hm ?_; (case hh | hk | hx => exact rfl); (case F | N => k_asm); (case hm => k_mem)); intro I9 l9); (try k_fold))
    | ((with_reducible show wpAny _ _ (eval (PySem.Expr.Call _ _ _ _) _) _ _ _); (k_here; (with_reducible show wpAny _ _ (eval (Expr.Call (Expr.Name _ _) (_ :: _) [] _) _) _ _ _); k_dflt (refine' call_args ?F ?X ?T ?e ?hf ?hb ?hk ?he ?A ?cs ?_; (case F | X | T => k_asm); (case hf | hb => rfl); (case e | hk => k_is); (case cs | he => rfl); (case A => (repeat' first | exact ArgsEv.nil | refine' ArgsEv.name (by rfl) (by rfl) (by rfl) ?_ | refine' ArgsEv.str ?_)); k_whole)); (try k_fold))
    | ((fail_if_success (with_reducible show wpAny _ _ _ _ _ _)); first
      | (k_here; k_dflt (refine' LwEnd.intro ?F ?N ?pk ?off ⟨?src, ?_⟩; (case F | N => k_asm); (case pk => (repeat' first | exact Pk.here | refine' Pk.next ?_)); (case off => (repeat' first | (refine List.forall_mem_cons.mpr ⟨?_, ?_⟩) | (refine List.forall_mem_append.mpr ⟨?_, ?_⟩) | exact List.forall_mem_nil _ | exact offA (by assumption) (by k_mem) | exact offB (by assumption) (by k_mem) | k_ne | exact offT (by assumption) (by k_mem) | (refine offE (by assumption) (fun q hq => ?_); repeat' first | exact List.mem_append_left _ hq | exact List.mem_append_right _ hq | refine List.mem_cons_of_mem _ ?_))); (case src => first | exact True.intro | exact Or.inr ⟨_, by k_mem, rfl, _, rfl⟩)))
      | (with_unfolding_all first | (refine LwRest.succ ?_; intro v9 it9 h9 tk9 hv9 ok9 F9 N9; (replace hv9 := Option.some.inj hv9.symm); subst hv9) | (refine LwRest.zero ?_; intro h9 tk9 F9 N9))
      | fail "no own line")
    | (walk1; (try k_fold)) | (dsimp only; walk1; (try k_fold)) | (leave1; (try dsimp only)) | fail "no step")
  have N8 := ‹News h₀ L _ _›
  refine' next _ _ _ _ _ _ _ _ _ ?r2 ?r3 ?F ?N ?G ?S ?T ?row ?le
  case F => assumption
  case r2 => assumption
  case r3 => assumption
  case S => assumption
  case T => assumption
  case row => assumption
  case G => assumption
  case N =>
    refine news_sub N8 fun q hq => ?_
    rcases List.mem_cons.mp hq with hq | hq
    · rw [hq]; exact .head _
    · exact .tail _ (.tail _ hq)
  case le => omega
end
section
open PySem PySem.W PyProof.Rows
open PySem.Calls PySem.Spec
set_option maxRecDepth 100000
set_option maxHeartbeats 8000000
/-! the menus -/
def nA (k : Nat) : Nat := match k with
  | 0 => 120 | 1 => 120 | 2 => 121 | 3 => 121 | _ => 122
def nB (k : Nat) : Nat := match k with
  | 0 => 121 | 1 => 122 | 2 => 120 | 3 => 122 | 4 => 120 | _ => 121
def nC (k : Nat) : Nat := match k with
  | 0 => 122 | 1 => 121 | 2 => 122 | 3 => 120 | 4 => 121 | _ => 120
abbrev nm (k : Nat) : List Nat := [nA k, nB k, nC k]
def hA (k : Nat) : Nat := match k with
  | 0 => 112 | 1 => 121 | _ => 122
def hB (k : Nat) : Nat := match k with
  | 0 => 113 | _ => 122
def hC (k : Nat) : Nat := match k with
  | 0 => 114 | 1 => 120 | _ => 121
abbrev th (k : Nat) : List Nat := [hA k, hB k, hC k]
def tq (k : Nat) : List Nat := match k with
  | 0 => [58, 58] | 1 => [58, 10] | _ => [10, 10, 58]
abbrev tl (k : Nat) : List Nat := tq k ++ 46 :: loc
theorem tail_tq (k : Nat) : Tail (tq k) := by
  unfold tq
  split
  · exact .t0
  · exact .t1
  · exact .t2
theorem menu_names {t0 t1 t2 t3 t4 t5 : Tok} : ∀ j, j < 6 → ∃ t, [Value.str (Str.ofString "xyz") t0, .str (Str.ofString "xzy") t1, .str (Str.ofString "yxz") t2, .str (Str.ofString "yzx") t3, .str (Str.ofString "zxy") t4, .str (Str.ofString "zyx") t5][j]? = some (.str (S (nm j)) t) := by
  have e0 : Str.ofString "xyz" = S (nm 0) := by decide +kernel
  have e1 : Str.ofString "xzy" = S (nm 1) := by decide +kernel
  have e2 : Str.ofString "yxz" = S (nm 2) := by decide +kernel
  have e3 : Str.ofString "yzx" = S (nm 3) := by decide +kernel
  have e4 : Str.ofString "zxy" = S (nm 4) := by decide +kernel
  have e5 : Str.ofString "zyx" = S (nm 5) := by decide +kernel
  rw [e0, e1, e2, e3, e4, e5]
  intro j hj
  rcases j with _ | _ | _ | _ | _ | _ | j
  · exact ⟨_, rfl⟩
  · exact ⟨_, rfl⟩
  · exact ⟨_, rfl⟩
  · exact ⟨_, rfl⟩
  · exact ⟨_, rfl⟩
  · exact ⟨_, rfl⟩
  · omega
theorem menu_tails {t0 t1 t2 : Tok} : ∀ j, j < 3 → ∃ t, [Value.str (Str.ofString "::.local") t0, .str (Str.ofString ":\n.local") t1, .str (Str.ofString "\n\n:.local") t2][j]? = some (.str (S (tl j)) t) := by
  have e0 : Str.ofString "::.local" = S (tl 0) := by decide +kernel
  have e1 : Str.ofString ":\n.local" = S (tl 1) := by decide +kernel
  have e2 : Str.ofString "\n\n:.local" = S (tl 2) := by decide +kernel
  rw [e0, e1, e2]
  intro j hj
  rcases j with _ | _ | _ | j
  · exact ⟨_, rfl⟩
  · exact ⟨_, rfl⟩
  · exact ⟨_, rfl⟩
  · omega
theorem menu_things {t0 t1 t2 : Tok} : ∀ j, j < 3 → ∃ t, [Value.str (Str.ofString "pqr") t0, .str (Str.ofString "yzx") t1, .str (Str.ofString "zzy") t2][j]? = some (.str (S (th j)) t) := by
  have e0 : Str.ofString "pqr" = S (th 0) := by decide +kernel
  have e1 : Str.ofString "yzx" = S (th 1) := by decide +kernel
  have e2 : Str.ofString "zzy" = S (th 2) := by decide +kernel
  rw [e0, e1, e2]
  intro j hj
  rcases j with _ | _ | _ | j
  · exact ⟨_, rfl⟩
  · exact ⟨_, rfl⟩
  · exact ⟨_, rfl⟩
  · omega
section
variable {prog : Program} {w : World} {A : Around} {E : Value → Shared → Prop} {s : Shared} {h₀ : Heap} {L l D : Addr} {m : Str → Option Value} {news : Led}
theorem item_menu {value slice : PySem.Expr} {ys : List Value} {n0 n : Nat} {f : Nat → List Nat} {i : Int} {u : Tok} {Q : Value → Shared → Prop} (N : News h₀ L s.heap news) (hm : (l, lo ys n0) ∈ news) (h0 : 0 ≤ i) (h1 : i < (n : Int)) (hn : n < 100)
    (H : ∀ j, j < n → ∃ t, ys[j]? = some (.str (S (f j)) t)) (hs : subscripted slice false (.ref l) (.int i u) = operate [.ref l, .int i u] (getItem (.ref l) (.int i u))) (h : ∀ t, Q (.str (S (f i.toNat)) t) s) : wpAny (model prog w) A (subscriptTail value slice (.ref l) (.int i u)) Q E s := by
  obtain ⟨t, e⟩ := H i.toNat (by omega)
  exact item_row N hm h0 (by omega) e hs (h t)
theorem list_str3 {a b c : Nat} {t : Tok} {Q : Value → Shared → Prop} (hh : A.handled = none) (F : Fr h₀ L s.heap m) (N : News h₀ L s.heap news)
    (h : ∀ D t1 t2 t3 k h' tk, Fr h₀ L h' m → News h₀ L h' ((D, lo [.str (S [a]) t1, .str (S [b]) t2, .str (S [c]) t3] k) :: news) → (∀ p ∈ news, p.1 < D) → Q (.ref D) { s with heap := h', toks := tk }) :
    wpAny (model prog w) A (call (.type "list") [.str (S [a, b, c]) t]) Q E s := by
  refine call_list_str hh (S [a, b, c]) t (fun h' tk acc c' hk hS hacc => ?_) (by show 3 ≤ _; rw [sizeLine_eq]; decide)
  obtain ⟨hsz, hit⟩ := hacc
  have hsz : acc.size = 3 := hsz
  have hl : acc.toList.length = 3 := by simpa using hsz
  obtain ⟨v0, v1, v2, e⟩ : ∃ v0 v1 v2, acc.toList = [v0, v1, v2] := by
    rcases hq : acc.toList with _ | ⟨v0, _ | ⟨v1, _ | ⟨v2, _ | ⟨v3, r⟩⟩⟩⟩
    · rw [hq] at hl; cases hl
    · rw [hq] at hl; cases hl
    · rw [hq] at hl; cases hl
    · exact ⟨v0, v1, v2, rfl⟩
    · rw [hq] at hl; simp at hl
  have g : ∀ j v, [v0, v1, v2][j]? = some v → SignAt (S [a, b, c]) j v := fun j v hj => hit j v (by rw [← e] at hj; simpa using hj)
  obtain ⟨x0, y0, z0, rfl⟩ := g 0 v0 rfl
  obtain ⟨x1, y1, z1, rfl⟩ := g 1 v1 rfl
  obtain ⟨x2, y2, z2, rfl⟩ := g 2 v2 rfl
  cases Option.some.inj z0
  cases Option.some.inj z1
  cases Option.some.inj z2
  have F' := F.keeps hk
  have ea : acc = [Value.str (S [a]) y0, .str (S [b]) y1, .str (S [c]) y2].toArray := by rw [show acc = acc.toList.toArray by simp, e]; rfl
  rw [ea] at hS
  have hD₀ : h₀.get? s.heap.objs.size = none := by
    cases e : h₀.get? s.heap.objs.size with
    | none => rfl
    | some o => exact absurd (Heap.lt_size (F.keep _ _ e)) (Nat.lt_irrefl _)
  refine h s.heap.objs.size y0 y1 y2 c' h' tk F' (fun p hp => ?_) fun p hp => Heap.lt_size (N p hp).1
  rcases List.mem_cons.mp hp with rfl | hp
  · exact ⟨hS, Nat.ne_of_gt F.ns.lt, hD₀⟩
  · exact ⟨hk _ _ (N p hp).1, (N p hp).2⟩
theorem add_lo {xs ys : List Value} {b : Addr} {n1 n2 : Nat} {Q : Value → Shared → Prop} (F : Fr h₀ L s.heap m) (N : News h₀ L s.heap news) (hl : (l, lo xs n1) ∈ news) (hb : (b, lo ys n2) ∈ news) (hz : xs.length + ys.length < 100)
    (h : ∀ D h', Fr h₀ L h' m → News h₀ L h' ((D, lo (xs ++ ys) 0) :: news) → (∀ p ∈ news, p.1 < D) → Q (.ref D) { s with heap := h' }) :
    wpAny (model prog w) A (binaryOp .Add (.ref l) (.ref b)) Q E s :=
  add_row F N hl hb (by rw [sizeLine_eq, List.size_toArray, List.size_toArray]; omega) h
theorem join4 {a b c d : List Nat} {its : List Value} {n : Nat} {t : Tok} {Q : Value → Shared → Prop} (N : News h₀ L s.heap news) (hm : (D, lo its n) ∈ news) (hi : StrsAre its [S a, S b, S c, S d]) (hz : a.length + b.length + c.length + d.length + 4 ≤ 16777216)
    (h : ∀ t' k, Q (.str (S (a ++ 46 :: (b ++ 46 :: (c ++ 46 :: d)))) t') { s with toks := k }) : wpAny (model prog w) A (call (.builtin "str.join") [.str (Str.ofString ".") t, .ref D]) Q E s := by
  refine join_list ⟨_, (N _ hm).1, rfl, n, rfl⟩ hi ?_ ?_
  · rw [o_dot]
    simp only [List.map_cons, List.map_nil, List.sum_cons, List.sum_nil, S_len, List.length_cons, List.length_nil]
    omega
  · intro t' k
    have e : Txt.join (Str.ofString ".") [S a, S b, S c, S d] = S (a ++ 46 :: (b ++ 46 :: (c ++ 46 :: d))) := by
      rw [o_dot]
      apply Str.ext'
      show a.toArray ++ [46].toArray ++ b.toArray ++ [46].toArray ++ c.toArray ++ [46].toArray ++ d.toArray = (a ++ 46 :: (b ++ 46 :: (c ++ 46 :: d))).toArray
      simp
    rw [e]; exact h t' k
theorem add_S {a b : List Nat} {t u : Tok} {Q : Value → Shared → Prop} (hz : (a ++ b).length ≤ sizeLine) (h : ∀ t' k, Q (.str (S (a ++ b)) t') { s with toks := k }) : wpAny (model prog w) A (binaryOp .Add (.str (S a) t) (.str (S b) u)) Q E s :=
  PyProof.Rows.add_str (fun t' k => by rw [S_app]; exact h t' k) (by rw [← Str.length_append, S_app, S_len]; exact hz)
end
end
section
open PySem PySem.W PyProof.Rows
open PySem.Calls PySem.Spec
set_option maxRecDepth 100000
set_option maxHeartbeats 8000000
abbrev nameL (k : Nat) (B : List Nat) : List Nat := [nA k] ++ 46 :: ([nB k] ++ 46 :: ([nC k] ++ 46 :: B))
theorem tq_len (k : Nat) : (tq k).length ≤ 3 := by
  unfold tq
  split <;> decide
theorem seg4 {w : World} {dp un : Nat} {gd : Option (List Code)} {outer : List Env} {A₀ : Around} {base h₀ : Heap} {L fa a1 a2 a3 a4 P R D : Addr} {cd : Value} {mean : ExcName → Option Value} {mg mb : Str → Option Value} {bs : Led} {Q : Flow → Shared → Prop}
    (B : Below A₀ base outer h₀) (X : (hd.heap_39 w.params).In h₀) (T : Top topProg looseT mean mg mb h₀) (hd : dp + 60 < recursionLimit) (hu : un + 480 < cLine)
    {s : Shared} {u : Str → Option Value} {n : Nat} {t : Tm} {tk t0 t1 t2 : Tok} {c0 c1 c2 : Int} {o1 o2 o3 o4 : Obj} (hsz : (enc t).length ≤ 8) (hz : (nameL ((c0.fmod 6).toNat) (enc t) ++ tl (((c0.fdiv 12).fmod 3).toNat)).length ≤ sizeLine)
    (F : Fr h₀ L s.heap (fun y => if y = "row" then some (.ref R) else if y = "parts" then some (.ref P) else u y)) (d2 : o2.data = .cell (some (.ref D)))
    (N : News h₀ L s.heap ((R, lo [.str (txt t) tk] n) :: (D, LCg.lst [.int c0 t0, .int c1 t1, .int c2 t2]) :: (a4, o4) :: (a3, o3) :: (a2, o2) :: (a1, o1) :: bs)) (hg : AllBare s.gens)
    (next : ∀ (Nm Tl : Addr) (x1 x2 x3 y1 y2 y3 z1 z2 z3 z4 z5 : Tok) (n1 n2 : Nat) (m' : Str → Option Value) (h' : Heap) (tkk : Nat), m' "body" = some (.str (S (enc t)) z1) → m' "names" = some (.ref Nm) → m' "drop" = some (.bool ((c0.fdiv 6).fmod 2 == 1)) → m' "tails" = some (.ref Tl) → m' "first" = some (.int ((c0.fdiv 12).fmod 3) z2) →
      m' "things" = some (.str (S (th ((c0.fdiv 36).fmod 3).toNat)) z3) → m' "name" = some (.str (S (nameL ((c0.fmod 6).toNat) (enc t))) z4) → m' "host" = some (.str (S (nameL ((c0.fmod 6).toNat) (enc t) ++ tl (((c0.fdiv 12).fmod 3).toNat))) z5) → m' "parts" = some (.ref P) → Fr h₀ L h' m' →
      News h₀ L h' ((Nm, lo [.str (S [nA (c0.fmod 6).toNat]) x1, .str (S [nB (c0.fmod 6).toNat]) x2, .str (S [nC (c0.fmod 6).toNat]) x3] n1) :: (Tl, lo [.str (Str.ofString "::.local") y1, .str (Str.ofString ":\n.local") y2, .str (Str.ofString "\n\n:.local") y3] n2) :: (a4, o4) :: (a3, o3) :: bs) →
      Q .next { heap := h', gens := s.gens, drawn := s.drawn, toks := tkk, os := s.os }) :
    wpAny (model PySem.Challenge.rw_xl0011_01.row.prog w) (lwA w dp un gd L fa cd (lwCl a1 a2 a3 a4) outer) (execs [(lawX w).1.s6, (lawX w).1.s7, (lawX w).1.s8, (lawX w).1.s9, (lawX w).1.s10, (lawX w).1.s11, (lawX w).1.s12, (lawX w).1.s13] (lwEnv w L fa cd (lwCl a1 a2 a3 a4))) Q (fun _ _ => False) s := by
  rw [S_txt] at N
  unfold lawX lwA lwEnv lawF
  dsimp only
  revert X
  k_fill
  w_top off
  intro X
  refine fold_ctx ?_
  intro M9 A9 e9
  repeat' (first
    | (k_unfold; (try dsimp only))
    | ((with_reducible show wpAny _ _ (subscriptTail (PySem.Expr.Name _ _) (PySem.Expr.Name _ _) (Value.ref _) _) _ _ _); (k_here; (with_reducible show wpAny _ _ (subscriptTail _ _ (Value.ref _) (Value.int (Int.fmod _ _) _)) _ _ _); k_dflt (refine' item_menu ?k0 ?k1 ?k2 ?k3 ?k5 ?H ?k6 ?_; (case k0 => k_asm); (case k1 => k_mem); (case H => first | exact menu_names | exact menu_tails | exact menu_things); (case k2 => exact fm_lo _ (by decide)); (case k3 => exact fm_hi _ (by decide)); (case k5 => decide); (case k6 => with_unfolding_all rfl); k_whole); intro t9); (try k_fold))
    | ((with_reducible show wpAny _ _ (subscriptTail (PySem.Expr.Name _ _) (PySem.Expr.Constant _ _ _) (Value.ref _) _) _ _ _); (k_here; (with_reducible show wpAny _ _ (subscriptTail _ _ (Value.ref _) (Value.int _ _)) _ _ _); k_dflt (refine' item_row ?k0 ?k1 ?k2 ?k3 ?k4 ?k6 ?_; (case k0 => k_asm); (case k1 => k_mem); (case k4 => exact rfl); (case k2 | k3 => decide); (case k6 => with_unfolding_all rfl); k_whole)); (try k_fold))
    | ((with_reducible show wpAny _ _ (binaryOp PySem.Operator.Add (Value.str _ _) (Value.str _ _)) _ _ _); (k_here; k_dflt (refine' add_S ?k1 ?_; (case k1 => assumption); k_whole); intro t9 k9); (try k_fold))
    | ((with_reducible show wpAny _ _ (binaryOp PySem.Operator.Add (Value.ref _) (Value.ref _)) _ _ _); (k_here; k_dflt (refine' add_lo ?k1 ?k2 ?k3 ?k4 ?k5 ?_; (case k1 | k2 => k_asm); (case k3 | k4 => k_mem); (case k5 => (simp only [List.length_cons, List.length_nil]; omega)); k_whole); intro D9 h9 F9 N9 l9; (try simp only [List.cons_append, List.nil_append] at N9)); (try k_fold))
    | ((with_reducible show wpAny _ _ (call (Value.builtin "str.join") _) _ _ _); (k_here; k_dflt (refine' join4 ?k1 ?k2 ?k3 ?k4 ?_; (case k1 => k_asm); (case k2 => k_mem); (case k3 => exact StrsAre.cons _ _ (StrsAre.cons _ _ (StrsAre.cons _ _ (StrsAre.cons _ _ StrsAre.nil)))); (case k4 => (simp only [List.length_cons, List.length_nil]; omega)); k_whole); intro t9 k9); (try k_fold))
    | ((with_reducible show wpAny _ _ (execs (_ :: _) _) _ _ _); (k_here; (with_reducible refine wpAny_execs_cons ?_); (try dsimp only); (try k_fold); (try (refine fold_fn (by k_asm) (by k_asm) ?_; intro led9 fm9 F9 N9))); (try k_fold))
    | ((with_reducible show wpAny _ _ (call (Value.type "list") _) _ _ _); (k_here; (with_reducible show wpAny _ _ (call (Value.type _) [Value.str _ _]) _ _ _); k_dflt (refine' list_str3 ?k0 ?k1 ?k2 ?_; (case k0 => exact rfl); (case k1 | k2 => k_asm); k_whole); intro D9 t1 t2 t3 k9 h9 tk9 F9 N9 l9); (try k_fold))
    | ((with_reducible show wpAny _ _ (eval (PySem.Expr.Call _ _ _ _) _) _ _ _); (k_here; (with_reducible show wpAny _ _ (eval (Expr.Call (Expr.Name _ _) (_ :: _) [] _) _) _ _ _); k_dflt (refine' call_args ?F ?X ?T ?e ?hf ?hb ?hk ?he ?A ?cs ?_; (case F | X | T => k_asm); (case hf | hb => rfl); (case e | hk => k_is); (case cs | he => rfl); (case A => (repeat' first | exact ArgsEv.nil | refine' ArgsEv.name (by rfl) (by rfl) (by rfl) ?_ | refine' ArgsEv.str ?_)); k_whole)); (try k_fold))
    | ((with_reducible show wpAny _ _ (subscriptTail _ _ _ _) _ _ _); (k_here; (with_reducible show wpAny _ _ (subscriptTail _ _ (Value.ref _) (Value.int (Int.fmod _ _) _)) _ _ _); k_dflt (refine' item_menu ?k0 ?k1 ?k2 ?k3 ?k5 ?H ?k6 ?_; (case k0 => k_asm); (case k1 => k_mem); (case H => first | exact menu_names | exact menu_tails | exact menu_things); (case k2 => exact fm_lo _ (by decide)); (case k3 => exact fm_hi _ (by decide)); (case k5 => decide); (case k6 => with_unfolding_all rfl); k_whole); intro t9); (try k_fold))
    | (walk1; (try k_fold)) | (dsimp only; walk1; (try k_fold)) | (leave1; (try dsimp only)) | fail "no step")
  have N8 := ‹News h₀ L _ _›
  refine' next _ _ _ _ _ _ _ _ _ _ _ _ _ _ _ _ _ _ ?r1 ?r2 ?r3 ?r4 ?r5 ?r6 ?r7 ?r8 ?r9 ?F ?N
  case F => assumption
  case r1 => exact rfl
  case r2 => exact rfl
  case r3 => exact rfl
  case r4 => exact rfl
  case r5 => exact rfl
  case r6 => exact rfl
  case r7 => exact rfl
  case r8 => exact rfl
  case r9 => exact rfl
  case N =>
    refine news_sub N8 fun q hq => ?_
    revert q
    repeat' first | refine List.forall_mem_cons.mpr ⟨by k_mem, ?_⟩
    intro q hq
    repeat' first | exact hq | refine List.mem_cons_of_mem _ ?_
end
section
open PySem PySem.W PyProof.Rows
open PySem.Calls PySem.Spec
set_option maxRecDepth 100000
set_option maxHeartbeats 8000000
theorem o_7 : Str.ofString ".7" = S [46, 55] := by decide +kernel
theorem o_70 : Str.ofString ".70" = S [46, 55, 48] := by decide +kernel
theorem o_LOC : Str.ofString ".LOCAL" = S [46, 76, 79, 67, 65, 76] := by decide +kernel
section
variable {prog : Program} {w : World} {A : Around} {E : Value → Shared → Prop} {s : Shared}
theorem add_SE {x y : Str} {a b : List Nat} {t u : Tok} {Q : Value → Shared → Prop} (hx : x = S a) (hy : y = S b) (hz : (a ++ b).length ≤ 1000) (h : ∀ t' k, Q (.str (S (a ++ b)) t') { s with toks := k }) : wpAny (model prog w) A (binaryOp .Add (.str x t) (.str y u)) Q E s := by
  subst hx hy
  exact add_S (by rw [sizeLine_eq]; omega) h
end
theorem ne_eqv {prog : Program} {w : World} {A : Around} {E : Value → Shared → Prop} {s : Shared} {x y : Str} {t u : Tok} {Q : Value → Shared → Prop} (e : x = y) (h : Q (.bool false) s) : wpAny (model prog w) A (compareOp .NotEq (.str x t) (.str y u)) Q E s := by
  subst e; exact ne_same h
theorem reach_app {w : World} {x y : Str} (H : ∀ tk, ReachTel w x tk y) (tk : Tok) : Tel w 148 [.str x tk] 20 (fun _ => True) (fun news news' r => (∃ nw, news' = nw ++ news) ∧ ∃ t, r = .str y t) := H tk
theorem turn5 {w : World} {dp un : Nat} {gd : Option (List Code)} {outer : List Env} {A₀ : Around} {base h₀ : Heap} {L fa a1 a2 a3 a4 : Addr} {cd : Value} {mean : ExcName → Option Value} {mg mb : Str → Option Value} {news : Led} {Q : Flow → Shared → Prop}
    (B : Below A₀ base outer h₀) (X : (hd.heap_39 w.params).In h₀) (T : Top topProg looseT mean mg mb h₀) (hd : dp + 60 < recursionLimit) (r1 : dp + 20 < recursionLimit) (r2 : un + 8 * 20 < cLine)
    {s : Shared} {m : Str → Option Value} {x : Str} {t : Tok} (H : ∀ tk, ReachTel w x tk x) (F : Fr h₀ L s.heap (fun y => if y = "whole" then some (.str x t) else m y)) (N : News h₀ L s.heap news) (hg : AllBare s.gens)
    (next : ∀ (h' : Heap) (g' : Array GenState) (tk : Nat), Fr h₀ L h' (fun y => if y = "whole" then some (.str x t) else m y) → News h₀ L h' news → AllBare g' → Q .next { heap := h', gens := g', drawn := s.drawn, toks := tk, os := s.os }) :
    wpAny (model PySem.Challenge.rw_xl0011_01.row.prog w) (lwA w dp un gd L fa cd (lwCl a1 a2 a3 a4) outer) (execs (fbody (lawX w).1.s14) (lwEnv w L fa cd (lwCl a1 a2 a3 a4))) Q (fun _ _ => False) s := by
  unfold lawX lwA lwEnv lawF fbody
  dsimp only
  revert X
  k_fill
  w_top off
  intro X
  refine fold_ctx ?_
  intro M9 A9 e9
  repeat' (first
    | (k_unfold; (try dsimp only))
    | ((with_reducible show wpAny _ _ (compareOp CmpOp.NotEq (Value.str _ _) (Value.str _ _)) _ _ _); (k_here; k_dflt (refine' ne_eqv ?e ?_; (case e => exact rfl); k_whole)); (try k_fold))
    | ((with_reducible show wpAny _ _ (call (Value.ref _) _) _ _ _); (k_here; k_dflt (refine' same_use (reach_app ?kH _) ?k1 ?k2 ?k3 ?k4 ?k5 ?k6 ?k7 ?k8 ?k9 ?_; (case kH => exact H); (case k1 | k2 => k_asm); (case k3 | k4 | k5 => k_asm); (case k6 => exact rfl); (case k7 => exact r1); (case k8 => exact r2); (case k9 => assumption)); intro tk9 h9 tkk9 g9 F9 N9 G9); (try k_fold))
    | ((with_reducible show wpAny _ _ (execs (_ :: _) _) _ _ _); (k_here; (with_reducible refine wpAny_execs_cons ?_); (try dsimp only); (try k_fold); (try (refine fold_fn (by k_asm) (by k_asm) ?_; intro led9 fm9 F9 N9))); (try k_fold))
    | ((with_reducible show wpAny _ _ (eval (PySem.Expr.Call _ _ _ _) _) _ _ _); (k_here; (with_reducible show wpAny _ _ (eval (Expr.Call (Expr.Name _ _) (_ :: _) [] _) _) _ _ _); k_dflt (refine' call_args ?F ?X ?T ?e ?hf ?hb ?hk ?he ?A ?cs ?_; (case F | X | T => k_asm); (case hf | hb => rfl); (case e | hk => k_is); (case cs | he => rfl); (case A => (repeat' first | exact ArgsEv.nil | refine' ArgsEv.name (by rfl) (by rfl) (by rfl) ?_ | refine' ArgsEv.str ?_)); k_whole)); (try k_fold))
    | (walk1; (try k_fold)) | (dsimp only; walk1; (try k_fold)) | (leave1; (try dsimp only)) | fail "no step")
  exact next _ _ _ (by assumption) (by assumption) (by assumption)
theorem seg5 {w : World} {dp un : Nat} {gd : Option (List Code)} {outer : List Env} {A₀ : Around} {base h₀ : Heap} {L fa a1 a2 a3 a4 P Nm Tl : Addr} {cd : Value} {mean : ExcName → Option Value} {mg mb : Str → Option Value} {bs : Led} {Q : Flow → Shared → Prop}
    (B : Below A₀ base outer h₀) (X : (hd.heap_39 w.params).In h₀) (T : Top topProg looseT mean mg mb h₀) (hd : dp + 60 < recursionLimit) (hu : un + 480 < cLine)
    {s : Shared} {u : Str → Option Value} {n1 n2 : Nat} {ho bo : List Nat} {c : Nat} {z1 z2 x3 : Tok} {va vb : Value} {oT o3 o4 : Obj} (hsz : bo.length ≤ 8) (hho : ho.length ≤ 100)
    (H1 : ∀ tk, ReachTel w (S (ho ++ [46, 55])) tk (S (ho ++ [46, 55]))) (H2 : ∀ tk, ReachTel w (S (ho ++ [46, 55, 48])) tk (S (ho ++ [46, 55, 48]))) (H3 : ∀ tk, ReachTel w (S (ho ++ [46])) tk (S (ho ++ [46]))) (H4 : ∀ tk, ReachTel w (S ([c] ++ [46] ++ bo ++ loc)) tk (S ([c] ++ [46] ++ bo ++ loc))) (H5 : ∀ tk, ReachTel w (S ([c] ++ [46, 76, 79, 67, 65, 76])) tk (S ([c] ++ [46, 76, 79, 67, 65, 76])))
    (F : Fr h₀ L s.heap (fun y => if y = "host" then some (.str (S ho) z1) else if y = "names" then some (.ref Nm) else if y = "body" then some (.str (S bo) z2) else u y))
    (N : News h₀ L s.heap ((Nm, lo [va, vb, .str (S [c]) x3] n1) :: (Tl, oT) :: (a4, o4) :: (a3, o3) :: bs)) (hg : AllBare s.gens)
    (next : ∀ (h' : Heap) (g' : Array GenState) (tkk : Nat), (∀ m' : Str → Option Value, (∀ y, y ≠ Str.ofString "whole" → m' y = (fun y : Str => if y = "host" then some (.str (S ho) z1) else if y = "names" then some (.ref Nm) else if y = "body" then some (.str (S bo) z2) else u y) y) → Fr h₀ L h' m' → News h₀ L h' ((Nm, lo [va, vb, .str (S [c]) x3] n1) :: (Tl, oT) :: (a4, o4) :: (a3, o3) :: bs) → AllBare g' → Q .next { heap := h', gens := g', drawn := s.drawn, toks := tkk, os := s.os })) :
    wpAny (model PySem.Challenge.rw_xl0011_01.row.prog w) (lwA w dp un gd L fa cd (lwCl a1 a2 a3 a4) outer) (execs [(lawX w).1.s14] (lwEnv w L fa cd (lwCl a1 a2 a3 a4))) Q (fun _ _ => False) s := by
  have r1 : dp + 20 < recursionLimit := by omega
  have r2 : un + 8 * 20 < cLine := by omega
  unfold lawX lwA lwEnv lawF
  dsimp only
  revert X
  k_fill
  w_top off
  intro X
  refine fold_ctx ?_
  intro M9 A9 e9
  repeat' (first
    | (k_unfold; (try dsimp only))
    | ((with_reducible show wpAny _ _ (exec (Stmt.For (PySem.Expr.Name _ _) (PySem.Expr.List _ _) _ _ _) _) _ _ _); (k_here; k_dflt (refine' for_x ?_ ?hs; (case hs => intro _; rfl); k_whole)); (try k_fold))
    | ((with_reducible show wpAny _ _ (subscriptTail (PySem.Expr.Name _ _) (PySem.Expr.Constant _ _ _) (Value.ref _) _) _ _ _); (k_here; k_dflt (refine' item_row ?k0 ?k1 ?k2 ?k3 ?k4 ?k6 ?_; (case k0 => k_asm); (case k1 => k_mem); (case k4 => exact rfl); (case k2 | k3 => decide); (case k6 => with_unfolding_all rfl); k_whole)); (try k_fold))
    | ((with_reducible show wpAny _ _ (binaryOp PySem.Operator.Add (Value.str _ _) (Value.str _ _)) _ _ _); (k_here; k_dflt (refine' add_SE ?hx ?hy ?k1 ?_; (case hx => exact rfl); (case hy => first | with_reducible exact o_dot | with_reducible exact o_7 | with_reducible exact o_70 | with_reducible exact o_loc | with_reducible exact o_LOC | exact rfl); (case k1 => (simp only [List.length_append, List.length_cons, List.length_nil]; omega)); k_whole); intro t9 k9); (try k_fold))
    | ((with_reducible show wpAny _ _ (pyIter (Value.ref _)) _ _ _); (k_here; k_dflt (refine' iter_l ?hh ?hk ?hx ?F ?N ?hm ?_; (case hh | hk | hx => exact rfl); (case F | N => k_asm); (case hm => k_mem)); intro I9 l9); (try k_fold))
    | ((with_reducible show wpAny _ _ (execs (_ :: _) _) _ _ _); (k_here; (with_reducible refine wpAny_execs_cons ?_); (try dsimp only); (try k_fold); (try (refine fold_fn (by k_asm) (by k_asm) ?_; intro led9 fm9 F9 N9))); (try k_fold))
    | ((with_reducible show wpAny _ _ (eval (PySem.Expr.Call _ _ _ _) _) _ _ _); (k_here; (with_reducible show wpAny _ _ (eval (Expr.Call (Expr.Name _ _) (_ :: _) [] _) _) _ _ _); k_dflt (refine' call_args ?F ?X ?T ?e ?hf ?hb ?hk ?he ?A ?cs ?_; (case F | X | T => k_asm); (case hf | hb => rfl); (case e | hk => k_is); (case cs | he => rfl); (case A => (repeat' first | exact ArgsEv.nil | refine' ArgsEv.name (by rfl) (by rfl) (by rfl) ?_ | refine' ArgsEv.str ?_)); k_whole)); (try k_fold))
    | (walk1; (try k_fold)) | (dsimp only; walk1; (try k_fold)) | (leave1; (try dsimp only)) | fail "no step")
  have l8 := ‹∀ p : Addr × Obj, p ∈ _ → p.1 < _›
  iterate 5
    refine LwRest.succ ?_
    intro v9 it9 h9 tk9 hv9 ok9 F9 N9
    replace hv9 := Option.some.inj hv9.symm
    subst hv9
    refine turn5 B X T hd r1 r2 (by assumption) F9 N9 (by assumption) ?_
    intro h8 g8 tk8 F8 N8 G8
    refine LwEnd.intro F8 N8 .here (fun p hp => Nat.ne_of_lt (l8 p hp)) ⟨Or.inr ⟨_, List.Mem.head _, rfl, _, rfl⟩, ?_⟩
  refine LwRest.zero ?_
  intro h9 tk9 F9 N9
  refine wpAny_execs_nil ?_
  have N8 := N9
  refine' next _ _ _ _ ?m ?F ?N ?G
  case F => assumption
  case m =>
    intro y hy
    simp +zetaDelta only [if_neg hy]
  case N =>
    refine news_sub N8 fun q hq => ?_
    exact .tail _ hq
  case G => assumption
end
section
open PySem PySem.W PyProof.Rows
open PySem.Calls PySem.Spec
set_option maxRecDepth 100000
set_option maxHeartbeats 8000000
theorem slice_head {a b : List Nat} : Txt.slice (S (a ++ 46 :: b)) none (some (((S (a ++ 46 :: b)).length : Int) - ((S (46 :: b)).length : Int))) = S a := by
  rw [S_len, S_len, show (((a ++ 46 :: b).length : Int) - ((46 :: b).length : Int)) = ((a.length : Nat) : Int) by simp only [List.length_append]; omega, slice_to (by simp only [List.length_append]; omega), List.take_left]
theorem slice_head1 {c : Nat} {b : List Nat} : Txt.slice (S (c :: 46 :: b)) none (some (((S (c :: 46 :: b)).length : Int) - ((S (46 :: b)).length : Int))) = S [c] := slice_head (a := [c])
theorem slice_one {c : Nat} {b : List Nat} : Txt.slice (S (c :: b)) (some 1) none = S b := by
  rw [show (1 : Int) = ((1 : Nat) : Int) from rfl, slice_from (by simp)]; rfl
theorem len_S {prog : Program} {w : World} {A : Around} {E : Value → Shared → Prop} {s : Shared} {l : List Nat} {t : Tok} {Q : Value → Shared → Prop} (hx : l.length ≤ 1000) (h : ∀ t' k, Q (.int (S l).length t') { s with toks := k }) : wpAny (model prog w) A (call (.builtin "len") [.str (S l) t]) Q E s :=
  len_s (by rw [S_len, sizeLine_eq]; omega) h
theorem append_lo {prog : Program} {w : World} {A : Around} {E : Value → Shared → Prop} {s : Shared} {h₀ : Heap} {L l : Addr} {m : Str → Option Value} {news rest : Led} {xs : List Value} {n : Nat} {v : Value} {Q : Value → Shared → Prop}
    (F : Fr h₀ L s.heap m) (N : News h₀ L s.heap news) (pk : Pk (l, lo xs n) news rest) (off : ∀ p ∈ rest, p.1 ≠ l) (hz : xs.length < 100)
    (h : ∀ h' n', Fr h₀ L h' m → News h₀ L h' ((l, lo (xs ++ [v]) n') :: rest) → Q .none { s with heap := h' }) : wpAny (model prog w) A (call (.builtin "list.append") [.ref l, v]) Q E s := by
  have N' := news_sub N pk.mem
  have z := N' (l, lo xs n) (.head _)
  refine append_at (hsz := by rw [List.size_toArray, sizeLine_eq]; omega) z.1 fun h' hs ho' => h h' (n + 1) (F.change hs z.2.1 z.2.2) fun p hp => ?_
  rcases List.mem_cons.mp hp with rfl | hp
  · refine ⟨?_, z.2⟩
    rw [ho']
    show some (listOf (xs.toArray.push v) (n + 1)) = some (lo (xs ++ [v]) (n + 1))
    rw [List.push_toArray]
  · exact ⟨(hs.2 _ (off p hp)).trans (N' p (.tail _ hp)).1, (N' p (.tail _ hp)).2⟩
theorem offC {l : Led} {I a : Addr} {o it : Obj} (h : ∀ p ∈ l, p.1 < a) (m : (I, it) ∈ l) : (a, o).1 ≠ I := Nat.ne_of_gt (h _ m)
theorem offL {D : Addr} {l : Led} (h : AllLt D l) : ∀ p ∈ l, p.1 ≠ D := by
  induction l with
  | nil => intro p hp; cases hp
  | cons q r ih =>
    intro p hp
    rcases List.mem_cons.mp hp with hp | hp
    · rw [hp]; exact Nat.ne_of_lt h.1
    · exact ih h.2 p hp
theorem offL3 {D a b c d : Addr} {bs : Led} (h : a < D ∧ b < D ∧ c < D ∧ d < D ∧ AllLt D bs) : ∀ p ∈ bs, p.1 ≠ D := offL h.2.2.2.2
theorem len_lt {ts : List Value} {i : Nat} (h : ts.length = i) (hi : i ≤ 3) : ts.length < 100 := by omega
theorem ln_1000 {l : List Nat} (h : l.length ≤ 100) : l.length ≤ 1000 := Nat.le_trans h (by decide)
theorem ln_sz {l : List Nat} (h : l.length ≤ 100) : (S l).length ≤ sizeLine := by rw [S_len, sizeLine_eq]; omega
theorem ln_tl {p r : List Nat} (h : (p ++ 46 :: r).length ≤ 100) : (46 :: r).length ≤ 100 := by rw [List.length_append] at h; omega
theorem m_in {g g' : Str → Option Value} {x : Str} {v : Value} (h : g x = some v) (e : g = g') : g = fun y => if y = x then some v else g' y := by subst e; exact m_set h
theorem turn6 {w : World} {dp un : Nat} {gd : Option (List Code)} {outer : List Env} {A₀ : Around} {base h₀ : Heap} {L fa a1 a2 a3 a4 Rd I : Addr} {cd : Value} {mean : ExcName → Option Value} {mg mb : Str → Option Value} {R : Led} {Q : Flow → Shared → Prop}
    (B : Below A₀ base outer h₀) (X : (hd.heap_39 w.params).In h₀) (T : Top topProg looseT mean mg mb h₀) (hd : dp + 60 < recursionLimit) (r1 : dp + 20 < recursionLimit) (r2 : un + 8 * 20 < cLine)
    {s : Shared} {m b : Str → Option Value} {i : Nat} {v : Value} {z : Tok} {p r : List Nat} {it : Obj} {ts : List Value} {n : Nat} (hl : (p ++ 46 :: r).length ≤ 100)
    (H : ∀ tk, ReachTel w (S (p ++ 46 :: r)) tk (S (46 :: r))) (hts : ts.length = i) (hi : i ≤ 3)
    (m1 : m "read" = some (.ref Rd)) (m2 : m "host" = some (.str (S (p ++ 46 :: r)) z)) (mb : ∀ y : Str, y ≠ "host" → y ≠ "rest" → y ≠ "turn" → y ≠ "read" → m y = b y)
    (F : Fr h₀ L s.heap (fun y => if y = "turn" then some v else m y)) (N : News h₀ L s.heap ((I, it) :: (Rd, lo ts n) :: R)) (o1 : ∀ p ∈ R, p.1 ≠ Rd) (o2 : I ≠ Rd) (hg : AllBare s.gens)
    (next : ∀ (t z' : Tok) (n' : Nat) (m' : Str → Option Value) (h' : Heap) (g' : Array GenState) (tk : Nat), m' "read" = some (.ref Rd) → m' "host" = some (.str (S r) z') → (∀ y : Str, y ≠ "host" → y ≠ "rest" → y ≠ "turn" → y ≠ "read" → m' y = b y) → Fr h₀ L h' m' → News h₀ L h' ((Rd, lo (ts ++ [.str (S p) t]) n') :: (I, it) :: R) → AllBare g' → Q .next { heap := h', gens := g', drawn := s.drawn, toks := tk, os := s.os }) :
    wpAny (model PySem.Challenge.rw_xl0011_01.row.prog w) (lwA w dp un gd L fa cd (lwCl a1 a2 a3 a4) outer) (execs (fbody (lawX w).1.s16) (lwEnv w L fa cd (lwCl a1 a2 a3 a4))) Q (fun _ _ => False) s := by
  have f1 : (fun y : Str => if y = "turn" then some v else m y) "read" = some (.ref Rd) := m1
  have f2 : (fun y : Str => if y = "turn" then some v else m y) "host" = some (.str (S (p ++ 46 :: r)) z) := m2
  have f6 : ∀ y : Str, y ≠ "host" → y ≠ "rest" → y ≠ "turn" → y ≠ "read" → (fun y : Str => if y = "turn" then some v else m y) y = b y := fun y e1 e2 e3 e4 => (if_neg e3).trans (mb y e1 e2 e3 e4)
  generalize (fun y : Str => if y = "turn" then some v else m y) = g at F f1 f2 f6
  have eg : g = fun y : Str => if y = "read" then some (.ref Rd) else if y = "host" then some (.str (S (p ++ 46 :: r)) z) else g y := m_in f1 (m_set f2)
  have F0 := F
  rw [eg] at F0
  replace f6 : ∀ y : Str, y ≠ "host" → y ≠ "rest" → y ≠ "turn" → y ≠ "read" → (fun y : Str => if y = "read" then some (.ref Rd) else if y = "host" then some (.str (S (p ++ 46 :: r)) z) else g y) y = b y := fun y e1 e2 e3 e4 => (congrFun eg y).symm.trans (f6 y e1 e2 e3 e4)
  clear F eg f1 f2 m1 m2 mb
  unfold lawX lwA lwEnv lawF fbody
  dsimp only
  revert X
  k_fill
  w_top off
  intro X
  refine fold_m F0 ?_
  intro fm F1
  clear F0
  refine fold_ctx ?_
  intro M9 A9 e9
  repeat' (first
    | (k_unfold; (try dsimp only))
    | ((with_reducible show wpAny _ _ (subscriptTail (PySem.Expr.Name _ _) (PySem.Expr.Slice _ _ _ _) (Value.str _ _) _) _ _ _); (k_here; (with_reducible show wpAny _ _ (subscriptTail _ (Expr.Slice (some _) none none _) _ _) _ _ _); (with_reducible rename Fr _ _ _ _ => F'); (with_reducible rename News _ _ _ _ => N'); k_dflt (refine' slice_strN_sn (hsz := ?hsz) (s := ⟨_, _, _, _, _⟩) F' N' ?_); (case hsz => first | exact ln_sz hl | exact ln_sz (ln_tl hl)); intro h9 t9 k9 F9 N9; rw [slice_one]))
    | ((with_reducible show wpAny _ _ (subscriptTail (PySem.Expr.Name _ _) (PySem.Expr.Slice _ _ _ _) (Value.str _ _) _) _ _ _); (k_here; (with_reducible show wpAny _ _ (subscriptTail _ (Expr.Slice none (some _) none _) _ _) _ _ _); (with_reducible rename Fr _ _ _ _ => F'); (with_reducible rename News _ _ _ _ => N'); k_dflt (refine' slice_strN_ns (hsz := ?hsz) (s := ⟨_, _, _, _, _⟩) F' N' ?_); (case hsz => first | exact ln_sz hl | exact ln_sz (ln_tl hl)); intro h9 t9 k9 F9 N9; rw [slice_head]))
    | ((with_reducible show wpAny _ _ (call (Value.ref _) _) _ _ _); (k_here; k_dflt (refine' same_use (reach_app ?kH _) ?k1 ?k2 ?k3 ?k4 ?k5 ?k6 ?k7 ?k8 ?k9 ?_; (case kH => exact H); (case k1 | k2 => k_asm); (case k3 | k4 | k5 => k_asm); (case k6 => exact rfl); (case k7 => exact r1); (case k8 => exact r2); (case k9 => assumption)); intro tk9 h9 tkk9 g9 F9 N9 G9))
    | ((with_reducible show wpAny _ _ (call (Value.builtin "len") _) _ _ _); (k_here; (with_reducible show wpAny _ _ (call (Value.builtin "len") [Value.str _ _]) _ _ _); k_dflt (refine' len_S ?k1 ?_; (case k1 => first | exact ln_1000 hl | exact ln_1000 (ln_tl hl)); k_whole); intro t9 k9))
    | ((with_reducible show wpAny _ _ (execs (_ :: _) _) _ _ _); (k_here; (with_reducible refine wpAny_execs_cons ?_); try dsimp only))
    | ((with_reducible show wpAny _ _ (call (Value.builtin "list.append") _) _ _ _); (k_here; k_dflt (refine' append_lo ?F ?N ?pk ?off ?hz ?_; (case F | N => k_asm); (case pk => (repeat' first | exact Pk.here | refine' Pk.next ?_)); (case off => exact List.forall_mem_cons.mpr ⟨o2, o1⟩); (case hz => exact len_lt hts hi)); intro h9 n9 F9 N9))
    | (walk1) | (dsimp only; walk1) | (leave1; (try dsimp only)) | fail "no step")
  have N8 := ‹News h₀ L _ _›
  refine next _ _ _ _ _ _ _ rfl rfl (fun y e1 e2 e3 e4 => (if_neg e1).trans ((if_neg e2).trans (f6 y e1 e2 e3 e4))) (by assumption) N8 (by assumption)
theorem loop6 {w : World} {dp un : Nat} {gd : Option (List Code)} {outer : List Env} {A₀ : Around} {base h₀ : Heap} {L fa a1 a2 a3 a4 Rd I : Addr} {cd : Value} {mean : ExcName → Option Value} {mg mb : Str → Option Value} {R : Led} {Q : Flow → Shared → Prop}
    (B : Below A₀ base outer h₀) (X : (hd.heap_39 w.params).In h₀) (T : Top topProg looseT mean mg mb h₀) (hd : dp + 60 < recursionLimit) (hu : un + 480 < cLine)
    {m b : Str → Option Value} {z : Tok} {p1 p2 p3 p4 r : List Nat} {g : Array GenState} {dr : Drawn} {os : OsState} (hl1 : (p1 ++ 46 :: (p2 ++ 46 :: (p3 ++ 46 :: (p4 ++ 46 :: r)))).length ≤ 100)
    (H1 : ∀ tk, ReachTel w (S (p1 ++ 46 :: (p2 ++ 46 :: (p3 ++ 46 :: (p4 ++ 46 :: r))))) tk (S (46 :: (p2 ++ 46 :: (p3 ++ 46 :: (p4 ++ 46 :: r)))))) (H2 : ∀ tk, ReachTel w (S (p2 ++ 46 :: (p3 ++ 46 :: (p4 ++ 46 :: r)))) tk (S (46 :: (p3 ++ 46 :: (p4 ++ 46 :: r))))) (H3 : ∀ tk, ReachTel w (S (p3 ++ 46 :: (p4 ++ 46 :: r))) tk (S (46 :: (p4 ++ 46 :: r)))) (H4 : ∀ tk, ReachTel w (S (p4 ++ 46 :: r)) tk (S (46 :: r)))
    (m1 : m "read" = some (.ref Rd)) (m2 : m "host" = some (.str (S (p1 ++ 46 :: (p2 ++ 46 :: (p3 ++ 46 :: (p4 ++ 46 :: r))))) z)) (mb : ∀ y : Str, y ≠ "host" → y ≠ "rest" → y ≠ "turn" → y ≠ "read" → m y = b y)
    (o1 : ∀ p ∈ R, p.1 ≠ Rd) (o2 : Rd ≠ I) (o3 : ∀ p ∈ R, p.1 ≠ I) (hg : AllBare g)
    (next : ∀ (x1 x2 x3 x4 z5 : Tok) (n : Nat) (m' : Str → Option Value) (h' : Heap) (g' : Array GenState) (tkk : Nat), m' "read" = some (.ref Rd) → m' "host" = some (.str (S r) z5) → (∀ y : Str, y ≠ "host" → y ≠ "rest" → y ≠ "turn" → y ≠ "read" → m' y = b y) → Fr h₀ L h' m' →
      News h₀ L h' ((Rd, lo [.str (S p1) x1, .str (S p2) x2, .str (S p3) x3, .str (S p4) x4] n) :: R) → AllBare g' → Q .next { heap := h', gens := g', drawn := dr, toks := tkk, os := os }) :
    LwRest PySem.Challenge.rw_xl0011_01.row.prog w (lwA w dp un gd L fa cd (lwCl a1 a2 a3 a4) outer) h₀ L (lwEnv w L fa cd (lwCl a1 a2 a3 a4)) "turn" (fbody (lawX w).1.s16) Q (fun _ => True) (fun i v => ∃ t, v = .int (0 + (i : Int)) t) dr os I 4 0 m ((Rd, lo [] 0) :: R) g := by
  have r1 : dp + 20 < recursionLimit := by omega
  have r2 : un + 8 * 20 < cLine := by omega
  have hl2 : (p2 ++ 46 :: (p3 ++ 46 :: (p4 ++ 46 :: r))).length ≤ 100 := by rw [List.length_append] at hl1; exact Nat.le_trans (Nat.le_trans (Nat.le_succ _) (Nat.le_add_left _ _)) hl1
  have hl3 : (p3 ++ 46 :: (p4 ++ 46 :: r)).length ≤ 100 := by rw [List.length_append] at hl2; exact Nat.le_trans (Nat.le_trans (Nat.le_succ _) (Nat.le_add_left _ _)) hl2
  have hl4 : (p4 ++ 46 :: r).length ≤ 100 := by rw [List.length_append] at hl3; exact Nat.le_trans (Nat.le_trans (Nat.le_succ _) (Nat.le_add_left _ _)) hl3
  refine LwRest.succ fun v it h tk hv ok F N => ?_
  refine turn6 (i := 0) (ts := []) B X T hd r1 r2 hl1 H1 rfl (by decide) m1 m2 mb F N o1 (Ne.symm o2) hg fun x1 z1 n' m' h' g' tk m1 m2 mb F N G => LwEnd.intro F N (.next .here) (List.forall_mem_cons.mpr ⟨o2, o3⟩) ⟨trivial, ?_⟩
  refine LwRest.succ fun v it h tk hv ok F N => ?_
  refine turn6 (i := 1) (ts := [_]) B X T hd r1 r2 hl2 H2 rfl (by decide) m1 m2 mb F N o1 (Ne.symm o2) G fun x2 z2 n' m' h' g' tk m1 m2 mb F N G => LwEnd.intro F N (.next .here) (List.forall_mem_cons.mpr ⟨o2, o3⟩) ⟨trivial, ?_⟩
  refine LwRest.succ fun v it h tk hv ok F N => ?_
  refine turn6 (i := 2) (ts := [_, _]) B X T hd r1 r2 hl3 H3 rfl (by decide) m1 m2 mb F N o1 (Ne.symm o2) G fun x3 z3 n' m' h' g' tk m1 m2 mb F N G => LwEnd.intro F N (.next .here) (List.forall_mem_cons.mpr ⟨o2, o3⟩) ⟨trivial, ?_⟩
  refine LwRest.succ fun v it h tk hv ok F N => ?_
  refine turn6 (i := 3) (ts := [_, _, _]) B X T hd r1 r2 hl4 H4 rfl (by decide) m1 m2 mb F N o1 (Ne.symm o2) G fun x4 z4 n' m' h' g' tk m1 m2 mb F N G => LwEnd.intro F N (.next .here) (List.forall_mem_cons.mpr ⟨o2, o3⟩) ⟨trivial, ?_⟩
  exact LwRest.zero fun h tk F N => next x1 x2 x3 x4 z4 _ _ _ _ _ m1 m2 mb F N G
theorem seg6 {w : World} {dp un : Nat} {gd : Option (List Code)} {outer : List Env} {A₀ : Around} {base h₀ : Heap} {L fa a1 a2 a3 a4 P Nm Tl : Addr} {cd : Value} {mean : ExcName → Option Value} {mg mb : Str → Option Value} {bs : Led} {Q : Flow → Shared → Prop}
    (B : Below A₀ base outer h₀) (X : (hd.heap_39 w.params).In h₀) (T : Top topProg looseT mean mg mb h₀) (hd : dp + 60 < recursionLimit) (hu : un + 480 < cLine)
    {s : Shared} {u : Str → Option Value} {c1 c2 c3 : Nat} {bq : List Nat} {z1 : Tok} {oN oT o3 o4 : Obj} (hsz : bq.length ≤ 12)
    (H1 : ∀ tk, ReachTel w (S (c1 :: 46 :: (c2 :: 46 :: (c3 :: 46 :: (bq ++ 46 :: loc))))) tk (S (46 :: (c2 :: 46 :: (c3 :: 46 :: (bq ++ 46 :: loc)))))) (H2 : ∀ tk, ReachTel w (S (c2 :: 46 :: (c3 :: 46 :: (bq ++ 46 :: loc)))) tk (S (46 :: (c3 :: 46 :: (bq ++ 46 :: loc))))) (H3 : ∀ tk, ReachTel w (S (c3 :: 46 :: (bq ++ 46 :: loc))) tk (S (46 :: (bq ++ 46 :: loc)))) (H4 : ∀ tk, ReachTel w (S (bq ++ 46 :: loc)) tk (S (46 :: loc)))
    (F : Fr h₀ L s.heap (fun y => if y = "host" then some (.str (S (c1 :: 46 :: (c2 :: 46 :: (c3 :: 46 :: (bq ++ 46 :: loc))))) z1) else u y))
    (N : News h₀ L s.heap ((Nm, oN) :: (Tl, oT) :: (a4, o4) :: (a3, o3) :: bs)) (hg : AllBare s.gens)
    (next : ∀ (Rd : Addr) (x1 x2 x3 x4 z5 : Tok) (n : Nat) (m' : Str → Option Value) (h' : Heap) (g' : Array GenState) (tkk : Nat), m' "read" = some (.ref Rd) → m' "host" = some (.str (S loc) z5) → (∀ y : Str, y ≠ "host" → y ≠ "rest" → y ≠ "turn" → y ≠ "read" → m' y = u y) → Fr h₀ L h' m' →
      News h₀ L h' ((Rd, lo [.str (S [c1]) x1, .str (S [c2]) x2, .str (S [c3]) x3, .str (S bq) x4] n) :: (Nm, oN) :: (Tl, oT) :: (a4, o4) :: (a3, o3) :: bs) → AllBare g' → Q .next { heap := h', gens := g', drawn := s.drawn, toks := tkk, os := s.os }) :
    wpAny (model PySem.Challenge.rw_xl0011_01.row.prog w) (lwA w dp un gd L fa cd (lwCl a1 a2 a3 a4) outer) (execs [(lawX w).1.s15, (lawX w).1.s16] (lwEnv w L fa cd (lwCl a1 a2 a3 a4))) Q (fun _ _ => False) s := by
  unfold lawX lwA lwEnv lawF
  dsimp only
  revert X
  k_fill
  w_top off
  intro X
  try (refine fold_ctx ?_; intro M9 A9 e9)
  repeat' (first
    | (k_unfold; (try dsimp only))
    | ((with_reducible show wpAny _ _ (exec (Stmt.For (PySem.Expr.Name _ _) (PySem.Expr.Call _ _ _ _) _ _ _) _) _ _ _); (k_here; k_dflt (refine' for_x ?_ ?hs; (case hs => intro _; rfl); k_whole)))
    | ((with_reducible show wpAny _ _ (pyIter (Value.ref _)) _ _ _); (k_here; k_dflt (refine' iter_r ?hh ?hk ?hx ?F ?N ?hr ?hsm ?hn ?_; (case hh | hk | hx => exact rfl); (case F | N => k_asm); (case hr => assumption); (case hsm => decide); (case hn => exact rfl)); intro I9 l9))
    | ((with_reducible show wpAny _ _ (execs (_ :: _) _) _ _ _); (k_here; (with_reducible refine wpAny_execs_cons ?_); try dsimp only))
    | (walk1) | (dsimp only; walk1) | (leave1; (try dsimp only)) | fail "no step")
  have I9lt := ‹∀ p : Addr × Obj, p ∈ _ :: _ → p.1 < _›
  exact loop6 (p1 := [c1]) (p2 := [c2]) (p3 := [c3]) (b := u) B X T hd hu (by simp only [List.length_append, List.length_cons, List.length_nil]; show _ + (_ + (_ + (_ + (5 + 1) + 1) + 1) + 1) ≤ 100; omega) H1 H2 H3 H4 rfl rfl (fun y e1 e2 e3 e4 => (if_neg e4).trans (if_neg e1)) (offL (by assumption)) (Nat.ne_of_lt (I9lt _ (.head _))) (fun p hp => Nat.ne_of_lt (I9lt p (.tail _ hp))) (by assumption) fun x1 x2 x3 x4 z5 n m' h' g' tkk q1 q2 q3 F N G => wpAny_execs_nil (next _ x1 x2 x3 x4 z5 n m' h' g' tkk q1 q2 q3 F N G)
end
section
open PySem PySem.W PyProof.Rows
open PySem.Calls PySem.Spec
open PySem.Builtin PySem.Builtin.Str PySem.StrLaws
set_option maxRecDepth 100000
set_option maxHeartbeats 8000000
theorem slice_neg6 {q : List Nat} : Txt.slice (S (q ++ 46 :: loc)) none (some (-6)) = S q := by
  have e : Txt.slice (S (q ++ 46 :: loc)) none (some (-6)) = Txt.slice (S (q ++ 46 :: loc)) none (some ((q.length : Nat) : Int)) := by
    show sliceText _ _ _ = sliceText _ _ _
    unfold sliceText
    have : strSliceIndices none (some (-6)) 1 (S (q ++ 46 :: loc)).length = strSliceIndices none (some ((q.length : Nat) : Int)) 1 (S (q ++ 46 :: loc)).length := by
      rw [S_len]
      have hl : (q ++ 46 :: loc).length = q.length + 6 := by simp
      rw [hl]
      unfold strSliceIndices
      have h1 : ¬ ((q.length : Int) < 0) := by omega
      simp only [show ((-6 : Int) < 0) = True by simp, if_true, if_neg h1]
      have e1 : max (0 : Int) (min (-6 + ((q.length + 6 : Nat) : Int)) ((q.length + 6 : Nat) : Int)) = max (0 : Int) (min (q.length : Int) ((q.length + 6 : Nat) : Int)) := by omega
      simp only [show ((1 : Int) > 0) = True by simp, if_true, e1]
    rw [this]
  rw [e, slice_to (by simp), List.take_left]
theorem slice_neg6' {q : List Nat} : Txt.slice (S (q ++ [46, 108, 111, 99, 97, 108])) none (some (-6)) = S q := slice_neg6
abbrev Cps (l : List Nat) : Prop := ∀ c ∈ l, c < 1114112
theorem S_cpsok {l : List Nat} (h : Cps l) : PyData.canLay0 (.str (S l)) = true := by
  show (S l).cps.all (· < 0x110000) = true
  rw [Array.all_eq_true_iff_forall_mem]
  intro x hx
  exact decide_eq_true (h x (by simpa [S] using hx))
theorem shapedS4 {a b c d : List Nat} (ha : Cps a) (hb : Cps b) (hc : Cps c) (hd : Cps d) : PySem.SeqAt.shaped (.list [.str (S a), .str (S b), .str (S c), .str (S d)]) = true := by
  unfold PySem.SeqAt.shaped
  refine Bool.and_eq_true_iff.mpr ⟨?_, rfl⟩
  show (PyData.canLay0 (.str (S a)) && (PyData.canLay0 (.str (S b)) && (PyData.canLay0 (.str (S c)) && (PyData.canLay0 (.str (S d)) && true)))) = true
  rw [S_cpsok ha, S_cpsok hb, S_cpsok hc, S_cpsok hd]; rfl
theorem seg7 {w : World} {dp un : Nat} {gd : Option (List Code)} {outer : List Env} {A₀ : Around} {base h₀ : Heap} {L fa a1 a2 a3 a4 P Nm Tl Rd : Addr} {cd : Value} {mean : ExcName → Option Value} {mg mb : Str → Option Value} {bs : Led} {Q : Flow → Shared → Prop}
    (B : Below A₀ base outer h₀) (X : (hd.heap_39 w.params).In h₀) (T : Top topProg looseT mean mg mb h₀) (hd : dp + 60 < recursionLimit) (hu : un + 480 < cLine)
    {s : Shared} {u : Str → Option Value} {c1 c2 c3 : Nat} {e : Int} {bo : List Nat} {z1 z2 z3 x1 x2 x3 x4 w1 w2 w3 y1 y2 y3 : Tok} {n n1 n2 : Nat} {o3 o4 : Obj} (hsz : bo.length ≤ 8) (htq : (tq (e.fmod 3).toNat).length ≤ 3)
    (p1 : Cps [c1]) (p2 : Cps [c2]) (p3 : Cps [c3]) (p4 : Cps (bo ++ tq (e.fmod 3).toNat)) (H : ∀ tk, ReachTel w (S loc) tk (S loc))
    (F : Fr h₀ L s.heap (fun y => if y = "read" then some (.ref Rd) else if y = "names" then some (.ref Nm) else if y = "body" then some (.str (S bo) z1) else if y = "tails" then some (.ref Tl) else if y = "first" then some (.int (e.fmod 3) z2) else if y = "host" then some (.str (S loc) z3) else u y))
    (N : News h₀ L s.heap ((Rd, lo [.str (S [c1]) x1, .str (S [c2]) x2, .str (S [c3]) x3, .str (S (bo ++ tq (e.fmod 3).toNat)) x4] n) :: (Nm, lo [.str (S [c1]) w1, .str (S [c2]) w2, .str (S [c3]) w3] n1) :: (Tl, lo [.str (Str.ofString "::.local") y1, .str (Str.ofString ":\n.local") y2, .str (Str.ofString "\n\n:.local") y3] n2) :: (a4, o4) :: (a3, o3) :: bs)) (hg : AllBare s.gens)
    (next : ∀ (m' : Str → Option Value) (h' : Heap) (g' : Array GenState) (tkk : Nat), (∀ y : Str, m' y = (fun y : Str => if y = "read" then some (.ref Rd) else if y = "names" then some (.ref Nm) else if y = "body" then some (.str (S bo) z1) else if y = "tails" then some (.ref Tl) else if y = "first" then some (.int (e.fmod 3) z2) else if y = "host" then some (.str (S loc) z3) else u y) y) → Fr h₀ L h' m' →
      News h₀ L h' ((Rd, lo [.str (S [c1]) x1, .str (S [c2]) x2, .str (S [c3]) x3, .str (S (bo ++ tq (e.fmod 3).toNat)) x4] n) :: (Nm, lo [.str (S [c1]) w1, .str (S [c2]) w2, .str (S [c3]) w3] n1) :: (Tl, lo [.str (Str.ofString "::.local") y1, .str (Str.ofString ":\n.local") y2, .str (Str.ofString "\n\n:.local") y3] n2) :: (a4, o4) :: (a3, o3) :: bs) → AllBare g' → Q .next { heap := h', gens := g', drawn := s.drawn, toks := tkk, os := s.os }) :
    wpAny (model PySem.Challenge.rw_xl0011_01.row.prog w) (lwA w dp un gd L fa cd (lwCl a1 a2 a3 a4) outer) (execs [(lawX w).1.s17] (lwEnv w L fa cd (lwCl a1 a2 a3 a4))) Q (fun _ _ => False) s := by
  unfold lawX lwA lwEnv lawF
  dsimp only
  revert X
  k_fill
  w_top off
  intro X
  repeat' (first
    | (k_unfold; (try dsimp only))
    | ((with_reducible first | show wpAny _ _ (exec _ _) _ _ _ | show wpAny _ _ (isTrue _ _ _) _ _ _); (fail_if_success (with_reducible show wpAny _ _ _ Q8 _ _)); (with_reducible refine fold_q ?_); intro Q8 hQ8)
    | ((with_reducible refine hQ8 _ _ ?_); clear hQ8; (try dsimp only))
    | ((with_reducible show wpAny _ _ (subscriptTail (PySem.Expr.Name _ _) (PySem.Expr.Name _ _) (Value.ref _) _) _ _ _); (k_here; (with_reducible show wpAny _ _ (subscriptTail _ _ (Value.ref _) (Value.int (Int.fmod _ _) _)) _ _ _); k_dflt (refine' item_menu ?k0 ?k1 ?k2 ?k3 ?k5 ?H ?k6 ?_; (case k0 => k_asm); (case k1 => k_mem); (case H => first | exact menu_names | exact menu_tails | exact menu_things); (case k2 => exact fm_lo _ (by decide)); (case k3 => exact fm_hi _ (by decide)); (case k5 => decide); (case k6 => with_unfolding_all rfl); k_whole); intro t9))
    | ((with_reducible show wpAny _ _ (compareOp CmpOp.NotEq (Value.ref _) (Value.ref _)) _ _ _); (k_here; (with_reducible show wpAny _ _ (compareOp CmpOp.NotEq (Value.ref _) (Value.ref _)) _ _ _); k_dflt (refine' ne_lists ?k1 ?k2 ?k3 ?k4 ?k5 ?_; (case k1 | k2 => ked_read); (case k3 => exact shapedS4 (by assumption) (by assumption) (by assumption) (by assumption)); (case k4 => ktr_units); (case k5 => simp [PyData.eqv, PyData.eqvAll]); k_whole)))
    | ((with_reducible show wpAny _ _ (compareOp CmpOp.NotEq (Value.str _ _) (Value.str _ _)) _ _ _); (k_here; k_dflt (refine' ne_eqv ?e ?_; (case e => first | exact o_loc.symm | exact rfl); k_whole)))
    | ((with_reducible show wpAny _ _ (binaryOp PySem.Operator.Add (Value.str _ _) (Value.str _ _)) _ _ _); (k_here; k_dflt (refine' add_SE ?hx ?hy ?k1 ?_; (case hx | hy => exact rfl); (case k1 => (simp only [List.length_append, List.length_cons, List.length_nil]; omega)); k_whole); intro t9 k9))
    | ((with_reducible show wpAny _ _ (binaryOp PySem.Operator.Add (Value.ref _) (Value.ref _)) _ _ _); (k_here; k_dflt (refine' add_lo ?k1 ?k2 ?k3 ?k4 ?k5 ?_; (case k1 | k2 => k_asm); (case k3 | k4 => k_mem); (case k5 => (simp only [List.length_cons, List.length_nil]; omega)); k_whole); intro D9 h9 F9 N9 l9; (try simp only [List.cons_append, List.nil_append] at N9)))
    | ((with_reducible show wpAny _ _ (call (Value.ref _) _) _ _ _); (k_here; k_dflt (refine' same_use (reach_app ?kH _) ?k1 ?k2 ?k3 ?k4 ?k5 ?k6 ?k7 ?k8 ?k9 ?_; (case kH => assumption); (case k1 | k2 => k_asm); (case k3 | k4 | k5 => k_asm); (case k6 => exact rfl); (case k7 => ktr_room); (case k8 => ktr_units); (case k9 => assumption)); intro tk9 h9 tkk9 g9 F9 N9 G9))
    | ((with_reducible show wpAny _ _ (subscriptTail (PySem.Expr.Subscript _ _ _) _ _ _) _ _ _); (k_here; (with_reducible show wpAny _ _ (subscriptTail _ (Expr.Slice none (some _) none _) _ _) _ _ _); (with_reducible rename Fr _ _ _ _ => F'); (with_reducible rename News _ _ _ _ => N'); k_dflt (refine' slice_strN_ns (hsz := ?hsz) (s := ⟨_, _, _, _, _⟩) F' N' ?_); (case hsz => (rw [S_len, sizeLine_eq]; simp only [List.length_append, List.length_cons, List.length_nil]; omega)); intro h9 t9 k9 F9 N9; first | rw [slice_neg6] | rw [slice_neg6']))
    | ((with_reducible show wpAny _ _ (execs (_ :: _) _) _ _ _); (k_here; (with_reducible refine wpAny_execs_cons ?_); try dsimp only))
    | (walk1) | (dsimp only; walk1) | (leave1; (try dsimp only)) | fail "no step")
  have N8 := ‹News h₀ L _ _›
  refine' next _ _ _ _ ?m ?F ?N ?G
  case F => assumption
  case N =>
    refine news_sub N8 fun q hq => ?_
    exact .tail _ (.tail _ hq)
  case m => exact fun y => rfl
  case G => assumption
end
section
open PySem PySem.W PyProof.Rows
open PySem.Calls PySem.Spec
set_option maxRecDepth 100000
set_option maxHeartbeats 8000000
theorem max_m {prog : Program} {w : World} {A : Around} {E : Value → Shared → Prop} {s : Shared} {h₀ : Heap} {L : Addr} {m : Str → Option Value} {news : Led} {a b : Int} {t u : Tok} {Q : Value → Shared → Prop} (hh : A.handled = none) (F : Fr h₀ L s.heap m) (N : News h₀ L s.heap news)
    (h : ∀ h' tk t', Fr h₀ L h' m → News h₀ L h' news → Q (.int (max a b) t') { s with heap := h', toks := tk }) : wpAny (model prog w) A (call (.builtin "max") [.int a t, .int b u]) Q E s :=
  max_two_N hh F N fun h' tk F' N' => by
    have e : (if b > a then b else a) = max a b := by split <;> omega
    rw [e]; exact h h' tk _ F' N'
theorem cutL {p B : List Nat} (k : Nat) (hk : (p ++ 46 :: B).length = k) (hb : B.length + 1 + p.length = k) : Txt.slice (S (p ++ 46 :: B)) none (some (max 0 (((S (p ++ 46 :: B)).length : Int) - ((S B).length : Int) - 1))) = S p := by
  rw [S_len, S_len, show max (0 : Int) (((p ++ 46 :: B).length : Int) - (B.length : Int) - 1) = ((p.length : Nat) : Int) by omega, slice_to (by omega), List.take_left]
theorem cut3 {c1 c2 c3 : Nat} {bo : List Nat} : Txt.slice (S (c1 :: 46 :: c2 :: 46 :: c3 :: 46 :: bo)) none (some (max 0 (((S (c1 :: 46 :: c2 :: 46 :: c3 :: 46 :: bo)).length : Int) - ((S bo).length : Int) - 1))) = S [c1, 46, c2, 46, c3] :=
  cutL (p := [c1, 46, c2, 46, c3]) (B := bo) (bo.length + 6) (by simp) (by simp)
theorem cut2 {c1 c2 c3 : Nat} : Txt.slice (S [c1, 46, c2, 46, c3]) none (some (max 0 (((S [c1, 46, c2, 46, c3]).length : Int) - ((S [c3]).length : Int) - 1))) = S [c1, 46, c2] :=
  cutL (p := [c1, 46, c2]) (B := [c3]) 5 rfl rfl
theorem cut1 {c1 c2 : Nat} : Txt.slice (S [c1, 46, c2]) none (some (max 0 (((S [c1, 46, c2]).length : Int) - ((S [c2]).length : Int) - 1))) = S [c1] :=
  cutL (p := [c1]) (B := [c2]) 3 rfl rfl
theorem cut0 {c1 : Nat} : Txt.slice (S [c1]) none (some (max 0 (((S [c1]).length : Int) - ((S [c1]).length : Int) - 1))) = S [] := by
  rw [S_len, show max (0 : Int) (((([c1] : List Nat).length : Nat) : Int) - ((([c1] : List Nat).length : Nat) : Int) - 1) = ((0 : Nat) : Int) by show max (0:Int) (1-1-1) = 0; decide, slice_to (Nat.zero_le _)]; rfl
theorem strip_app {w : World} {x y : Str} (H : ∀ tk, StripTel w x tk y) (tk : Tok) : Tel w 129 [.str x tk] 20 (fun _ => True) (fun news news' r => (∃ nw, news' = nw ++ news) ∧ ∃ t, r = .str y t) := H tk
theorem strip_k {w : World} {f : List Nat → List Nat} {y : Str} (H : ∀ k tk, StripTel w (S (f (tq k ++ [46, 108, 111, 99, 97, 108]))) tk y) (k : Nat) : ∀ tk, StripTel w (S (f (tq k ++ [46, 108, 111, 99, 97, 108]))) tk y := H k
theorem row_last {ts : List Value} {v : Value} {i : Nat} (h : ts.length = i) : (ts ++ [v])[((0 : Int) + (i : Int)).toNat]? = some v := by
  rw [Int.zero_add, Int.toNat_natCast, ← h, List.getElem?_append_right (Nat.le_refl _), Nat.sub_self]; rfl
theorem ix_hi {i : Nat} (hi : i ≤ 3) : (0 : Int) + (i : Int) < 2 ^ 63 := by omega
theorem ix_lo {i : Nat} : (0 : Int) ≤ 0 + (i : Int) := by omega
theorem nm_len {nm : List Nat} {k : Nat} (h : nm.length ≤ 20) (q : (tq k).length ≤ 3) : (nm ++ tl k).length ≤ 1000 := by
  rw [List.length_append, List.length_append]; show _ + (_ + 6) ≤ _; omega
theorem nm_1000 {nm : List Nat} (h : nm.length ≤ 20) : nm.length ≤ 1000 := by omega
theorem nm_sz {nm : List Nat} (h : nm.length ≤ 20) : (S nm).length ≤ sizeLine := by rw [S_len, sizeLine_eq]; omega
theorem turn8 {w : World} {dp un : Nat} {gd : Option (List Code)} {outer : List Env} {A₀ : Around} {base h₀ : Heap} {L fa a1 a2 a3 a4 Td Tl I : Addr} {cd : Value} {mean : ExcName → Option Value} {mg mb : Str → Option Value} {R : Led} {Q : Flow → Shared → Prop}
    (B : Below A₀ base outer h₀) (X : (hd.heap_39 w.params).In h₀) (T : Top topProg looseT mean mg mb h₀) (hd : dp + 60 < recursionLimit) (r1 : dp + 20 < recursionLimit) (r2 : un + 8 * 20 < cLine)
    {s : Shared} {m b : Str → Option Value} {i : Nat} {tt z z2 y1 y2 y3 : Tok} {e : Int} {nm st nm' : List Nat} {it : Obj} {ts : List Value} {n n2 : Nat} (hnm : nm.length ≤ 20) (hst : st.length ≤ 20) (htq : ∀ k, (tq k).length ≤ 3)
    (H : ∀ k tk, StripTel w (S (nm ++ tl k)) tk (S st)) (hcut : Txt.slice (S nm) none (some (max 0 (((S nm).length : Int) - ((S st).length : Int) - 1))) = S nm') (hts : ts.length = i) (hi : i ≤ 3)
    (m1 : m "told" = some (.ref Td)) (m2 : m "name" = some (.str (S nm) z)) (mb : ∀ y : Str, y ≠ "told" → y ≠ "turn" → y ≠ "name" → m y = b y) (b1 : b "tails" = some (.ref Tl)) (b2 : b "first" = some (.int (e.fmod 3) z2))
    (F : Fr h₀ L s.heap (fun y => if y = "turn" then some (.int (0 + (i : Int)) tt) else m y)) (N : News h₀ L s.heap ((I, it) :: (Td, lo ts n) :: R))
    (hT : (Tl, lo [.str (Str.ofString "::.local") y1, .str (Str.ofString ":\n.local") y2, .str (Str.ofString "\n\n:.local") y3] n2) ∈ R) (o1 : ∀ p ∈ R, p.1 ≠ Td) (o2 : I ≠ Td) (hg : AllBare s.gens)
    (next : ∀ (t z' : Tok) (n' : Nat) (m' : Str → Option Value) (h' : Heap) (g' : Array GenState) (tk : Nat), m' "told" = some (.ref Td) → m' "name" = some (.str (S nm') z') → (∀ y : Str, y ≠ "told" → y ≠ "turn" → y ≠ "name" → m' y = b y) → Fr h₀ L h' m' → News h₀ L h' ((Td, lo (ts ++ [.str (S st) t]) n') :: (I, it) :: R) → AllBare g' → Q .next { heap := h', gens := g', drawn := s.drawn, toks := tk, os := s.os }) :
    wpAny (model PySem.Challenge.rw_xl0011_01.row.prog w) (lwA w dp un gd L fa cd (lwCl a1 a2 a3 a4) outer) (execs (fbody (lawX w).1.s19) (lwEnv w L fa cd (lwCl a1 a2 a3 a4))) Q (fun _ _ => False) s := by
  have f1 : (fun y : Str => if y = "turn" then some (.int (0 + (i : Int)) tt) else m y) "told" = some (.ref Td) := m1
  have f2 : (fun y : Str => if y = "turn" then some (.int (0 + (i : Int)) tt) else m y) "name" = some (.str (S nm) z) := m2
  have f3 : (fun y : Str => if y = "turn" then some (.int (0 + (i : Int)) tt) else m y) "tails" = some (.ref Tl) := (mb "tails" (by decide) (by decide) (by decide)).trans b1
  have f4 : (fun y : Str => if y = "turn" then some (.int (0 + (i : Int)) tt) else m y) "first" = some (.int (e.fmod 3) z2) := (mb "first" (by decide) (by decide) (by decide)).trans b2
  have f5 : (fun y : Str => if y = "turn" then some (.int (0 + (i : Int)) tt) else m y) "turn" = some (.int (0 + (i : Int)) tt) := rfl
  have f6 : ∀ y : Str, y ≠ "told" → y ≠ "turn" → y ≠ "name" → (fun y : Str => if y = "turn" then some (.int (0 + (i : Int)) tt) else m y) y = b y := fun y e1 e2 e3 => (if_neg e2).trans (mb y e1 e2 e3)
  generalize (fun y : Str => if y = "turn" then some (.int (0 + (i : Int)) tt) else m y) = g at F f1 f2 f3 f4 f5 f6
  have eg : g = fun y : Str => if y = "told" then some (.ref Td) else if y = "name" then some (.str (S nm) z) else if y = "tails" then some (.ref Tl) else if y = "first" then some (.int (e.fmod 3) z2) else if y = "turn" then some (.int (0 + (i : Int)) tt) else g y := m_in f1 (m_in f2 (m_in f3 (m_in f4 (m_set f5))))
  have F0 := F
  rw [eg] at F0
  replace f6 : ∀ y : Str, y ≠ "told" → y ≠ "turn" → y ≠ "name" → (fun y : Str => if y = "told" then some (.ref Td) else if y = "name" then some (.str (S nm) z) else if y = "tails" then some (.ref Tl) else if y = "first" then some (.int (e.fmod 3) z2) else if y = "turn" then some (.int (0 + (i : Int)) tt) else g y) y = b y := fun y e1 e2 e3 => (congrFun eg y).symm.trans (f6 y e1 e2 e3)
  clear F eg f1 f2 f3 f4 f5 m1 m2 mb b1 b2
  unfold lawX lwA lwEnv lawF fbody
  dsimp only
  revert X
  k_fill
  w_top off
  intro X
  refine fold_m F0 ?_
  intro fm F1
  clear F0
  refine fold_ctx ?_
  intro M9 A9 e9
  repeat' (first
    | (k_unfold; (try dsimp only))
    | ((with_reducible show wpAny _ _ (subscriptTail (PySem.Expr.Name _ _) (PySem.Expr.Slice _ _ _ _) (Value.str _ _) _) _ _ _); (k_here; (with_reducible show wpAny _ _ (subscriptTail _ (Expr.Slice none (some _) none _) _ _) _ _ _); (with_reducible rename Fr _ _ _ _ => F'); (with_reducible rename News _ _ _ _ => N'); k_dflt (refine' slice_strN_ns (hsz := ?hsz) (s := ⟨_, _, _, _, _⟩) F' N' ?_); (case hsz => exact nm_sz hnm); intro h9 t9 k9 F9 N9; rw [hcut]))
    | ((with_reducible show wpAny _ _ (subscriptTail (PySem.Expr.Name _ _) (PySem.Expr.BinOp _ _ _ _) (Value.ref _) _) _ _ _); (k_here; (with_reducible show wpAny _ _ (subscriptTail _ _ (Value.ref _) (Value.int (Int.fmod _ _) _)) _ _ _); k_dflt (refine' item_menu ?k0 ?k1 ?k2 ?k3 ?k5 ?H ?k6 ?_; (case k0 => k_asm); (case k1 => exact .tail _ (.tail _ hT)); (case H => exact menu_tails); (case k2 => exact fm_lo _ (by decide)); (case k3 => exact fm_hi _ (by decide)); (case k5 => decide); (case k6 => with_unfolding_all rfl); k_whole); intro t9))
    | ((with_reducible show wpAny _ _ (subscriptTail (PySem.Expr.Name _ _) (PySem.Expr.Name _ _) (Value.ref _) _) _ _ _); (k_here; k_dflt (refine' item_row ?k0 ?k1 ?k2 ?k3 ?k4 ?k6 ?_; (case k0 => k_asm); (case k1 => k_mem); (case k4 => exact row_last hts); (case k2 => exact ix_lo); (case k3 => exact ix_hi hi); (case k6 => with_unfolding_all rfl); k_whole)))
    | ((with_reducible show wpAny _ _ (binaryOp PySem.Operator.Add (Value.str _ _) (Value.str _ _)) _ _ _); (k_here; k_dflt (refine' add_SE ?hx ?hy ?k1 ?_; (case hx | hy => exact rfl); (case k1 => exact nm_len hnm (htq _)); k_whole); intro t9 k9))
    | ((with_reducible show wpAny _ _ (call (Value.ref _) _) _ _ _); (k_here; k_dflt (refine' same_use (strip_app ?kH _) ?k1 ?k2 ?k3 ?k4 ?k5 ?k6 ?k7 ?k8 ?k9 ?_; (case kH => exact H _); (case k1 | k2 => k_asm); (case k3 | k4 | k5 => k_asm); (case k6 => exact rfl); (case k7 => exact r1); (case k8 => exact r2); (case k9 => assumption)); intro tk9 h9 tkk9 g9 F9 N9 G9))
    | ((with_reducible show wpAny _ _ (call (Value.builtin "list.append") _) _ _ _); (k_here; k_dflt (refine' append_lo ?F ?N ?pk ?off ?hz ?_; (case F | N => k_asm); (case pk => (repeat' first | exact Pk.here | refine' Pk.next ?_)); (case off => exact List.forall_mem_cons.mpr ⟨o2, o1⟩); (case hz => exact len_lt hts hi)); intro h9 n9 F9 N9))
    | ((with_reducible show wpAny _ _ (call (Value.builtin "max") _) _ _ _); (k_here; k_dflt (refine' max_m ?k1 ?k2 ?k3 ?_; (case k1 => exact rfl); (case k2 | k3 => k_asm); k_whole); intro h9 tk9 t9 F9 N9))
    | ((with_reducible show wpAny _ _ (call (Value.builtin "len") _) _ _ _); (k_here; (with_reducible show wpAny _ _ (call (Value.builtin "len") [Value.str _ _]) _ _ _); k_dflt (refine' len_S ?k1 ?_; (case k1 => first | exact nm_1000 hnm | exact nm_1000 hst); k_whole); intro t9 k9))
    | ((with_reducible show wpAny _ _ (execs (_ :: _) _) _ _ _); (k_here; (with_reducible refine wpAny_execs_cons ?_); try dsimp only))
    | (walk1) | (dsimp only; walk1) | (leave1; (try dsimp only)) | fail "no step")
  have N8 := ‹News h₀ L _ _›
  refine next _ _ _ _ _ _ _ rfl rfl (fun y e1 e2 e3 => (if_neg e3).trans (f6 y e1 e2 e3)) (by assumption) N8 (by assumption)
theorem loop8 {w : World} {dp un : Nat} {gd : Option (List Code)} {outer : List Env} {A₀ : Around} {base h₀ : Heap} {L fa a1 a2 a3 a4 Td Tl I : Addr} {cd : Value} {mean : ExcName → Option Value} {mg mb : Str → Option Value} {R : Led} {Q : Flow → Shared → Prop}
    (B : Below A₀ base outer h₀) (X : (hd.heap_39 w.params).In h₀) (T : Top topProg looseT mean mg mb h₀) (hd : dp + 60 < recursionLimit) (hu : un + 480 < cLine)
    {m b : Str → Option Value} {z z2 y1 y2 y3 : Tok} {e : Int} {c1 c2 c3 : Nat} {bo : List Nat} {n2 : Nat} {g : Array GenState} {dr : Drawn} {os : OsState} (hsz : bo.length ≤ 8) (htq : ∀ k, (tq k).length ≤ 3)
    (H1 : ∀ k tk, StripTel w (S ((c1 :: 46 :: c2 :: 46 :: c3 :: 46 :: bo) ++ tl k)) tk (S bo)) (H2 : ∀ k tk, StripTel w (S ([c1, 46, c2, 46, c3] ++ tl k)) tk (S [c3])) (H3 : ∀ k tk, StripTel w (S ([c1, 46, c2] ++ tl k)) tk (S [c2])) (H4 : ∀ k tk, StripTel w (S ([c1] ++ tl k)) tk (S [c1]))
    (m1 : m "told" = some (.ref Td)) (m2 : m "name" = some (.str (S (c1 :: 46 :: c2 :: 46 :: c3 :: 46 :: bo)) z)) (mb : ∀ y : Str, y ≠ "told" → y ≠ "turn" → y ≠ "name" → m y = b y) (b1 : b "tails" = some (.ref Tl)) (b2 : b "first" = some (.int (e.fmod 3) z2))
    (hT : (Tl, lo [.str (Str.ofString "::.local") y1, .str (Str.ofString ":\n.local") y2, .str (Str.ofString "\n\n:.local") y3] n2) ∈ R) (o1 : ∀ p ∈ R, p.1 ≠ Td) (o2 : Td ≠ I) (o3 : ∀ p ∈ R, p.1 ≠ I) (hg : AllBare g)
    (next : ∀ (x1 x2 x3 x4 : Tok) (n : Nat) (m' : Str → Option Value) (h' : Heap) (g' : Array GenState) (tkk : Nat), m' "told" = some (.ref Td) → (∀ y : Str, y ≠ "told" → y ≠ "turn" → y ≠ "name" → m' y = b y) → Fr h₀ L h' m' →
      News h₀ L h' ((Td, lo [.str (S bo) x1, .str (S [c3]) x2, .str (S [c2]) x3, .str (S [c1]) x4] n) :: R) → AllBare g' → Q .next { heap := h', gens := g', drawn := dr, toks := tkk, os := os }) :
    LwRest PySem.Challenge.rw_xl0011_01.row.prog w (lwA w dp un gd L fa cd (lwCl a1 a2 a3 a4) outer) h₀ L (lwEnv w L fa cd (lwCl a1 a2 a3 a4)) "turn" (fbody (lawX w).1.s19) Q (fun _ => True) (fun i v => ∃ t, v = .int (0 + (i : Int)) t) dr os I 4 0 m ((Td, lo [] 0) :: R) g := by
  have r1 : dp + 20 < recursionLimit := by omega
  have r2 : un + 8 * 20 < cLine := by omega
  have hl : (c1 :: 46 :: c2 :: 46 :: c3 :: 46 :: bo).length ≤ 20 := by show bo.length + 6 ≤ 20; omega
  have hb : bo.length ≤ 20 := by omega
  refine LwRest.succ fun v it h tk hv ok F N => ?_
  obtain ⟨tt, rfl⟩ := hv
  refine turn8 (i := 0) (ts := []) B X T hd r1 r2 hl hb htq H1 cut3 rfl (by decide) m1 m2 mb b1 b2 F N hT o1 (Ne.symm o2) hg fun x1 z' n' m' h' g' tk m1 m2 mb F N G => LwEnd.intro F N (.next .here) (List.forall_mem_cons.mpr ⟨o2, o3⟩) ⟨trivial, ?_⟩
  refine LwRest.succ fun v it h tk hv ok F N => ?_
  obtain ⟨tt, rfl⟩ := hv
  refine turn8 (i := 1) (nm := [c1, 46, c2, 46, c3]) (st := [c3]) (ts := [_]) B X T hd r1 r2 (by decide : 5 ≤ 20) (by decide : 1 ≤ 20) htq H2 cut2 rfl (by decide) m1 m2 mb b1 b2 F N hT o1 (Ne.symm o2) G fun x2 z' n' m' h' g' tk m1 m2 mb F N G => LwEnd.intro F N (.next .here) (List.forall_mem_cons.mpr ⟨o2, o3⟩) ⟨trivial, ?_⟩
  refine LwRest.succ fun v it h tk hv ok F N => ?_
  obtain ⟨tt, rfl⟩ := hv
  refine turn8 (i := 2) (nm := [c1, 46, c2]) (st := [c2]) (ts := [_, _]) B X T hd r1 r2 (by decide : 3 ≤ 20) (by decide : 1 ≤ 20) htq H3 cut1 rfl (by decide) m1 m2 mb b1 b2 F N hT o1 (Ne.symm o2) G fun x3 z' n' m' h' g' tk m1 m2 mb F N G => LwEnd.intro F N (.next .here) (List.forall_mem_cons.mpr ⟨o2, o3⟩) ⟨trivial, ?_⟩
  refine LwRest.succ fun v it h tk hv ok F N => ?_
  obtain ⟨tt, rfl⟩ := hv
  refine turn8 (i := 3) (nm := [c1]) (st := [c1]) (ts := [_, _, _]) B X T hd r1 r2 (by decide : 1 ≤ 20) (by decide : 1 ≤ 20) htq H4 cut0 rfl (by decide) m1 m2 mb b1 b2 F N hT o1 (Ne.symm o2) G fun x4 z' n' m' h' g' tk m1 m2 mb F N G => LwEnd.intro F N (.next .here) (List.forall_mem_cons.mpr ⟨o2, o3⟩) ⟨trivial, ?_⟩
  exact LwRest.zero fun h tk F N => next x1 x2 x3 x4 _ _ _ _ _ m1 mb F N G
theorem seg8 {w : World} {dp un : Nat} {gd : Option (List Code)} {outer : List Env} {A₀ : Around} {base h₀ : Heap} {L fa a1 a2 a3 a4 P Nm Tl Rd : Addr} {cd : Value} {mean : ExcName → Option Value} {mg mb : Str → Option Value} {bs : Led} {Q : Flow → Shared → Prop}
    (B : Below A₀ base outer h₀) (X : (hd.heap_39 w.params).In h₀) (T : Top topProg looseT mean mg mb h₀) (hd : dp + 60 < recursionLimit) (hu : un + 480 < cLine)
    {s : Shared} {u : Str → Option Value} {c1 c2 c3 : Nat} {e : Int} {bo : List Nat} {z1 z2 y1 y2 y3 : Tok} {n2 : Nat} {oR oN o3 o4 : Obj} (hsz : bo.length ≤ 8) (htq : ∀ k, (tq k).length ≤ 3)
    (H1 : ∀ k tk, StripTel w (S (c1 :: 46 :: c2 :: 46 :: c3 :: 46 :: (bo ++ (tq k ++ [46, 108, 111, 99, 97, 108])))) tk (S bo)) (H2 : ∀ k tk, StripTel w (S (c1 :: 46 :: c2 :: 46 :: c3 :: (tq k ++ [46, 108, 111, 99, 97, 108]))) tk (S [c3])) (H3 : ∀ k tk, StripTel w (S (c1 :: 46 :: c2 :: (tq k ++ [46, 108, 111, 99, 97, 108]))) tk (S [c2])) (H4 : ∀ k tk, StripTel w (S (c1 :: (tq k ++ [46, 108, 111, 99, 97, 108]))) tk (S [c1]))
    (F : Fr h₀ L s.heap (fun y => if y = "name" then some (.str (S (c1 :: 46 :: c2 :: 46 :: c3 :: 46 :: bo)) z1) else if y = "tails" then some (.ref Tl) else if y = "first" then some (.int (e.fmod 3) z2) else u y))
    (N : News h₀ L s.heap ((Rd, oR) :: (Nm, oN) :: (Tl, lo [.str (Str.ofString "::.local") y1, .str (Str.ofString ":\n.local") y2, .str (Str.ofString "\n\n:.local") y3] n2) :: (a4, o4) :: (a3, o3) :: bs)) (hg : AllBare s.gens)
    (next : ∀ (Td : Addr) (x1 x2 x3 x4 : Tok) (n : Nat) (m' : Str → Option Value) (h' : Heap) (g' : Array GenState) (tkk : Nat), m' "told" = some (.ref Td) → (∀ y : Str, y ≠ "told" → y ≠ "turn" → y ≠ "name" → m' y = (if y = "tails" then some (.ref Tl) else if y = "first" then some (.int (e.fmod 3) z2) else u y)) → Fr h₀ L h' m' →
      News h₀ L h' ((Td, lo [.str (S bo) x1, .str (S [c3]) x2, .str (S [c2]) x3, .str (S [c1]) x4] n) :: (Rd, oR) :: (Nm, oN) :: (Tl, lo [.str (Str.ofString "::.local") y1, .str (Str.ofString ":\n.local") y2, .str (Str.ofString "\n\n:.local") y3] n2) :: (a4, o4) :: (a3, o3) :: bs) → AllBare g' → Q .next { heap := h', gens := g', drawn := s.drawn, toks := tkk, os := s.os }) :
    wpAny (model PySem.Challenge.rw_xl0011_01.row.prog w) (lwA w dp un gd L fa cd (lwCl a1 a2 a3 a4) outer) (execs [(lawX w).1.s18, (lawX w).1.s19] (lwEnv w L fa cd (lwCl a1 a2 a3 a4))) Q (fun _ _ => False) s := by
  unfold lawX lwA lwEnv lawF
  dsimp only
  revert X
  k_fill
  w_top off
  intro X
  try (refine fold_ctx ?_; intro M9 A9 e9)
  repeat' (first
    | (k_unfold; (try dsimp only))
    | ((with_reducible show wpAny _ _ (exec (Stmt.For (PySem.Expr.Name _ _) (PySem.Expr.Call _ _ _ _) _ _ _) _) _ _ _); (k_here; k_dflt (refine' for_x ?_ ?hs; (case hs => intro _; rfl); k_whole)))
    | ((with_reducible show wpAny _ _ (pyIter (Value.ref _)) _ _ _); (k_here; k_dflt (refine' iter_r ?hh ?hk ?hx ?F ?N ?hr ?hsm ?hn ?_; (case hh | hk | hx => exact rfl); (case F | N => k_asm); (case hr => assumption); (case hsm => decide); (case hn => exact rfl)); intro I9 l9))
    | ((with_reducible show wpAny _ _ (execs (_ :: _) _) _ _ _); (k_here; (with_reducible refine wpAny_execs_cons ?_); try dsimp only))
    | (walk1) | (dsimp only; walk1) | (leave1; (try dsimp only)) | fail "no step")
  have I9lt := ‹∀ p : Addr × Obj, p ∈ _ :: _ → p.1 < _›
  exact loop8 (b := fun y => if y = "tails" then some (.ref Tl) else if y = "first" then some (.int (e.fmod 3) z2) else u y) B X T hd hu hsz htq H1 H2 H3 H4 rfl rfl (fun y e1 e2 e3 => (if_neg e1).trans (if_neg e3)) rfl rfl (.tail _ (.tail _ (.head _))) (offL (by assumption)) (Nat.ne_of_lt (I9lt _ (.head _))) (fun p hp => Nat.ne_of_lt (I9lt p (.tail _ hp))) (by assumption) fun x1 x2 x3 x4 n m' h' g' tkk q1 q2 F N G => wpAny_execs_nil (next _ x1 x2 x3 x4 n m' h' g' tkk q1 q2 F N G)
end
section
open PySem PySem.W PyProof.Rows
open PySem.Calls PySem.Spec
open PySem.Builtin PySem.Builtin.Str PySem.StrLaws
set_option maxRecDepth 100000
set_option maxHeartbeats 8000000
theorem seg9 {w : World} {dp un : Nat} {gd : Option (List Code)} {outer : List Env} {A₀ : Around} {base h₀ : Heap} {L fa a1 a2 a3 a4 Nm Td Rd Tl : Addr} {cd : Value} {mean : ExcName → Option Value} {mg mb : Str → Option Value} {bs : Led} {Q : Flow → Shared → Prop}
    (B : Below A₀ base outer h₀) (X : (hd.heap_39 w.params).In h₀) (T : Top topProg looseT mean mg mb h₀) (hd : dp + 60 < recursionLimit) (hu : un + 480 < cLine)
    {s : Shared} {u : Str → Option Value} {c1 c2 c3 : Nat} {bo : List Nat} {z1 x1 x2 x3 x4 w1 w2 w3 : Tok} {n n1 : Nat} {oR oT o3 o4 : Obj}
    (p1 : Cps [c1]) (p2 : Cps [c2]) (p3 : Cps [c3]) (p4 : Cps bo)
    (F : Fr h₀ L s.heap (fun y => if y = "told" then some (.ref Td) else if y = "names" then some (.ref Nm) else if y = "body" then some (.str (S bo) z1) else u y))
    (N : News h₀ L s.heap ((Td, lo [.str (S bo) x1, .str (S [c3]) x2, .str (S [c2]) x3, .str (S [c1]) x4] n) :: (Rd, oR) :: (Nm, lo [.str (S [c1]) w1, .str (S [c2]) w2, .str (S [c3]) w3] n1) :: (Tl, oT) :: (a4, o4) :: (a3, o3) :: bs)) (hg : AllBare s.gens)
    (next : ∀ (m' : Str → Option Value) (h' : Heap) (g' : Array GenState) (tkk : Nat), (∀ y : Str, m' y = (fun y : Str => if y = "told" then some (.ref Td) else if y = "names" then some (.ref Nm) else if y = "body" then some (.str (S bo) z1) else u y) y) → Fr h₀ L h' m' →
      News h₀ L h' ((Td, lo [.str (S bo) x1, .str (S [c3]) x2, .str (S [c2]) x3, .str (S [c1]) x4] n) :: (Rd, oR) :: (Nm, lo [.str (S [c1]) w1, .str (S [c2]) w2, .str (S [c3]) w3] n1) :: (Tl, oT) :: (a4, o4) :: (a3, o3) :: bs) → AllBare g' → Q .next { heap := h', gens := g', drawn := s.drawn, toks := tkk, os := s.os }) :
    wpAny (model PySem.Challenge.rw_xl0011_01.row.prog w) (lwA w dp un gd L fa cd (lwCl a1 a2 a3 a4) outer) (execs [(lawX w).1.s20] (lwEnv w L fa cd (lwCl a1 a2 a3 a4))) Q (fun _ _ => False) s := by
  unfold lawX lwA lwEnv lawF
  dsimp only
  revert X
  k_fill
  w_top off
  intro X
  repeat' (first
    | (k_unfold; (try dsimp only))
    | ((with_reducible first | show wpAny _ _ (exec _ _) _ _ _ | show wpAny _ _ (isTrue _ _ _) _ _ _); (fail_if_success (with_reducible show wpAny _ _ _ Q8 _ _)); (with_reducible refine fold_q ?_); intro Q8 hQ8)
    | ((with_reducible refine hQ8 _ _ ?_); clear hQ8; (try dsimp only))
    | ((with_reducible show wpAny _ _ (subscriptTail (PySem.Expr.Name _ _) (PySem.Expr.Constant _ _ _) (Value.ref _) _) _ _ _); (k_here; k_dflt (refine' item_row ?k0 ?k1 ?k2 ?k3 ?k4 ?k6 ?_; (case k0 => k_asm); (case k1 => k_mem); (case k4 => exact rfl); (case k2 | k3 => decide); (case k6 => with_unfolding_all rfl); k_whole)))
    | ((with_reducible show wpAny _ _ (compareOp CmpOp.NotEq (Value.ref _) (Value.ref _)) _ _ _); (k_here; (with_reducible show wpAny _ _ (compareOp CmpOp.NotEq (Value.ref _) (Value.ref _)) _ _ _); k_dflt (refine' ne_lists ?k1 ?k2 ?k3 ?k4 ?k5 ?_; (case k1 | k2 => ked_read); (case k3 => exact shapedS4 (by assumption) (by assumption) (by assumption) (by assumption)); (case k4 => ktr_units); (case k5 => simp [PyData.eqv, PyData.eqvAll]); k_whole)))
    | ((with_reducible show wpAny _ _ (call (Value.ref _) _) _ _ _); (k_here; k_dflt (refine' same_use (reach_app ?kH _) ?k1 ?k2 ?k3 ?k4 ?k5 ?k6 ?k7 ?k8 ?k9 ?_; (case kH => assumption); (case k1 | k2 => k_asm); (case k3 | k4 | k5 => k_asm); (case k6 => exact rfl); (case k7 => ktr_room); (case k8 => ktr_units); (case k9 => assumption)); intro tk9 h9 tkk9 g9 F9 N9 G9))
    | ((with_reducible show wpAny _ _ (execs (_ :: _) _) _ _ _); (k_here; (with_reducible refine wpAny_execs_cons ?_); try dsimp only))
    | (walk1) | (dsimp only; walk1) | (leave1; (try dsimp only)) | fail "no step")
  have N8 := ‹News h₀ L _ _›
  refine' next _ _ _ _ ?m ?F ?N ?G
  case F => assumption
  case N =>
    refine news_sub N8 fun q hq => ?_
    exact .tail _ hq
  case m => exact fun y => rfl
  case G => assumption
end
section
set_option maxRecDepth 100000
open PySem PySem.W PyProof.Rows
def pik (k c : Nat) : Nat := if c = 120 then nA k else if c = 121 then nB k else if c = 122 then nC k else c
def sik (k i c : Nat) : Nat := if c = 112 then hA i else if c = 113 then hB i else if c = 114 then hC i else pik k c
def tau (k i c : Nat) : Nat := if c = nA k then hA i else if c = nB k then hB i else if c = nC k then hC i else c
def ikv (k : Nat) : Nat := match k with
  | 3 => 4
  | 4 => 3
  | k => k
theorem nm_ok : ∀ k, k < 6 → (119 < nA k ∧ 119 < nB k ∧ 119 < nC k) ∧ pik (ikv k) (pik k 120) = 120 ∧ pik (ikv k) (pik k 121) = 121 ∧ pik (ikv k) (pik k 122) = 122 := by decide
theorem th_ok : ∀ i, i < 3 → 111 < hA i ∧ 111 < hB i ∧ 111 < hC i := by decide
theorem pik_else {k c : Nat} (h1 : ¬ c = 120) (h2 : ¬ c = 121) (h3 : ¬ c = 122) : pik k c = c := (if_neg h1).trans ((if_neg h2).trans (if_neg h3))
theorem pik_back {k : Nat} (hk : k < 6) (a : Nat) : pik (ikv k) (pik k a) = a := by
  obtain ⟨_, h1, h2, h3⟩ := nm_ok k hk
  by_cases e1 : a = 120
  · rw [e1]; exact h1
  · by_cases e2 : a = 121
    · rw [e2]; exact h2
    · by_cases e3 : a = 122
      · rw [e3]; exact h3
      · rw [pik_else e1 e2 e3, pik_else e1 e2 e3]
theorem pik_inj {k : Nat} (hk : k < 6) (a b : Nat) : Nat.beq (pik k a) (pik k b) = Nat.beq a b := by
  cases e : Nat.beq a b
  · cases e2 : Nat.beq (pik k a) (pik k b)
    · rfl
    · have h : a = b := (pik_back hk a).symm.trans ((congrArg (pik (ikv k)) (Nat.eq_of_beq_eq_true e2)).trans (pik_back hk b))
      rw [h, Nat.beq_refl] at e; cases e
  · rw [Nat.eq_of_beq_eq_true e]; exact Nat.beq_refl _
theorem beq_no {x p : Nat} (h : x ≠ p) : Nat.beq x p = false := by
  cases e : Nat.beq x p
  · rfl
  · exact absurd (Nat.eq_of_beq_eq_true e) h
theorem beq_far {x y p : Nat} (hp : p ≤ 111) (h : x = y ∨ (111 < x ∧ 111 < y)) : Nat.beq x p = Nat.beq y p := by
  rcases h with rfl | ⟨h1, h2⟩
  · rfl
  · rw [beq_no (Nat.ne_of_gt (Nat.lt_of_le_of_lt hp h1)), beq_no (Nat.ne_of_gt (Nat.lt_of_le_of_lt hp h2))]
theorem pik_far {k : Nat} (hk : k < 6) (c : Nat) : pik k c = c ∨ (111 < pik k c ∧ 111 < c) := by
  obtain ⟨⟨h1, h2, h3⟩, _⟩ := nm_ok k hk
  have l : (111 : Nat) < 119 := by decide
  by_cases e1 : c = 120
  · exact .inr ⟨by rw [show pik k c = nA k from if_pos e1]; exact Nat.lt_trans l h1, by rw [e1]; decide⟩
  · by_cases e2 : c = 121
    · exact .inr ⟨by rw [show pik k c = nB k from (if_neg e1).trans (if_pos e2)]; exact Nat.lt_trans l h2, by rw [e2]; decide⟩
    · by_cases e3 : c = 122
      · exact .inr ⟨by rw [show pik k c = nC k from (if_neg e1).trans ((if_neg e2).trans (if_pos e3))]; exact Nat.lt_trans l h3, by rw [e3]; decide⟩
      · exact .inl (pik_else e1 e2 e3)
theorem sik_far {k i : Nat} (hk : k < 6) (hi : i < 3) (c : Nat) : sik k i c = c ∨ (111 < sik k i c ∧ 111 < c) := by
  obtain ⟨h1, h2, h3⟩ := th_ok i hi
  by_cases e1 : c = 112
  · exact .inr ⟨by rw [show sik k i c = hA i from if_pos e1]; exact h1, by rw [e1]; decide⟩
  · by_cases e2 : c = 113
    · exact .inr ⟨by rw [show sik k i c = hB i from (if_neg e1).trans (if_pos e2)]; exact h2, by rw [e2]; decide⟩
    · by_cases e3 : c = 114
      · exact .inr ⟨by rw [show sik k i c = hC i from (if_neg e1).trans ((if_neg e2).trans (if_pos e3))]; exact h3, by rw [e3]; decide⟩
      · rw [show sik k i c = pik k c from (if_neg e1).trans ((if_neg e2).trans (if_neg e3))]; exact pik_far hk c
theorem ren_far {σ : Nat → Nat} (h : ∀ c, σ c = c ∨ (111 < σ c ∧ 111 < c)) : Ren σ where
  i := fun c => beq_far (by decide) (h c)
  k := fun c => beq_far (by decide) (h c)
  s := fun c => beq_far (by decide) (h c)
  b := fun c => beq_far (by decide) (h c)
  c := fun c => beq_far (by decide) (h c)
theorem pik_ren {k : Nat} (hk : k < 6) : Ren (pik k) := ren_far (pik_far hk)
theorem sik_ren {k i : Nat} (hk : k < 6) (hi : i < 3) : Ren (sik k i) := ren_far (sik_far hk hi)
theorem pik_letters : ∀ k, k < 6 → ∀ b, b ∈ [120, 121, 122, 107] → ∃ a, a < 4 ∧ pik k (letter a) = b := by decide
theorem pik_letter {k : Nat} (hk : k < 6) {b : Nat} (hb : Lt b) : ∃ a, a < 4 ∧ pik k (letter a) = b :=
  pik_letters k hk b (by rcases hb with rfl | rfl | rfl | rfl <;> decide)
theorem tau_letters : ∀ k, k < 6 → ∀ i, i < 3 → ∀ a, a < 4 → sik k i (rho (letter a)) = tau k i (pik k (letter a)) := by decide
theorem tau_pik {k i a : Nat} (hk : k < 6) (hi : i < 3) (ha : a < 4) : sik k i (rho (letter a)) = tau k i (pik k (letter a)) := tau_letters k hk i hi a ha
theorem oks_low {m : Bool} {c : Nat} (h : oks m c = true) : c < 112 := by
  unfold oks at h
  cases e1 : Nat.beq c 83
  · cases e2 : Nat.beq c 75
    · cases e3 : Nat.beq c 73
      · cases e4 : Nat.beq c 107
        · cases m
          · simp only [e1, e2, e3, e4] at h; cases h
          · cases e5 : Nat.beq c 66
            · simp only [e1, e2, e3, e4, e5] at h
              rw [Nat.eq_of_beq_eq_true h]; decide
            · rw [Nat.eq_of_beq_eq_true e5]; decide
        · rw [Nat.eq_of_beq_eq_true e4]; decide
      · rw [Nat.eq_of_beq_eq_true e3]; decide
    · rw [Nat.eq_of_beq_eq_true e2]; decide
  · rw [Nat.eq_of_beq_eq_true e1]; decide
theorem pik_low {k c : Nat} (h : c < 112) : pik k c = c := by
  exact pik_else (Nat.ne_of_lt (Nat.lt_trans h (by decide))) (Nat.ne_of_lt (Nat.lt_trans h (by decide))) (Nat.ne_of_lt (Nat.lt_trans h (by decide)))
theorem sik_low {k i c : Nat} (h : c < 112) : sik k i c = c := by
  exact (if_neg (Nat.ne_of_lt h)).trans ((if_neg (Nat.ne_of_lt (Nat.lt_trans h (by decide)))).trans ((if_neg (Nat.ne_of_lt (Nat.lt_trans h (by decide)))).trans (pik_low h)))
abbrev prg (k : Nat) (d m : Bool) (t : Tm) : Tm := without (nA k) d m (without (nB k) d m (without (nC k) d m t))
theorem subst_shp {σ : Nat → Nat} : ∀ {j : Nat} {a b c d : Tm}, subst σ (shp j a b c d) = shp j (subst σ a) (subst σ b) (subst σ c) (subst σ d)
  | 0, _, _, _, _ => rfl
  | 1, _, _, _, _ => rfl
  | 2, _, _, _, _ => rfl
  | 3, _, _, _, _ => rfl
  | _ + 4, _, _, _, _ => rfl
theorem shp_congr {j : Nat} {a b c d a' b' c' d' : Tm} (h1 : a = a') (h2 : b = b') (h3 : c = c') (h4 : d = d') : shp j a b c d = shp j a' b' c' d' := by rw [h1, h2, h3, h4]
theorem chk_out {d m : Bool} {t : Tm} (h : chk d m t = true) : lv (oks m) (without 120 d m (without 121 d m (without 122 d m t))) = true ∧
    ∃ K, norm 8 (.app (.app (.app (without 120 d m (without 121 d m (without 122 d m t))) (.leaf 112)) (.leaf 113)) (.leaf 114)) = some (subst rho t, K) ∧ K ≤ 200 := by
  unfold chk at h
  dsimp only at h
  generalize without 120 d m (without 121 d m (without 122 d m t)) = q at h
  cases e : lv (oks m) q
  · rw [e] at h; cases h
  · rw [e] at h
    dsimp only at h
    refine ⟨rfl, ?_⟩
    generalize norm 8 (.app (.app (.app q (.leaf 112)) (.leaf 113)) (.leaf 114)) = r at h
    rcases r with _ | ⟨r, K⟩
    · cases h
    · dsimp only at h
      cases e2 : r.same (subst rho t)
      · rw [e2] at h; cases h
      · rw [e2] at h
        exact ⟨K, by rw [same_eq e2], Nat.le_of_ble_eq_true h⟩
theorem plain_law {k i j b0 b1 b2 b3 : Nat} (d m : Bool) (hk : k < 6) (hi : i < 3) (hj : j < 5) (h0 : Lt b0) (h1 : Lt b1) (h2 : Lt b2) (h3 : Lt b3) :
    lv (oks m) (prg k d m (shp j (.leaf b0) (.leaf b1) (.leaf b2) (.leaf b3))) = true ∧
    ∃ K, norm 8 (.app (.app (.app (prg k d m (shp j (.leaf b0) (.leaf b1) (.leaf b2) (.leaf b3))) (.leaf (hA i))) (.leaf (hB i))) (.leaf (hC i))) = some (subst (tau k i) (shp j (.leaf b0) (.leaf b1) (.leaf b2) (.leaf b3)), K) ∧ K ≤ 200 := by
  obtain ⟨a0, l0, e0⟩ := pik_letter hk h0
  obtain ⟨a1, l1, e1⟩ := pik_letter hk h1
  obtain ⟨a2, l2, e2⟩ := pik_letter hk h2
  obtain ⟨a3, l3, e3⟩ := pik_letter hk h3
  obtain ⟨q1, K, q2, q3⟩ := chk_out (chk_at d m hj l0 l1 l2 l3)
  have et : shp j (.leaf b0) (.leaf b1) (.leaf b2) (.leaf b3) = subst (pik k) (shp j (.leaf (letter a0)) (.leaf (letter a1)) (.leaf (letter a2)) (.leaf (letter a3))) := by
    rw [subst_shp]
    simp only [subst, e0, e1, e2, e3]
  have er : subst (tau k i) (shp j (.leaf b0) (.leaf b1) (.leaf b2) (.leaf b3)) = subst (sik k i) (subst rho (shp j (.leaf (letter a0)) (.leaf (letter a1)) (.leaf (letter a2)) (.leaf (letter a3)))) := by
    rw [subst_shp, subst_shp, subst_shp]
    simp only [subst, tau_pik hk hi l0, tau_pik hk hi l1, tau_pik hk hi l2, tau_pik hk hi l3, e0, e1, e2, e3]
  rw [er, et]
  generalize shp j (.leaf (letter a0)) (.leaf (letter a1)) (.leaf (letter a2)) (.leaf (letter a3)) = t at q1 q2
  have ep : prg k d m (subst (pik k) t) = without 120 d m (without 121 d m (without 122 d m t)) := by
    have x : nA k = pik k 120 := rfl
    have y : nB k = pik k 121 := rfl
    have z : nC k = pik k 122 := rfl
    show without (nA k) d m (without (nB k) d m (without (nC k) d m _)) = _
    rw [x, y, z, without_subst (pik_ren hk) (pik_inj hk), without_subst (pik_ren hk) (pik_inj hk), without_subst (pik_ren hk) (pik_inj hk)]
    exact lv_subst (fun c hc => pik_low (oks_low hc)) q1
  rw [ep]
  refine ⟨q1, K, ?_, q3⟩
  have es := norm_subst (sik_ren (k := k) (i := i) hk hi) 8 (.app (.app (.app (without 120 d m (without 121 d m (without 122 d m t))) (.leaf 112)) (.leaf 113)) (.leaf 114))
  rw [q2] at es
  simp only [subst, Option.map_some, sub1, lv_subst (fun c hc => sik_low (oks_low hc)) q1] at es
  exact es
theorem fuse_shp : ∀ {p3 p2 : Nat} {a b c d : Tm}, p3 < 3 → p2 < 2 → ∃ j, j < 5 ∧ fuse 0 (fuse p2 (fuse p3 [a, b, c, d])) = [shp j a b c d]
  | 0, 0, _, _, _, _, _, _ => ⟨0, by decide, rfl⟩
  | 0, 1, _, _, _, _, _, _ => ⟨1, by decide, rfl⟩
  | 1, 0, _, _, _, _, _, _ => ⟨2, by decide, rfl⟩
  | 1, 1, _, _, _, _, _, _ => ⟨3, by decide, rfl⟩
  | 2, 0, _, _, _, _, _, _ => ⟨1, by decide, rfl⟩
  | 2, 1, _, _, _, _, _, _ => ⟨4, by decide, rfl⟩
end
section
open PySem PySem.W PyProof.Rows
open PySem.Calls PySem.Spec
set_option maxRecDepth 100000
set_option maxHeartbeats 8000000
theorem item_S {prog : Program} {w : World} {A : Around} {E : Value → Shared → Prop} {s : Shared} {value slice : PySem.Expr} {t u : Tok} {l : List Nat} {k : Int} {c : Nat} {Q : Value → Shared → Prop} (h0 : 0 ≤ k) (hk : l[k.toNat]? = some c) (hz : k < 1000)
    (hs : subscripted slice false (.str (S l) t) (.int k u) = operate [.str (S l) t, .int k u] (getItem (.str (S l) t) (.int k u)))
    (ht : ∀ r, letTemporaryGo value (.str (S l) t) r = pure ())
    (h : ∀ t' j, Q (.str (S [c]) t') { s with toks := j }) : wpAny (model prog w) A (subscriptTail value slice (.str (S l) t) (.int k u)) Q E s := by
  obtain ⟨hl, e⟩ := List.getElem?_eq_some_iff.mp hk
  refine item_str (fitsSsize_of (N := 9223372036854775808) (by omega) (by omega) (Int.le_refl _)) (by rw [S_len]; omega) (by rw [S_len]; omega) (fun _ => ?_) hs ht
  have e2 : Txt.item (S l) k = S [c] := by
    unfold Txt.item Txt.charAt
    rw [PySem.StrLaws.at_nonneg (n := c) h0 (by simpa [S] using hk)]
    rfl
  rw [e2]
  exact h _ _
theorem glued_S {g : Nat → Nat} : ∀ l : List Nat, Txt.join (Str.ofString "") (l.map fun c => S [g c]) = S (l.map g)
  | [] => rfl
  | c :: l => by
    have key : ∀ (l : List Nat) (a : Array Nat), ((l.map fun c => S [g c]).foldl (fun acc p => acc ++ (S []).cps ++ p.cps) a) = a ++ (l.map g).toArray := by
      intro l
      induction l with
      | nil => intro a; simp
      | cons d l ih =>
        intro a
        rw [List.map_cons, List.foldl_cons, ih]
        simp [S]
    rw [o_nil]
    apply Str.ext'
    show ((l.map fun c => S [g c]).foldl (fun acc p => acc ++ (S []).cps ++ p.cps) (S [g c]).cps) = _
    rw [key]
    simp [S]
theorem ne_cell {h₀ h : Heap} {L a c : Addr} {news : Led} {vs : List Value} {n : Nat} {o : Obj} {v : Option Value} (N : News h₀ L h news) (hm : (a, lo vs n) ∈ news) (hc : (c, o) ∈ news) (d : o.data = .cell v) : a ≠ c := fun q => by
  have e1 := (N _ hm).1
  have e2 := (N _ hc).1
  rw [q, e2] at e1
  injection e1 with e1
  have e1 : lo vs n = o := e1.symm
  rw [← e1] at d
  cases d
theorem ne_new {news : Led} {d c : Addr} {o : Obj} (l : ∀ p ∈ news, p.1 < d) (hm : (c, o) ∈ news) : d ≠ c := Nat.ne_of_gt (l _ hm)
def tsub (c1 c2 c3 g1 g2 g3 c : Nat) : Nat := if c = c1 then g1 else if c = c2 then g2 else if c = c3 then g3 else c
theorem get_tab {prog : Program} {w : World} {A : Around} {E : Value → Shared → Prop} {s : Shared} {h₀ : Heap} {L d : Addr} {news : Led} {o : Obj} {c1 c2 c3 g1 g2 g3 c : Nat} {u1 u2 u3 t u : Tok} {Q : Value → Shared → Prop} (N : News h₀ L s.heap news) (hp : (d, o) ∈ news)
    (hd : o.IsDictOf (PySem.strKind prog w) [(S [c1], .str (S [g1]) u1), (S [c2], .str (S [g2]) u2), (S [c3], .str (S [g3]) u3)]) (lo : (d == sysModules) = false)
    (h : ∀ t', Q (.str (S [tsub c1 c2 c3 g1 g2 g3 c]) t') { s with toks := s.toks + 1 }) : wpAny (model prog w) A (call (.builtin "dict.get") [.ref d, .str (S [c]) t, .str (S [c]) u]) Q E s := by
  refine kdg_get2 (knd := PySem.strKind _ _) N hp hd lo (strKind_is _ _ _ _) _ rfl ?_
  have inj : ∀ a b : Nat, (S [a] == S [b]) = decide (a = b) := fun a b => by
    rw [S_beq]
    by_cases e : a = b
    · rw [e, decide_eq_true rfl, decide_eq_true rfl]
    · rw [decide_eq_false e, decide_eq_false (by simpa using e)]
  unfold tsub at h
  unfold valueAt
  by_cases e1 : c = c1
  · subst e1
    rw [List.find?_cons_of_pos (by simp)]
    simpa using h u1
  · rw [List.find?_cons_of_neg (by simp only [decide_eq_true_eq]; exact fun q => e1 (by simpa using (S_inj q).symm))]
    by_cases e2 : c = c2
    · subst e2
      rw [List.find?_cons_of_pos (by simp)]
      simpa [e1] using h u2
    · rw [List.find?_cons_of_neg (by simp only [decide_eq_true_eq]; exact fun q => e2 (by simpa using (S_inj q).symm))]
      by_cases e3 : c = c3
      · subst e3
        rw [List.find?_cons_of_pos (by simp)]
        simpa [e1, e2] using h u3
      · rw [List.find?_cons_of_neg (by simp only [decide_eq_true_eq]; exact fun q => e3 (by simpa using (S_inj q).symm))]
        simpa [e1, e2, e3] using h u
theorem nodup3 {c1 c2 c3 : Nat} (ne1 : c1 ≠ c2) (ne2 : c1 ≠ c3) (ne3 : c2 ≠ c3) : [S [c1], S [c2], S [c3]].Nodup := by
  have f : ∀ {a b : Nat}, a ≠ b → S [a] ≠ S [b] := fun h q => h (by simpa using S_inj q)
  simp [f ne1, f ne2, f ne3]
theorem sum1 {g : Nat → Nat} : ∀ l : List Nat, ((l.map fun c => S [g c]).map (·.length)).sum = l.length
  | [] => rfl
  | c :: l => by
    have ih := sum1 (g := g) l
    rw [List.map_cons, List.map_cons, List.sum_cons, ih, S_len]
    simp only [List.length_cons, List.length_nil]
    omega
theorem join_sg {prog : Program} {w : World} {A : Around} {E : Value → Shared → Prop} {s : Shared} {h₀ : Heap} {L D : Addr} {news : Led} {l : List Nat} {g : Nat → Nat} {its : List Value} {t : Tok} {Q : Value → Shared → Prop} (N : News h₀ L s.heap news) (hm : (D, LCg.lst its) ∈ news) (hi : StrsAre its (l.map fun c => S [g c])) (hz : l.length ≤ 8)
    (h : ∀ t' k, Q (.str (S (l.map g)) t') { s with toks := k }) : wpAny (model prog w) A (call (.builtin "str.join") [.str (Str.ofString "") t, .ref D]) Q E s := by
  refine join_list ⟨_, (N _ hm).1, rfl, _, rfl⟩ hi ?_ ?_
  · rw [o_nil]
    rw [sum1, S_len, List.length_map]
    simp only [List.length_nil]
    omega
  · intro t' k
    rw [glued_S]
    exact h t' k
theorem seg10 {w : World} {dp un : Nat} {gd : Option (List Code)} {outer : List Env} {A₀ : Around} {base h₀ : Heap} {L fa a1 a2 a3 a4 Td Rd : Addr} {cd : Value} {mean : ExcName → Option Value} {mg mb : Str → Option Value} {bs : Led} {Q : Flow → Shared → Prop}
    (B : Below A₀ base outer h₀) (X : (hd.heap_39 w.params).In h₀) (T : Top topProg looseT mean mg mb h₀) (hd : dp + 60 < recursionLimit) (hu : un + 480 < cLine)
    {s : Shared} {u : Str → Option Value} {c1 c2 c3 g1 g2 g3 : Nat} {bo : List Nat} {x5 : Str} {x0 x1 x2 x3 x4 z1 y1 y2 y3 y4 : Tok} {n n1 : Nat} {o3 o4 : Obj} (ne1 : c1 ≠ c2) (ne2 : c1 ≠ c3) (ne3 : c2 ≠ c3)
    (d3 : o3.data = .cell none) (of3 : ∀ q ∈ bs, q.1 ≠ a3) (l34 : @LT.lt Nat _ a3 a4) (hbo : ∀ c ∈ bo, c < 128) (hbz : bo.length ≤ 8)
    (F : Fr h₀ L s.heap (fun y => if y = "told" then some (.ref Td) else if y = "read" then some (.ref Rd) else if y = "things" then some (.str (S [g1, g2, g3]) z1) else u y))
    (N : News h₀ L s.heap ((Td, lo [.str (S bo) x1, .str (S [c3]) x2, .str (S [c2]) x3, .str (S [c1]) x4] n) :: (Rd, lo [.str (S [c1]) y1, .str (S [c2]) y2, .str (S [c3]) y3, .str x5 x0] n1) :: (a4, o4) :: (a3, o3) :: bs)) (hg : AllBare s.gens)
    (next : ∀ (z2 : Tok) (m' : Str → Option Value) (h' : Heap) (g' : Array GenState) (tkk : Nat), m' "due" = some (.str (S (bo.map (tsub c1 c2 c3 g1 g2 g3))) z2) → (∀ y : Str, y ≠ "due" → m' y = if y = "told" then some (.ref Td) else if y = "read" then some (.ref Rd) else if y = "things" then some (.str (S [g1, g2, g3]) z1) else u y) → Fr h₀ L h' m' →
      News h₀ L h' ((Td, lo [.str (S bo) x1, .str (S [c3]) x2, .str (S [c2]) x3, .str (S [c1]) x4] n) :: (a4, o4) :: bs) → AllBare g' → Q .next { heap := h', gens := g', drawn := s.drawn, toks := tkk, os := s.os }) :
    wpAny (model PySem.Challenge.rw_xl0011_01.row.prog w) (lwA w dp un gd L fa cd (lwCl a1 a2 a3 a4) outer) (execs [(lawX w).1.s21, (lawX w).1.s22] (lwEnv w L fa cd (lwCl a1 a2 a3 a4))) Q (fun _ _ => False) s := by
  unfold lawX lwA lwEnv lawF
  dsimp only
  revert X
  k_fill
  w_top off
  intro X
  have nT : Td ≠ a3 := ne_cell N (.head _) (.tail _ (.tail _ (.tail _ (.head _)))) d3
  have nR : Rd ≠ a3 := ne_cell N (.tail _ (.head _)) (.tail _ (.tail _ (.tail _ (.head _)))) d3
  refine fold_ctx ?_
  intro M9 A9 e9
  repeat' (first
    | (k_unfold; (try dsimp only))
    | ((with_reducible show wpAny _ _ (subscriptTail (PySem.Expr.Name _ _) (PySem.Expr.Constant _ _ _) (Value.str _ _) _) _ _ _); (k_here; k_dflt (refine' item_S ?k0 ?k1 ?k2 ?k3 ?k4 ?_; (case k0 => decide); (case k1 => exact rfl); (case k2 => decide); (case k3 => with_unfolding_all rfl); (case k4 => intro _; with_unfolding_all rfl); k_whole); intro t9 j9); (try k_fold))
    | ((with_reducible show wpAny _ _ (subscriptTail (PySem.Expr.Name _ _) (PySem.Expr.Constant _ _ _) (Value.ref _) _) _ _ _); (k_here; k_dflt (refine' item_row ?k0 ?k1 ?k2 ?k3 ?k4 ?k6 ?_; (case k0 => k_asm); (case k1 => k_mem); (case k4 => exact rfl); (case k2 | k3 => decide); (case k6 => with_unfolding_all rfl); k_whole)); (try k_fold))
    | ((with_reducible show wpAny _ _ (call (Value.builtin "str.join") _) _ _ _); (k_here; k_dflt (refine' join_sg ?k1 ?k2 ?k3 ?k4 ?_; (case k1 => k_asm); (case k2 => k_mem); (case k3 | k4 => assumption); k_whole); intro t9 k9); (try k_fold))
    | ((with_reducible show wpAny _ _ (eval (PySem.Expr.ListComp _ _ _ _) _) _ _ _); (k_here; k_dflt (refine comp_s (by k_asm) (by with_unfolding_all rfl) (by decide) (by rfl) (by decide) (by rfl) ?_)); (try k_fold))
    | ((with_reducible show wpAny _ _ (call (Value.builtin "dict.get") _) _ _ _); (k_here; k_dflt (refine' get_tab ?N ?hp ?hd ?lo ?_; (case N => k_asm); (case hp => k_mem); (case hd => k_asm); (case lo => assumption); k_whole); intro t9); (try k_fold))
    | ((with_reducible show wpAny _ _ (getMethod (Value.ref _) _ _) _ _ _); (k_here; (with_reducible show wpAny _ _ (getMethod (Value.ref _) (Str.ofString "get") _) _ _ _); k_dflt (refine kdg_method (knd := PySem.strKind _ _) (by k_asm) (by k_mem) (by k_asm) ?_)); (try k_fold))
    | ((with_reducible show wpAny _ _ (eval (PySem.Expr.Dict _ _ _) _) _ _ _); (k_here; k_dflt (refine' kdn_eval (knd := PySem.strKind _ _) ?F ?N ?b ?a ?l ?e ?n ?_; (case F | N => k_asm); (case b => exact Top.nolimit (by k_asm)); (case a | l => rfl); (case e => exact List.cons_ne_nil _ _); (case n => exact Nat.le_of_ble_eq_true rfl); k_whole); intro d' h' o' F' N' l1 lo' hd'; (try dsimp only)); (try k_fold))
    | ((with_reducible show wpAny _ _ (execs (_ :: _) _) _ _ _); (k_here; (with_reducible refine wpAny_execs_cons ?_); (try dsimp only); (try k_fold); (try (refine fold_fn (by k_asm) (by k_asm) ?_; intro led9 fm9 F9 N9))); (try k_fold))
    | ((with_reducible show wpAny _ _ (eval (PySem.Expr.Call _ _ _ _) _) _ _ _); (k_here; (with_reducible show wpAny _ _ (eval (Expr.Call (Expr.Name _ _) (_ :: _) [] _) _) _ _ _); k_dflt (refine' call_args ?F ?X ?T ?e ?hf ?hb ?hk ?he ?A ?cs ?_; (case F | X | T => k_asm); (case hf | hb => rfl); (case e | hk => k_is); (case cs | he => rfl); (case A => (repeat' first | exact ArgsEv.nil | refine' ArgsEv.name (by rfl) (by rfl) (by rfl) ?_ | refine' ArgsEv.str ?_)); k_whole)); (try k_fold))
    | ((with_reducible show wpAny _ _ (storeName _ _ _) _ _ _); (k_here; k_dflt (refine' storeX_C ?F ?N ?c ?U ?d ?_ ?a ?b; (case a | b => rfl); (case F | N => k_asm); (case c => rfl); (case d => first | assumption | k_asm); (case U => (repeat' first | exact UpdF.head (by assumption) | (refine' UpdF.tail ?_ ?_) | assumption | k_ne | exact ne_new (by assumption) (by k_mem))); k_whole); intro h' o' F' N' d'; (try dsimp only at N')); (try k_fold))
    | ((fail_if_success (with_reducible show wpAny _ _ _ _ _ _)); first
      | (k_here; k_dflt (refine' kdn_made_str ?F ?N ?U ?d ?k ?n ?_; (case F | N => k_asm); (case U => exact UpdF.head fun p hp => Nat.ne_of_lt (‹∀ p : Addr × Obj, p ∈ _ → p.1 < _› p hp)); (case d => k_asm); (case k => rfl); (case n => exact nodup3 (by assumption) (by assumption) (by assumption)); k_whole); intro h' o' F' N' hd'; (try dsimp only [strPairs] at N' hd'); (try dsimp only))
      | fail "no own line")
    | (walk1; (try k_fold)) | (dsimp only; walk1; (try k_fold)) | (leave1; (try dsimp only)) | fail "no step")
  refine SrcS.intro (fun c => [tsub c1 c2 c3 g1 g2 g3 c]) rfl (by assumption) (by assumption) hbo (by omega) ?_ ?_
  · intro g c t I oI C oC D m₂ ys h tk E' hc hC hx F' N' off ne
    repeat' (first
      | (k_unfold; (try dsimp only))
      | ((with_reducible show wpAny _ _ (subscriptTail (PySem.Expr.Name _ _) (PySem.Expr.Constant _ _ _) (Value.str _ _) _) _ _ _); (k_here; k_dflt (refine' item_S ?k0 ?k1 ?k2 ?k3 ?k4 ?_; (case k0 => decide); (case k1 => exact rfl); (case k2 => decide); (case k3 => with_unfolding_all rfl); (case k4 => intro _; with_unfolding_all rfl); k_whole); intro t9 j9); (try k_fold))
      | ((with_reducible show wpAny _ _ (subscriptTail (PySem.Expr.Name _ _) (PySem.Expr.Constant _ _ _) (Value.ref _) _) _ _ _); (k_here; k_dflt (refine' item_row ?k0 ?k1 ?k2 ?k3 ?k4 ?k6 ?_; (case k0 => k_asm); (case k1 => k_mem); (case k4 => exact rfl); (case k2 | k3 => decide); (case k6 => with_unfolding_all rfl); k_whole)); (try k_fold))
      | ((with_reducible show wpAny _ _ (call (Value.builtin "str.join") _) _ _ _); (k_here; k_dflt (refine' join_sg ?k1 ?k2 ?k3 ?k4 ?_; (case k1 => k_asm); (case k2 => k_mem); (case k3 | k4 => assumption); k_whole); intro t9 k9); (try k_fold))
      | ((with_reducible show wpAny _ _ (eval (PySem.Expr.ListComp _ _ _ _) _) _ _ _); (k_here; k_dflt (refine comp_s (by k_asm) (by with_unfolding_all rfl) (by decide) (by rfl) (by decide) (by rfl) ?_)); (try k_fold))
      | ((with_reducible show wpAny _ _ (call (Value.builtin "dict.get") _) _ _ _); (k_here; k_dflt (refine' get_tab ?N ?hp ?hd ?lo ?_; (case N => k_asm); (case hp => k_mem); (case hd => k_asm); (case lo => assumption); k_whole); intro t9); (try k_fold))
      | ((with_reducible show wpAny _ _ (getMethod (Value.ref _) _ _) _ _ _); (k_here; (with_reducible show wpAny _ _ (getMethod (Value.ref _) (Str.ofString "get") _) _ _ _); k_dflt (refine kdg_method (knd := PySem.strKind _ _) (by k_asm) (by k_mem) (by k_asm) ?_)); (try k_fold))
      | ((with_reducible show wpAny _ _ (eval (PySem.Expr.Dict _ _ _) _) _ _ _); (k_here; k_dflt (refine' kdn_eval (knd := PySem.strKind _ _) ?F ?N ?b ?a ?l ?e ?n ?_; (case F | N => k_asm); (case b => exact Top.nolimit (by k_asm)); (case a | l => rfl); (case e => exact List.cons_ne_nil _ _); (case n => exact Nat.le_of_ble_eq_true rfl); k_whole); intro d' h' o' F' N' l1 lo' hd'; (try dsimp only)); (try k_fold))
      | ((with_reducible show wpAny _ _ (execs (_ :: _) _) _ _ _); (k_here; (with_reducible refine wpAny_execs_cons ?_); (try dsimp only); (try k_fold); (try (refine fold_fn (by k_asm) (by k_asm) ?_; intro led9 fm9 F9 N9))); (try k_fold))
      | ((with_reducible show wpAny _ _ (eval (PySem.Expr.Call _ _ _ _) _) _ _ _); (k_here; (with_reducible show wpAny _ _ (eval (Expr.Call (Expr.Name _ _) (_ :: _) [] _) _) _ _ _); k_dflt (refine' call_args ?F ?X ?T ?e ?hf ?hb ?hk ?he ?A ?cs ?_; (case F | X | T => k_asm); (case hf | hb => rfl); (case e | hk => k_is); (case cs | he => rfl); (case A => (repeat' first | exact ArgsEv.nil | refine' ArgsEv.name (by rfl) (by rfl) (by rfl) ?_ | refine' ArgsEv.str ?_)); k_whole)); (try k_fold))
      | ((with_reducible show wpAny _ _ (storeName _ _ _) _ _ _); (k_here; k_dflt (refine' storeX_C ?F ?N ?c ?U ?d ?_ ?a ?b; (case a | b => rfl); (case F | N => k_asm); (case c => rfl); (case d => first | assumption | k_asm); (case U => (repeat' first | exact UpdF.head (by assumption) | (refine' UpdF.tail ?_ ?_) | assumption | k_ne | exact ne_new (by assumption) (by k_mem))); k_whole); intro h' o' F' N' d'; (try dsimp only at N')); (try k_fold))
      | ((fail_if_success (with_reducible show wpAny _ _ _ _ _ _)); first
        | (k_here; k_dflt (refine' kdn_made_str ?F ?N ?U ?d ?k ?n ?_; (case F | N => k_asm); (case U => exact UpdF.head fun p hp => Nat.ne_of_lt (‹∀ p : Addr × Obj, p ∈ _ → p.1 < _› p hp)); (case d => k_asm); (case k => rfl); (case n => exact nodup3 (by assumption) (by assumption) (by assumption)); k_whole); intro h' o' F' N' hd'; (try dsimp only [strPairs] at N' hd'); (try dsimp only))
        | fail "no own line")
      | (walk1; (try k_fold)) | (dsimp only; walk1; (try k_fold)) | (leave1; (try dsimp only)) | fail "no step")
    exact SgEnd.intro (by assumption) (by assumption) fun p hp => hp
  · intro ys D h tk hy F' N' o
    repeat' (first
      | (k_unfold; (try dsimp only))
      | ((with_reducible show wpAny _ _ (subscriptTail (PySem.Expr.Name _ _) (PySem.Expr.Constant _ _ _) (Value.str _ _) _) _ _ _); (k_here; k_dflt (refine' item_S ?k0 ?k1 ?k2 ?k3 ?k4 ?_; (case k0 => decide); (case k1 => exact rfl); (case k2 => decide); (case k3 => with_unfolding_all rfl); (case k4 => intro _; with_unfolding_all rfl); k_whole); intro t9 j9); (try k_fold))
      | ((with_reducible show wpAny _ _ (subscriptTail (PySem.Expr.Name _ _) (PySem.Expr.Constant _ _ _) (Value.ref _) _) _ _ _); (k_here; k_dflt (refine' item_row ?k0 ?k1 ?k2 ?k3 ?k4 ?k6 ?_; (case k0 => k_asm); (case k1 => k_mem); (case k4 => exact rfl); (case k2 | k3 => decide); (case k6 => with_unfolding_all rfl); k_whole)); (try k_fold))
      | ((with_reducible show wpAny _ _ (call (Value.builtin "str.join") _) _ _ _); (k_here; k_dflt (refine' join_sg ?k1 ?k2 ?k3 ?k4 ?_; (case k1 => k_asm); (case k2 => k_mem); (case k3 | k4 => assumption); k_whole); intro t9 k9); (try k_fold))
      | ((with_reducible show wpAny _ _ (eval (PySem.Expr.ListComp _ _ _ _) _) _ _ _); (k_here; k_dflt (refine comp_s (by k_asm) (by with_unfolding_all rfl) (by decide) (by rfl) (by decide) (by rfl) ?_)); (try k_fold))
      | ((with_reducible show wpAny _ _ (call (Value.builtin "dict.get") _) _ _ _); (k_here; k_dflt (refine' get_tab ?N ?hp ?hd ?lo ?_; (case N => k_asm); (case hp => k_mem); (case hd => k_asm); (case lo => assumption); k_whole); intro t9); (try k_fold))
      | ((with_reducible show wpAny _ _ (getMethod (Value.ref _) _ _) _ _ _); (k_here; (with_reducible show wpAny _ _ (getMethod (Value.ref _) (Str.ofString "get") _) _ _ _); k_dflt (refine kdg_method (knd := PySem.strKind _ _) (by k_asm) (by k_mem) (by k_asm) ?_)); (try k_fold))
      | ((with_reducible show wpAny _ _ (eval (PySem.Expr.Dict _ _ _) _) _ _ _); (k_here; k_dflt (refine' kdn_eval (knd := PySem.strKind _ _) ?F ?N ?b ?a ?l ?e ?n ?_; (case F | N => k_asm); (case b => exact Top.nolimit (by k_asm)); (case a | l => rfl); (case e => exact List.cons_ne_nil _ _); (case n => exact Nat.le_of_ble_eq_true rfl); k_whole); intro d' h' o' F' N' l1 lo' hd'; (try dsimp only)); (try k_fold))
      | ((with_reducible show wpAny _ _ (execs (_ :: _) _) _ _ _); (k_here; (with_reducible refine wpAny_execs_cons ?_); (try dsimp only); (try k_fold); (try (refine fold_fn (by k_asm) (by k_asm) ?_; intro led9 fm9 F9 N9))); (try k_fold))
      | ((with_reducible show wpAny _ _ (eval (PySem.Expr.Call _ _ _ _) _) _ _ _); (k_here; (with_reducible show wpAny _ _ (eval (Expr.Call (Expr.Name _ _) (_ :: _) [] _) _) _ _ _); k_dflt (refine' call_args ?F ?X ?T ?e ?hf ?hb ?hk ?he ?A ?cs ?_; (case F | X | T => k_asm); (case hf | hb => rfl); (case e | hk => k_is); (case cs | he => rfl); (case A => (repeat' first | exact ArgsEv.nil | refine' ArgsEv.name (by rfl) (by rfl) (by rfl) ?_ | refine' ArgsEv.str ?_)); k_whole)); (try k_fold))
      | ((with_reducible show wpAny _ _ (storeName _ _ _) _ _ _); (k_here; k_dflt (refine' storeX_C ?F ?N ?c ?U ?d ?_ ?a ?b; (case a | b => rfl); (case F | N => k_asm); (case c => rfl); (case d => first | assumption | k_asm); (case U => (repeat' first | exact UpdF.head (by assumption) | (refine' UpdF.tail ?_ ?_) | assumption | k_ne | exact ne_new (by assumption) (by k_mem))); k_whole); intro h' o' F' N' d'; (try dsimp only at N')); (try k_fold))
      | ((fail_if_success (with_reducible show wpAny _ _ _ _ _ _)); first
        | (k_here; k_dflt (refine' kdn_made_str ?F ?N ?U ?d ?k ?n ?_; (case F | N => k_asm); (case U => exact UpdF.head fun p hp => Nat.ne_of_lt (‹∀ p : Addr × Obj, p ∈ _ → p.1 < _› p hp)); (case d => k_asm); (case k => rfl); (case n => exact nodup3 (by assumption) (by assumption) (by assumption)); k_whole); intro h' o' F' N' hd'; (try dsimp only [strPairs] at N' hd'); (try dsimp only))
        | fail "no own line")
      | (walk1; (try k_fold)) | (dsimp only; walk1; (try k_fold)) | (leave1; (try dsimp only)) | fail "no step")
    have N8 := ‹News h₀ L _ _›
    refine' next _ _ _ _ _ ?r ?m ?F ?N ?G
    case F => assumption
    case r => exact rfl
    case m =>
      intro y e1
      simp +zetaDelta only [if_neg e1]
    case G => assumption
    case N =>
      refine news_sub N8 fun q hq => ?_
      revert q
      repeat' first | refine List.forall_mem_cons.mpr ⟨by k_mem, ?_⟩
      intro q hq
      repeat' first | exact hq | refine List.mem_cons_of_mem _ ?_
end
section
open PySem PySem.W PyProof.Rows
open PySem.Calls PySem.Spec
set_option maxRecDepth 100000
set_option maxHeartbeats 8000000
/-! a for loop whose name lies in a cell -/
inductive CwEnd (h₀ : Heap) (L : Addr) (dr : Drawn) (os : OsState) (I c : Addr) (it : Obj) (rest : (Str → Option Value) → Led → Array GenState → Prop) : Shared → Prop where
  | mk {h' : Heap} {tk : Nat} {g' : Array GenState} {m' : Str → Option Value} {news' : Led} {oc : Obj} {v : Option Value} (d : oc.data = .cell v) (F : Fr h₀ L h' m') (N : News h₀ L h' ((I, it) :: (c, oc) :: news')) (off : ∀ p ∈ news', p.1 ≠ I) (offc : ∀ p ∈ news', p.1 ≠ c) (r : rest m' news' g') :
      CwEnd h₀ L dr os I c it rest { heap := h', gens := g', drawn := dr, toks := tk, os := os }
inductive CW (h₀ : Heap) (L I c : Addr) (St : Nat → Heap → Prop) (S : Led → Prop) (n : Nat) (dr : Drawn) (os : OsState) (R : Nat → Nat → (Str → Option Value) → Led → Array GenState → Prop) : Nat → Shared → Prop where
  | mk {h : Heap} {tk : Nat} {g : Array GenState} {i j : Nat} {m : Str → Option Value} {news : Led} {oc : Obj} {vc : Option Value} (e : i + j = n) (hst : St i h) (hd : oc.data = .cell vc) (F : Fr h₀ L h m) (N : News h₀ L h ((c, oc) :: news)) (off : ∀ p ∈ news, p.1 ≠ I) (offc : ∀ p ∈ news, p.1 ≠ c) (hS : S news) (r : R j i m news g) :
      CW h₀ L I c St S n dr os R j { heap := h, gens := g, drawn := dr, toks := tk, os := os }
def CwRest (prog : Program) (w : World) (A : Around) (h₀ : Heap) (L : Addr) (env : Env) (body : List Stmt) (Q : Flow → Shared → Prop) (S : Led → Prop) (P : Nat → Value → Prop) (dr : Drawn) (os : OsState) (I c : Addr) : Nat → Nat → (Str → Option Value) → Led → Array GenState → Prop
  | 0, _, m, news, g => ∀ h tk, Fr h₀ L h m → News h₀ L h news → Q .next { heap := h, gens := g, drawn := dr, toks := tk, os := os }
  | k + 1, i, m, news, g => ∀ v it oc h tk, P i v → okE it → oc.data = .cell (some v) → Fr h₀ L h m → News h₀ L h ((I, it) :: (c, oc) :: news) →
      wpAny (model prog w) A (execs body env) (fun f s' => match f with
        | .ret v => Q (.ret v) s'
        | .brk => Q .next s'
        | _ => CwEnd h₀ L dr os I c it (fun m' n' g' => S n' ∧ CwRest prog w A h₀ L env body Q S P dr os I c k (i + 1) m' n' g') s') (fun _ _ => False) { heap := h, gens := g, drawn := dr, toks := tk, os := os }
section
variable {prog : Program} {w : World} {A : Around} {h₀ : Heap} {L : Addr} {x : Str} {body : List Stmt} {Q : Flow → Shared → Prop} {cn : Str} {cs : Scope} {a : Addr} {ccd : Value} {cl : List (Str × Addr)}
theorem for_walkC {s : Shared} {px : Pos} {S : Led → Prop} {P : Nat → Value → Prop} {I c : Addr} {fp : List Addr} {n : Nat} {St : Nat → Heap → Prop} {m : Str → Option Value} {news : Led} {oc0 : Obj} {vc0 : Option Value}
    (W : Walks prog w A I fp [I] n P St) (hIo : ∀ i h, St i h → ∃ o, h.get? I = some o ∧ okE o)
    (hSt : ∀ i h h' o nw, St i h → h.get? I = some o → h'.get? I = some o → (∀ b o, h₀.get? b = some o → h'.get? b = some o) → News h₀ L h' nw → S nw → St i h')
    (hk : cs.kind = .function) (hx : (envX cn cs L a ccd cl).kindOf x = some .cell) (hc : cl.lookup x = some c) (hst : St 0 s.heap)
    (F : Fr h₀ L s.heap m) (N : News h₀ L s.heap ((c, oc0) :: news)) (hd : oc0.data = .cell vc0) (hIL : L ≠ I) (hI₀ : h₀.get? I = none) (hcI : I ≠ c) (off : ∀ p ∈ news, p.1 ≠ I) (offc : ∀ p ∈ news, p.1 ≠ c) (hS : S news)
    (R : CwRest prog w A h₀ L (envX cn cs L a ccd cl) body Q S P s.drawn s.os I c n 0 m news s.gens) :
    codeAny (model prog w) A (.forLoop (.Name x px) (.ref I) body [] (envX cn cs L a ccd cl)) (fun r s' => match r with | .ok f => Q f s' | .error _ => False) s := by
  refine for_rule (CW h₀ L I c St S n s.drawn s.os (CwRest prog w A h₀ L (envX cn cs L a ccd cl) body Q S P s.drawn s.os I c)) ?_ n (.mk (Nat.zero_add n) hst hd F N off offc hS R)
  intro k s' hI
  induction hI with
  | @mk h tk g i j m news oc vc e hst hd F N off offc hS R =>
  cases j with
  | succ j =>
    refine W.item i _ _ _ (e ▸ Nat.lt_add_of_pos_right (Nat.succ_pos j)) hst fun v h₂ tk₂ hPv hst₂ hk₂ => ?_
    obtain ⟨oI, heI, hok⟩ := hIo _ _ hst₂
    have F₂ : Fr h₀ L h₂ m := LCg.fr_but F hk₂ hIL hI₀
    have offI : ∀ p ∈ (c, oc) :: news, p.1 ≠ I := List.forall_mem_cons.mpr ⟨Ne.symm hcI, off⟩
    have N₂ : News h₀ L h₂ ((I, oI) :: (c, oc) :: news) := fun p hp => by
      rcases List.mem_cons.mp hp with rfl | hp
      · exact ⟨heI, Ne.symm hIL, hI₀⟩
      · exact LCg.news_but N hk₂ offI p hp
    refine wpAny_assign_Name (storeX_C (s := ⟨h₂, g, s.drawn, tk₂, s.os⟩) F₂ N₂ hc (UpdF.tail hcI (UpdF.head offc)) hd (fun h₃ o₃ F₃ N₃ d₃ => ?_) hk hx)
    have eI := (N₃ (I, oI) (.head _)).1
    have hst₃ : St (i + 1) h₃ := hSt _ _ _ _ _ hst₂ heI eI F₃.keep (fun p hp => N₃ p (.tail _ (.tail _ hp))) hS
    refine wpAny_mono (R v oI o₃ h₃ _ hPv hok d₃ F₃ N₃) (fun f s₄ h₄ => ?_) fun _ _ e => e.elim
    have fin : CwEnd h₀ L s.drawn s.os I c oI (fun m' n' g' => S n' ∧ CwRest prog w A h₀ L (envX cn cs L a ccd cl) body Q S P s.drawn s.os I c j (i + 1) m' n' g') s₄ → Less (CW h₀ L I c St S n s.drawn s.os (CwRest prog w A h₀ L (envX cn cs L a ccd cl) body Q S P s.drawn s.os I c)) (j + 1) s₄ := fun z => by
      induction z with
      | mk d₄ F₄ N₄ off₄ offc₄ r₄ => exact ⟨j, Nat.lt_succ_self j, .mk ((Nat.succ_add i j).trans e) (hSt _ _ _ _ _ hst₃ eI (N₄ (I, oI) (.head _)).1 F₄.keep (fun p hp => N₄ p (.tail _ (.tail _ hp))) r₄.1) d₄ F₄ (fun p hp => N₄ p (.tail _ hp)) off₄ offc₄ r₄.1 r₄.2⟩
    cases f with
    | ret v => exact h₄
    | brk => exact h₄
    | next => exact fin h₄
    | cont => exact fin h₄
  | zero =>
    have hn : St n h := e ▸ hst
    refine W.done _ _ _ hn fun h₂ tk₂ hk₂ => ?_
    refine wpAny_execs_nil ?_
    exact R h₂ tk₂ (LCg.fr_but F hk₂ hIL hI₀) (LCg.news_but (fun p hp => N p (.tail _ hp)) hk₂ off)
theorem iter_c {s : Shared} {px : Pos} {m : Str → Option Value} {news : Led} {ax c : Addr} {vs : List Value} {k : Nat} {oc : Obj} {vc : Option Value} (hh : A.handled = none) (hk : cs.kind = .function) (hx : (envX cn cs L a ccd cl).kindOf x = some .cell) (hc : cl.lookup x = some c)
    (F : Fr h₀ L s.heap m) (N : News h₀ L s.heap ((c, oc) :: news)) (hd : oc.data = .cell vc) (offc : ∀ p ∈ news, p.1 ≠ c) (hm : (ax, ({ cls := .type "list", data := .seq vs.toArray k } : Obj)) ∈ news)
    (h : ∀ I, (∀ p ∈ news, p.1 < I) → c < I → CwRest prog w A h₀ L (envX cn cs L a ccd cl) body Q (LCg.SrcAt h₀ ax vs.toArray) (fun i v => vs[i]? = some v) s.drawn s.os I c vs.length 0 m news s.gens) :
    wpAny (model prog w) A (pyIter (.ref ax)) (fun it s₂ => FLoop prog w A (envX cn cs L a ccd cl) x px body Q it s₂) (fun _ _ => False) s := by
  have hl : s.heap.IsList ax vs.toArray := ⟨_, (N _ (.tail _ hm)).1, rfl, _, rfl⟩
  have hlt : ax < s.heap.objs.size := Heap.lt_size (N _ (.tail _ hm)).1
  have hcs : c < s.heap.objs.size := Heap.lt_size (N _ (.head _)).1
  refine wpAny_pyIter_list hl ?_
  have hR := h s.heap.objs.size (fun p hp => Heap.lt_size (N p (.tail _ hp)).1) hcs
  have hw : ∀ i v, vs.toArray[i]? = some v → vs[i]? = some v := fun i v e => by rw [List.getElem?_toArray] at e; exact e
  have W := Walks.list (prog := prog) (w := w) hh s.heap.objs.size ax (Nat.ne_of_lt hlt) vs.toArray
  have W' : Walks prog w A s.heap.objs.size [s.heap.objs.size, ax] [s.heap.objs.size] vs.length (fun i v => vs[i]? = some v) (fun i h => h.IsListIter s.heap.objs.size ax i ∧ h.IsList ax vs.toArray) :=
    { sub := W.sub, frame := W.frame, done := fun s Q E st => W.done s Q E st, self := W.self, item := fun i s Q E hi st hQ => W.item i s Q E hi st fun v h' tk hP => hQ v h' tk (hw _ _ hP) }
  exact for_walkC W' (fun i h st => by obtain ⟨⟨o, e, c, _⟩, _⟩ := st; exact ⟨o, e, .cl c (by decide)⟩) LCg.list_st hk hx hc ⟨⟨_, Heap.get?_push_size _ rfl, rfl, rfl⟩, hl.push _⟩ (F.push _) (N.grown fun b o e => Heap.get?_push_of_some _ e) hd (Nat.ne_of_lt F.ns.lt) (next_is_new F) (Nat.ne_of_gt hcs)
    (fun p hp => Nat.ne_of_lt (Heap.lt_size (N p (.tail _ hp)).1)) offc (.inr ⟨_, hm, rfl, _, rfl⟩) hR
theorem CwRest.zero {S : Led → Prop} {P : Nat → Value → Prop} {dr : Drawn} {os : OsState} {I c : Addr} {env : Env} {i : Nat} {m : Str → Option Value} {news : Led} {g : Array GenState}
    (h : ∀ h tk, Fr h₀ L h m → News h₀ L h news → Q .next { heap := h, gens := g, drawn := dr, toks := tk, os := os }) : CwRest prog w A h₀ L env body Q S P dr os I c 0 i m news g := h
theorem CwRest.succ {S : Led → Prop} {P : Nat → Value → Prop} {dr : Drawn} {os : OsState} {I c : Addr} {env : Env} {k i : Nat} {m : Str → Option Value} {news : Led} {g : Array GenState}
    (h : ∀ v it oc h tk, P i v → okE it → oc.data = .cell (some v) → Fr h₀ L h m → News h₀ L h ((I, it) :: (c, oc) :: news) →
      wpAny (model prog w) A (execs body env) (fun f s' => match f with
        | .ret v => Q (.ret v) s'
        | .brk => Q .next s'
        | _ => CwEnd h₀ L dr os I c it (fun m' n' g' => S n' ∧ CwRest prog w A h₀ L env body Q S P dr os I c k (i + 1) m' n' g') s') (fun _ _ => False) { heap := h, gens := g, drawn := dr, toks := tk, os := os }) : CwRest prog w A h₀ L env body Q S P dr os I c (k + 1) i m news g := h
end
end
section
open PySem PySem.W PyProof.Rows
open PySem.Calls PySem.Spec
set_option maxRecDepth 100000
set_option maxHeartbeats 8000000
structure For5 where
  tgt : PySem.Expr
  itr : PySem.Expr
  b1 : Stmt
  b2 : Stmt
  b3 : Stmt
  b4 : Stmt
  b5 : Stmt
  pos : Pos
noncomputable def lawM (w : World) : (x : For5) ×' ((lawX w).1.s23 = .For x.tgt x.itr [x.b1, x.b2, x.b3, x.b4, x.b5] [] x.pos) := ⟨⟨_, _, _, _, _, _, _, _⟩, by with_unfolding_all rfl⟩
theorem seg11a {w : World} {dp un : Nat} {gd : Option (List Code)} {outer : List Env} {A₀ : Around} {base h₀ : Heap} {L fa a1 a2 a3 a4 Td P I Dl : Addr} {cd : Value} {mean : ExcName → Option Value} {mg mb : Str → Option Value} {bs : Led} {kvs : List (Str × Value)} {Q : Flow → Shared → Prop}
    (B : Below A₀ base outer h₀) (X : (hd.heap_39 w.params).In h₀) (T : Top topProg looseT mean mg mb h₀) (hd : dp + 220 < recursionLimit) (hu : un + 1760 < cLine)
    {s : Shared} {u : Str → Option Value} {c1 c2 c3 : Nat} {t : Tm} {d b : Bool} {x1 x2 x3 x4 : Tok} {n : Nat} {o4 oI oD : Obj} (d4 : o4.data = .cell (some (.bool b))) (okI : okE oI) (okD : okE oD)
    (ok1 : okc c1) (ok2 : okc c2) (ok3 : okc c3) (hwf : wf t) (hkn : known kvs t) (hsz0 : t.size ≤ 7) (hz : kvs.length ≤ 2000)
    (F : Fr h₀ L s.heap (fun y => if y = "told" then some (.ref Td) else if y = "drop" then some (.bool d) else if y = "parts" then some (.ref P) else u y))
    (N : News h₀ L s.heap ((I, oI) :: (a4, o4) :: (Dl, oD) :: (Td, lo [.str (txt t) x1, .str (S [c3]) x2, .str (S [c2]) x3, .str (S [c1]) x4] n) :: bs)) (SP : PState RW w bs P kvs) (tb : Tab bs) (hg : AllBare s.gens)
    (next : ∀ (tk : Tok) (bs' : Led) (kvs' : List (Str × Value)) (m' : Str → Option Value) (h' : Heap) (g' : Array GenState) (tkk : Nat), m' "term" = some (.str (txt (without c1 d b (without c2 d b (without c3 d b t)))) tk) → (∀ y : Str, y ≠ "term" → y ≠ "bound" → m' y = (if y = "told" then some (.ref Td) else if y = "drop" then some (.bool d) else if y = "parts" then some (.ref P) else u y)) → Fr h₀ L h' m' → News h₀ L h' ((I, oI) :: (a4, o4) :: (Dl, oD) :: (Td, lo [.str (txt t) x1, .str (S [c3]) x2, .str (S [c2]) x3, .str (S [c1]) x4] n) :: bs') →
      AllBare g' → PState RW w bs' P kvs' → Tab bs' → known kvs' (without c1 d b (without c2 d b (without c3 d b t))) → (∀ u, known kvs u → known kvs' u) → kvs'.length ≤ kvs.length + 200 → wf (without c1 d b (without c2 d b (without c3 d b t))) → (∀ e ∈ ((I, oI) :: (a4, o4) :: (Dl, oD) :: (Td, lo [.str (txt t) x1, .str (S [c3]) x2, .str (S [c2]) x3, .str (S [c1]) x4] n) :: []), ∀ q ∈ bs', q.1 ≠ e.1) → Q .next { heap := h', gens := g', drawn := s.drawn, toks := tkk, os := s.os }) :
    wpAny (model PySem.Challenge.rw_xl0011_01.row.prog w) (lwA w dp un gd L fa cd (lwCl a1 a2 a3 a4) outer) (execs [(lawM w).1.b1, (lawM w).1.b2] (lwEnv w L fa cd (lwCl a1 a2 a3 a4))) Q (fun _ _ => False) s := by
  have hsz1 : (without c3 d b t).size ≤ 21 := Nat.le_trans size_without (by omega)
  have hsz2 : (without c2 d b (without c3 d b t)).size ≤ 63 := Nat.le_trans size_without (by omega)
  unfold lawM lwA lwEnv lawF
  dsimp only
  revert X
  k_fill
  w_top off
  intro X
  try (refine fold_ctx ?_; intro M9 A9 e9)
  repeat' (first
    | (k_unfold; (try dsimp only))
    | ((with_reducible first | show wpAny _ _ (exec _ _) _ _ _ | show wpAny _ _ (isTrue _ _ _) _ _ _); (fail_if_success (with_reducible show wpAny _ _ _ Q8 _ _)); (with_reducible refine fold_q ?_); intro Q8 hQ8)
    | ((with_reducible refine hQ8 _ _ ?_); clear hQ8; (try dsimp only))
    | ((with_reducible show wpAny _ _ (exec (Stmt.For (PySem.Expr.Name _ _) (PySem.Expr.Subscript _ _ _) _ _ _) _) _ _ _); (k_here; k_dflt (refine' for_x ?_ ?hs; (case hs => intro _; rfl); k_whole)))
    | ((with_reducible show wpAny _ _ (subscriptTail (PySem.Expr.Name _ _) (PySem.Expr.Constant _ _ _) (Value.ref _) _) _ _ _); (k_here; k_dflt (refine' item_row ?k0 ?k1 ?k2 ?k3 ?k4 ?k6 ?_; (case k0 => k_asm); (case k1 => k_mem); (case k4 => exact rfl); (case k2 | k3 => decide); (case k6 => with_unfolding_all rfl); k_whole)))
    | ((with_reducible show wpAny _ _ (call (Value.ref _) _) _ _ _); (k_here; k_dflt (refine' law_use (w_L ?kx _ _ _ _ _ ?ke1 ?ke2 ?kz1 ?kz2 ?kz3 ?kz4) ?k1 ?k2 ?k3 ?k4 ?k5 ?k6 ?k7 ?k8 ?k9 ?ksp ?kS ?kT ?_; (case k1 | k2 => k_asm); (case k3 | k4 | k5 => k_asm); (case ke1 | ke2 => exact rfl); (case kx => assumption); (case k6 => exact rfl); (case k7 => ktr_room); (case k8 => ktr_units); (case k9 => assumption); (case ksp => (repeat' first | exact okE.id (by assumption) | exact okE.cell (by assumption) | exact okE.cl rfl (by decide) | refine' Sp.cons ?_ ?_ | exact Sp.app (by assumption) | exact Sp.nil)); (case kS | kT => assumption); (case kz1 | kz2 => assumption); (case kz3 | kz4 => (rw [sizeLine_eq]; omega))); intro tk9 bs9 kvs9 h9 tkk9 g9 F9 N9 G9 S9 T9 kn9 mo9 le9 wf9 of9; (try simp only [List.cons_append, List.nil_append] at N9)))
    | ((with_reducible show wpAny _ _ (pyIter (Value.ref _)) _ _ _); (k_here; k_dflt (refine' iter_l ?hh ?hk ?hx ?F ?N ?hm ?_; (case hh | hk | hx => exact rfl); (case F | N => k_asm); (case hm => k_mem)); intro I9 l9))
    | ((with_reducible show wpAny _ _ (execs (_ :: _) _) _ _ _); (k_here; (with_reducible refine wpAny_execs_cons ?_); try dsimp only))
    | ((with_reducible show wpAny _ _ (eval (PySem.Expr.Call _ _ _ _) _) _ _ _); (k_here; (with_reducible show wpAny _ _ (eval (Expr.Call (Expr.Name _ _) (_ :: _) [] _) _) _ _ _); k_dflt (refine' call_args ?F ?X ?T ?e ?hf ?hb ?hk ?he ?A ?cs ?_; (case F | X | T => k_asm); (case hf | hb => rfl); (case e | hk => k_is); (case cs | he => rfl); (case A => (repeat' first | exact ArgsEv.nil | refine' ArgsEv.name (by rfl) (by rfl) (by rfl) ?_ | refine' ArgsEv.str ?_)); k_whole)))
    | ((fail_if_success (with_reducible show wpAny _ _ _ _ _ _)); first
      | (k_here; k_dflt (refine' LwEnd.intro ?F ?N ?pk ?off ⟨?src, ?_⟩; (case F | N => k_asm); (case pk => (repeat' first | exact Pk.here | refine' Pk.next ?_)); (case off => (repeat' first | (refine List.forall_mem_cons.mpr ⟨?_, ?_⟩) | (refine List.forall_mem_append.mpr ⟨?_, ?_⟩) | exact List.forall_mem_nil _ | exact offA (by assumption) (by k_mem) | exact offB (by assumption) (by k_mem) | k_ne | exact offT (by assumption) (by k_mem) | (refine offE (by assumption) (fun q hq => ?_); repeat' first | exact hq | exact List.mem_append_left _ hq | exact List.mem_append_right _ hq | refine List.mem_cons_of_mem _ ?_))); (case src => first | exact True.intro | exact Or.inr ⟨_, by k_mem, rfl, _, rfl⟩)))
      | (with_unfolding_all first | (refine LwRest.succ ?_; intro v9 it9 h9 tk9 hv9 ok9 F9 N9; (replace hv9 := Option.some.inj hv9.symm); subst hv9) | (refine LwRest.zero ?_; intro h9 tk9 F9 N9))
      | fail "no own line")
    | (walk1) | (dsimp only; walk1) | (leave1; (try dsimp only)) | fail "no step")
  have N8 := ‹News h₀ L _ _›
  have of8 := ‹∀ e : Addr × Obj, e ∈ _ → ∀ q : Addr × Obj, q ∈ _ → q.1 ≠ e.1›
  refine' next _ _ _ _ _ _ _ ?r ?m ?F ?N ?G ?S ?T ?k ?mo ?le ?wf ?of
  case F => assumption
  case r => exact rfl
  case m =>
    intro y e1 e2
    simp only [if_neg e1, if_neg e2]
  case G => assumption
  case S => assumption
  case T => assumption
  case k => assumption
  case wf => assumption
  case N => exact news_sub N8 fun q hq => .tail _ hq
  case of => exact fun e he q hq => of8 e (.tail _ (.tail _ he)) q hq
  case le => omega
  case mo => exact fun v hv => (by assumption : ∀ u : Tm, known _ u → known _ u) v ((by assumption : ∀ u : Tm, known _ u → known _ u) v ((by assumption : ∀ u : Tm, known _ u → known _ u) v hv))
end
section
open PySem PySem.W PyProof.Rows
open PySem.Calls PySem.Spec
set_option maxRecDepth 100000
set_option maxHeartbeats 8000000
abbrev okL (b : Bool) : List Nat := if b = true then [96, 83, 75, 73, 66, 67, 107] else [96, 83, 75, 73, 107]
theorem occ_f {c : Nat} (h : c ∈ okL false) : (!!(Builtin.Str.occurrences (Str.ofString "`SKIk") (S [c]) 0 (Str.ofString "`SKIk").length 1).isEmpty) = false := by
  simp only [okL, Bool.false_eq_true, if_false, List.mem_cons, List.not_mem_nil, or_false] at h
  rcases h with rfl | rfl | rfl | rfl | rfl <;> decide +kernel
theorem occ_t {c : Nat} (h : c ∈ okL true) : (!!(Builtin.Str.occurrences (Str.ofString "`SKIBCk") (S [c]) 0 (Str.ofString "`SKIBCk").length 1).isEmpty) = false := by
  simp only [okL, if_true, List.mem_cons, List.not_mem_nil, or_false] at h
  rcases h with rfl | rfl | rfl | rfl | rfl | rfl | rfl <;> decide +kernel
theorem seg11b {w : World} {dp un : Nat} {gd : Option (List Code)} {outer : List Env} {A₀ : Around} {base h₀ : Heap} {L fa a1 a2 a3 a4 Td P I Dl : Addr} {cd : Value} {mean : ExcName → Option Value} {mg mb : Str → Option Value} {bs : Led} {Q : Flow → Shared → Prop}
    (B : Below A₀ base outer h₀) (X : (hd.heap_39 w.params).In h₀) (T : Top topProg looseT mean mg mb h₀) (hd : dp + 220 < recursionLimit) (hu : un + 1760 < cLine)
    {s : Shared} {u : Str → Option Value} {l : List Nat} {b : Bool} {tk : Tok} {o4 oI oD oT : Obj} (d4 : o4.data = .cell (some (.bool b))) (hl : ∀ c ∈ l, c ∈ okL b) (hz : l.length ≤ 1000)
    (F : Fr h₀ L s.heap (fun y => if y = "term" then some (.str (S l) tk) else u y))
    (N : News h₀ L s.heap ((I, oI) :: (a4, o4) :: (Dl, oD) :: (Td, oT) :: bs)) (hg : AllBare s.gens)
    (next : ∀ (m' : Str → Option Value) (h' : Heap) (g' : Array GenState) (tkk : Nat), (∀ y : Str, m' y = (if y = "term" then some (.str (S l) tk) else u y)) → Fr h₀ L h' m' →
      News h₀ L h' ((I, oI) :: (a4, o4) :: (Dl, oD) :: (Td, oT) :: bs) → AllBare g' → Q .next { heap := h', gens := g', drawn := s.drawn, toks := tkk, os := s.os }) :
    wpAny (model PySem.Challenge.rw_xl0011_01.row.prog w) (lwA w dp un gd L fa cd (lwCl a1 a2 a3 a4) outer) (execs [(lawM w).1.b3] (lwEnv w L fa cd (lwCl a1 a2 a3 a4))) Q (fun _ _ => False) s := by
  unfold lawM lwA lwEnv lawF
  dsimp only
  revert X
  k_fill
  w_top off
  intro X
  have h128 : ∀ c ∈ l, c < 128 := by
    intro c hc
    have := hl c hc
    revert this
    cases b <;> simp [okL] <;> omega
  repeat' (first
    | (k_unfold; (try dsimp only))
    | ((with_reducible first | show wpAny _ _ (exec _ _) _ _ _ | show wpAny _ _ (isTrue _ _ _) _ _ _); (fail_if_success (with_reducible show wpAny _ _ _ Q8 _ _)); (with_reducible refine fold_q ?_); intro Q8 hQ8)
    | ((with_reducible refine hQ8 _ _ ?_); clear hQ8; (try dsimp only))
    | ((with_reducible show wpAny _ _ (eval (PySem.Expr.ListComp _ _ _ _) _) _ _ _); (k_here; k_dflt (refine comp_t (by k_asm) (by with_unfolding_all rfl) (by decide) (by rfl) (by decide) (by rfl) ?_)))
    | ((with_reducible show wpAny _ _ (execs (_ :: _) _) _ _ _); (k_here; (with_reducible refine wpAny_execs_cons ?_); try dsimp only))
    | (walk1) | (dsimp only; walk1) | (leave1; (try dsimp only)) | fail "no step")
  refine SrcST.intro rfl (by assumption) (by assumption) h128 hz ?_ ?_
  · intro g c t I oI C oC D m₂ h tk E' hc hC hx F' N' off ne
    have hc2 := hl c hc
    cases b
    · k_steps
      rw [occ_f hc2]
      exact SgNo.intro (by assumption) (by assumption) fun p hp => hp
    · k_steps
      rw [occ_t hc2]
      exact SgNo.intro (by assumption) (by assumption) fun p hp => hp
  · intro D h tk F' N' o
    repeat' (first
      | (k_unfold; (try dsimp only))
      | ((with_reducible first | show wpAny _ _ (exec _ _) _ _ _ | show wpAny _ _ (isTrue _ _ _) _ _ _); (fail_if_success (with_reducible show wpAny _ _ _ Q8 _ _)); (with_reducible refine fold_q ?_); intro Q8 hQ8)
      | ((with_reducible refine hQ8 _ _ ?_); clear hQ8; (try dsimp only))
      | ((with_reducible show wpAny _ _ (eval (PySem.Expr.ListComp _ _ _ _) _) _ _ _); (k_here; k_dflt (refine comp_t (by k_asm) (by with_unfolding_all rfl) (by decide) (by rfl) (by decide) (by rfl) ?_)))
      | ((with_reducible show wpAny _ _ (execs (_ :: _) _) _ _ _); (k_here; (with_reducible refine wpAny_execs_cons ?_); try dsimp only))
      | (walk1) | (dsimp only; walk1) | (leave1; (try dsimp only)) | fail "no step")
    have N8 := ‹News h₀ L _ _›
    refine' next _ _ _ _ ?m ?F ?N ?G
    case F => assumption
    case m => exact fun y => rfl
    case G => assumption
    case N =>
      refine news_sub N8 fun q hq => ?_
      first | exact hq | exact .tail _ hq | exact .tail _ (.tail _ hq)
end
section
open PySem PySem.W PyProof.Rows
open PySem.Calls PySem.Spec
set_option maxRecDepth 100000
set_option maxHeartbeats 8000000
section
variable {prog : Program} {w : World} {A : Around} {h₀ : Heap} {L : Addr} {x : Str} {body : List Stmt} {Q : Flow → Shared → Prop} {cn : Str} {cs : Scope} {a : Addr} {ccd : Value} {cl : List (Str × Addr)}
theorem iter_sg {s : Shared} {px : Pos} {m : Str → Option Value} {news : Led} {l : List Nat} {t : Tok} (hh : A.handled = none) (hk : cs.kind = .function) (hx : (envX cn cs L a ccd cl).kindOf x = some .local) (hy : ∀ c ∈ l, c < 128)
    (F : Fr h₀ L s.heap m) (N : News h₀ L s.heap news)
    (h : ∀ I, (∀ p ∈ news, p.1 < I) → LwRest prog w A h₀ L (envX cn cs L a ccd cl) x body Q (fun _ => True) (fun i v => ∃ c t, l[i]? = some c ∧ v = .str (S [c]) t) s.drawn s.os I l.length 0 m news s.gens) :
    wpAny (model prog w) A (pyIter (.str (S l) t)) (fun it s₂ => FLoop prog w A (envX cn cs L a ccd cl) x px body Q it s₂) (fun _ _ => False) s := by
  refine wpAny_pyIter_ascii ?_ ?_
  · rw [Array.all_eq_true_iff_forall_mem]
    intro c hc
    exact decide_eq_true (hy c (by simpa [S] using hc))
  · have hR := h s.heap.objs.size fun p hp => Heap.lt_size (N p hp).1
    have W := Walks.strAscii (prog := prog) (w := w) hh s.heap.objs.size (S l) t
    have hs : (S l).cps.size = l.length := S_size l
    have W' : Walks prog w A s.heap.objs.size [s.heap.objs.size] [s.heap.objs.size] l.length (fun i v => ∃ c t, l[i]? = some c ∧ v = .str (S [c]) t) (fun i h => h.IsStrIter s.heap.objs.size "str_ascii_iterator" (S l) t i) :=
      { sub := W.sub, frame := W.frame, done := fun s Q E st => W.done s Q E (by rw [hs]; exact st), self := W.self, item := fun i s Q E hi st hQ => W.item i s Q E (by rw [hs]; exact hi) st fun v h' tk hP => hQ v h' tk (by
          obtain ⟨c, u, e, rfl⟩ := hP
          exact ⟨c, u, by simpa [S] using e, rfl⟩) }
    exact for_walk (S := fun _ => True) W' (fun i h st => by obtain ⟨o, e, c, _⟩ := st; exact ⟨o, e, .cl c (by decide)⟩)
      (fun i h h' o nw st e e' _ _ _ => by obtain ⟨o', q, r⟩ := st; rw [e] at q; cases q; exact ⟨o, e', r⟩) hk hx ⟨_, Heap.get?_push_size _ rfl, rfl, rfl⟩ (F.push _) (N.grown fun b o e => Heap.get?_push_of_some _ e) (Nat.ne_of_lt F.ns.lt) (next_is_new F)
      (fun p hp => Nat.ne_of_lt (Heap.lt_size (N p hp).1)) trivial hR
end
theorem S_leaf (c : Nat) : S [c] = txt (.leaf c) := rfl
theorem seg11c {w : World} {dp un : Nat} {gd : Option (List Code)} {outer : List Env} {A₀ : Around} {base h₀ : Heap} {L fa a1 a2 a3 a4 Td P I Dl : Addr} {cd : Value} {mean : ExcName → Option Value} {mg mb : Str → Option Value} {bs : Led} {kvs : List (Str × Value)} {Q : Flow → Shared → Prop}
    (B : Below A₀ base outer h₀) (X : (hd.heap_39 w.params).In h₀) (T : Top topProg looseT mean mg mb h₀) (hd : dp + 220 < recursionLimit) (hu : un + 1760 < cLine)
    {s : Shared} {u : Str → Option Value} {g1 g2 g3 K : Nat} {r rt : Tm} {tk z1 z2 : Tok} {o4 oI oD oT : Obj} {b : Bool} (d4 : o4.data = .cell (some (.bool b))) (okI : okE oI) (okD : okE oD) (okT : okE oT)
    (ok1 : wf (.leaf g1)) (ok2 : wf (.leaf g2)) (ok3 : wf (.leaf g3)) (h128 : ∀ c ∈ [g1, g2, g3], c < 128) (hwf : wf r) (hkn : known kvs r) (hsz : r.size ≤ 200) (hz : kvs.length ≤ 3000) (hK : K ≤ 200)
    (hn : norm 8 (.app (.app (.app r (.leaf g1)) (.leaf g2)) (.leaf g3)) = some (rt, K))
    (F : Fr h₀ L s.heap (fun y => if y = "term" then some (.str (txt r) tk) else if y = "things" then some (.str (S [g1, g2, g3]) z1) else if y = "parts" then some (.ref P) else if y = "due" then some (.str (txt rt) z2) else u y))
    (N : News h₀ L s.heap ((I, oI) :: (a4, o4) :: (Dl, oD) :: (Td, oT) :: bs)) (SP : PState RW w bs P kvs) (tb : Tab bs) (hg : AllBare s.gens)
    (next : ∀ (bs' : Led) (kvs' : List (Str × Value)) (m' : Str → Option Value) (h' : Heap) (g' : Array GenState) (tkk : Nat), (∀ y : Str, y ≠ "term" → y ≠ "thing" → m' y = (if y = "things" then some (.str (S [g1, g2, g3]) z1) else if y = "parts" then some (.ref P) else if y = "due" then some (.str (txt rt) z2) else u y)) → Fr h₀ L h' m' → News h₀ L h' ((I, oI) :: (a4, o4) :: (Dl, oD) :: (Td, oT) :: bs') →
      AllBare g' → PState RW w bs' P kvs' → Tab bs' → (∀ u, known kvs u → known kvs' u) → kvs'.length ≤ kvs.length + 210 → (∀ e ∈ ((I, oI) :: (a4, o4) :: (Dl, oD) :: (Td, oT) :: []), ∀ q ∈ bs', q.1 ≠ e.1) → Q .next { heap := h', gens := g', drawn := s.drawn, toks := tkk, os := s.os }) :
    wpAny (model PySem.Challenge.rw_xl0011_01.row.prog w) (lwA w dp un gd L fa cd (lwCl a1 a2 a3 a4) outer) (execs [(lawM w).1.b4, (lawM w).1.b5] (lwEnv w L fa cd (lwCl a1 a2 a3 a4))) Q (fun _ _ => False) s := by
  unfold lawM lwA lwEnv lawF
  dsimp only
  revert X
  k_fill
  w_top off
  intro X
  refine fold_ctx ?_
  intro M9 A9 e9
  repeat' (first
    | (k_unfold; (try dsimp only))
    | ((with_reducible show wpAny _ _ (exec (Stmt.For (PySem.Expr.Name _ _) (PySem.Expr.Name _ _) _ _ _) _) _ _ _); (k_here; k_dflt (refine' for_x ?_ ?hs; (case hs => intro _; rfl); k_whole)); (try k_fold))
    | ((with_reducible show wpAny _ _ (compareOp CmpOp.NotEq (Value.str _ _) (Value.str _ _)) _ _ _); (k_here; k_dflt (refine' ne_eqv ?e ?_; (case e => exact rfl); k_whole)); (try k_fold))
    | ((with_reducible show wpAny _ _ (call (Value.ref _) _) _ _ _); (k_here; k_dflt (refine' law_use (pl_L _ _ _ _ _ ?ke1 ?kz1 ?kz2 ?kz3 ?kz4) ?k1 ?k2 ?k3 ?k4 ?k5 ?k6 ?k7 ?k8 ?k9 ?ksp ?kS ?kT ?_; (case k1 | k2 => k_asm); (case k3 | k4 | k5 => k_asm); (case k6 => exact rfl); (case k7 => ktr_room); (case k8 => ktr_units); (case k9 => assumption); (case ksp => (repeat' first | exact okE.id (by assumption) | exact okE.cell (by assumption) | exact okE.cl rfl (by decide) | refine' Sp.cons ?_ ?_ | exact Sp.app (by assumption) | exact Sp.nil)); (case kS | kT => assumption); (case ke1 => exact rfl); (case kz1 | kz2 | kz3 => assumption); (case kz4 => (rw [sizeLine_eq]; unfold lim; omega))); intro tk9 bs9 kvs9 h9 tkk9 g9 F9 N9 G9 S9 T9 kn9 mo9 le9 wf9 of9; (try simp only [List.cons_append, List.nil_append] at N9)); (try k_fold))
    | ((with_reducible show wpAny _ _ (call (Value.ref _) _) _ _ _); (k_here; k_dflt (refine' law_use (on_L _ _ _ _ _ _ ?ke1 ?ke2 ?kz1 ?kz2 ?kz3 ?kz4 ?kz5 ?kz6) ?k1 ?k2 ?k3 ?k4 ?k5 ?k6 ?k7 ?k8 ?k9 ?ksp ?kS ?kT ?_; (case k1 | k2 => k_asm); (case k3 | k4 | k5 => k_asm); (case k6 => exact rfl); (case k7 => ktr_room); (case k8 => ktr_units); (case k9 => assumption); (case ksp => (repeat' first | exact okE.id (by assumption) | exact okE.cell (by assumption) | exact okE.cl rfl (by decide) | refine' Sp.cons ?_ ?_ | exact Sp.app (by assumption) | exact Sp.nil)); (case kS | kT => assumption); (case ke1 => exact rfl); (case ke2 => exact S_leaf _); (case kz1 | kz2 | kz3 => assumption); (case kz4 => exact True.intro); (case kz5 => (rw [sizeLine_eq]; simp only [size_app, size_leaf]; omega)); (case kz6 => (rw [sizeLine_eq]; omega))); intro tk9 bs9 kvs9 h9 tkk9 g9 F9 N9 G9 S9 T9 kn9 mo9 le9 wf9 of9; (try simp only [List.cons_append, List.nil_append] at N9)); (try k_fold))
    | ((with_reducible show wpAny _ _ (pyIter (Value.str _ _)) _ _ _); (k_here; k_dflt (refine' iter_sg ?hh ?hk ?hx ?hy ?F ?N ?_; (case hh | hk | hx => exact rfl); (case hy => assumption); (case F | N => k_asm)); intro I9 l9); (try k_fold))
    | ((with_reducible show wpAny _ _ (execs (_ :: _) _) _ _ _); (k_here; (with_reducible refine wpAny_execs_cons ?_); (try dsimp only); (try k_fold); (try (refine fold_fn (by k_asm) (by k_asm) ?_; intro led9 fm9 F9 N9))); (try k_fold))
    | ((with_reducible show wpAny _ _ (eval (PySem.Expr.Call _ _ _ _) _) _ _ _); (k_here; (with_reducible show wpAny _ _ (eval (Expr.Call (Expr.Name _ _) (_ :: _) [] _) _) _ _ _); k_dflt (refine' call_args ?F ?X ?T ?e ?hf ?hb ?hk ?he ?A ?cs ?_; (case F | X | T => k_asm); (case hf | hb => rfl); (case e | hk => k_is); (case cs | he => rfl); (case A => (repeat' first | exact ArgsEv.nil | refine' ArgsEv.name (by rfl) (by rfl) (by rfl) ?_ | refine' ArgsEv.str ?_)); k_whole)); (try k_fold))
    | ((fail_if_success (with_reducible show wpAny _ _ _ _ _ _)); first
      | (k_here; k_dflt (refine' LwEnd.intro ?F ?N ?pk ?off ⟨?src, ?_⟩; (case F | N => k_asm); (case pk => (repeat' first | exact Pk.here | refine' Pk.next ?_)); (case off => (repeat' first | (refine List.forall_mem_cons.mpr ⟨?_, ?_⟩) | (refine List.forall_mem_append.mpr ⟨?_, ?_⟩) | exact List.forall_mem_nil _ | exact offA (by assumption) (by k_mem) | exact offB (by assumption) (by k_mem) | k_ne | exact offT (by assumption) (by k_mem) | (refine offE (by assumption) (fun q hq => ?_); repeat' first | exact hq | exact List.mem_append_left _ hq | exact List.mem_append_right _ hq | refine List.mem_cons_of_mem _ ?_))); (case src => first | exact True.intro | exact Or.inr ⟨_, by k_mem, rfl, _, rfl⟩)))
      | (with_unfolding_all first | (refine LwRest.succ ?_; intro v9 it9 h9 tk9 hv9 ok9 F9 N9; obtain ⟨c9, t9, hc9, hv9⟩ := hv9; (replace hc9 := Option.some.inj hc9); subst hv9; subst hc9) | (refine LwRest.zero ?_; intro h9 tk9 F9 N9))
      | fail "no own line")
    | (walk1; (try k_fold)) | (dsimp only; walk1; (try k_fold)) | (leave1; (try dsimp only)) | fail "no step")
  have N8 := ‹News h₀ L _ _›
  have of8 := ‹∀ e : Addr × Obj, e ∈ _ → ∀ q : Addr × Obj, q ∈ _ → q.1 ≠ e.1›
  refine' next _ _ _ _ _ _ ?m ?F ?N ?G ?S ?T ?mo ?le ?of
  case F => assumption
  case m =>
    intro y e1 e2
    simp +zetaDelta only [if_neg e1, if_neg e2]
  case G => assumption
  case S => assumption
  case T => assumption
  case N =>
    refine news_sub N8 fun q hq => ?_
    first | exact hq | exact .tail _ hq | exact .tail _ (.tail _ hq)
  case of =>
    intro e he q hq
    refine of8 e ?_ q hq
    first | exact he | exact .tail _ he | exact .tail _ (.tail _ he)
  case le => omega
  case mo => exact fun v hv => (by assumption : ∀ u : Tm, known _ u → known _ u) v ((by assumption : ∀ u : Tm, known _ u → known _ u) v ((by assumption : ∀ u : Tm, known _ u → known _ u) v ((by assumption : ∀ u : Tm, known _ u → known _ u) v hv)))
end
section
open PySem PySem.W PyProof.Rows
open PySem.Calls PySem.Spec
set_option maxRecDepth 100000
set_option maxHeartbeats 8000000
theorem mem_oks {b : Bool} {c : Nat} (h : oks b c = true) : c ∈ okL b := by
  unfold oks at h
  cases e1 : Nat.beq c 83
  · cases e2 : Nat.beq c 75
    · cases e3 : Nat.beq c 73
      · cases e4 : Nat.beq c 107
        · cases b
          · simp only [e1, e2, e3, e4] at h; cases h
          · cases e5 : Nat.beq c 66
            · simp only [e1, e2, e3, e4, e5] at h
              rw [Nat.eq_of_beq_eq_true h]; decide
            · rw [Nat.eq_of_beq_eq_true e5]; decide
        · rw [Nat.eq_of_beq_eq_true e4]; cases b <;> decide
      · rw [Nat.eq_of_beq_eq_true e3]; cases b <;> decide
    · rw [Nat.eq_of_beq_eq_true e2]; cases b <;> decide
  · rw [Nat.eq_of_beq_eq_true e1]; cases b <;> decide
theorem enc_oks {b : Bool} : ∀ {t : Tm}, lv (oks b) t = true → ∀ c ∈ enc t, c ∈ okL b
  | .leaf d, h, c, hc => by rw [List.mem_singleton.mp hc]; exact mem_oks h
  | .app f a, h, c, hc => by
    unfold lv at h
    cases e : lv (oks b) f
    · rw [e] at h; cases h
    · rw [e] at h
      rcases List.mem_cons.mp hc with rfl | hc
      · cases b <;> decide
      · rcases List.mem_append.mp hc with hc | hc
        · exact enc_oks e c hc
        · exact enc_oks h c hc
structure MFr (m : Str → Option Value) (Td P : Addr) (d : Bool) (g1 g2 g3 : Nat) (z1 z2 : Tok) (rt : Tm) : Prop where
  told : m "told" = some (.ref Td)
  drop : m "drop" = some (.bool d)
  parts : m "parts" = some (.ref P)
  things : m "things" = some (.str (S [g1, g2, g3]) z1)
  due : m "due" = some (.str (txt rt) z2)
theorem seg11 {w : World} {dp un : Nat} {gd : Option (List Code)} {outer : List Env} {A₀ : Around} {base h₀ : Heap} {L fa a1 a2 a3 a4 Td P I Dl : Addr} {cd : Value} {mean : ExcName → Option Value} {mg mb : Str → Option Value} {bs : Led} {kvs : List (Str × Value)} {Q : Flow → Shared → Prop}
    (B : Below A₀ base outer h₀) (X : (hd.heap_39 w.params).In h₀) (T : Top topProg looseT mean mg mb h₀) (hd : dp + 220 < recursionLimit) (hu : un + 1760 < cLine)
    {s : Shared} {m : Str → Option Value} {c1 c2 c3 g1 g2 g3 K : Nat} {t rt : Tm} {d b : Bool} {x1 x2 x3 x4 z1 z2 : Tok} {n : Nat} {o4 oI oD : Obj} (d4 : o4.data = .cell (some (.bool b))) (okI : okE oI) (okD : okE oD)
    (ok1 : okc c1) (ok2 : okc c2) (ok3 : okc c3) (okg1 : wf (.leaf g1)) (okg2 : wf (.leaf g2)) (okg3 : wf (.leaf g3)) (h128 : ∀ c ∈ [g1, g2, g3], c < 128) (hwf : wf t) (hkn : known kvs t) (hsz0 : t.size ≤ 7) (hz : kvs.length ≤ 2000) (hK : K ≤ 200)
    (hlv : lv (oks b) (without c1 d b (without c2 d b (without c3 d b t))) = true)
    (hn : norm 8 (.app (.app (.app (without c1 d b (without c2 d b (without c3 d b t))) (.leaf g1)) (.leaf g2)) (.leaf g3)) = some (rt, K))
    (M : MFr m Td P d g1 g2 g3 z1 z2 rt) (F : Fr h₀ L s.heap m)
    (N : News h₀ L s.heap ((I, oI) :: (a4, o4) :: (Dl, oD) :: (Td, lo [.str (txt t) x1, .str (S [c3]) x2, .str (S [c2]) x3, .str (S [c1]) x4] n) :: bs)) (SP : PState RW w bs P kvs) (tb : Tab bs) (hg : AllBare s.gens)
    (next : ∀ (bs' : Led) (kvs' : List (Str × Value)) (m' : Str → Option Value) (h' : Heap) (g' : Array GenState) (tkk : Nat), MFr m' Td P d g1 g2 g3 z1 z2 rt → Fr h₀ L h' m' →
      News h₀ L h' ((I, oI) :: (a4, o4) :: (Dl, oD) :: (Td, lo [.str (txt t) x1, .str (S [c3]) x2, .str (S [c2]) x3, .str (S [c1]) x4] n) :: bs') →
      AllBare g' → PState RW w bs' P kvs' → Tab bs' → (∀ u, known kvs u → known kvs' u) → kvs'.length ≤ kvs.length + 500 → (∀ e ∈ ((I, oI) :: (a4, o4) :: (Dl, oD) :: (Td, lo [.str (txt t) x1, .str (S [c3]) x2, .str (S [c2]) x3, .str (S [c1]) x4] n) :: []), ∀ q ∈ bs', q.1 ≠ e.1) → Q .next { heap := h', gens := g', drawn := s.drawn, toks := tkk, os := s.os }) :
    wpAny (model PySem.Challenge.rw_xl0011_01.row.prog w) (lwA w dp un gd L fa cd (lwCl a1 a2 a3 a4) outer) (execs [(lawM w).1.b1, (lawM w).1.b2, (lawM w).1.b3, (lawM w).1.b4, (lawM w).1.b5] (lwEnv w L fa cd (lwCl a1 a2 a3 a4))) Q (fun _ _ => False) s := by
  have hsz1 : (without c3 d b t).size ≤ 21 := Nat.le_trans size_without (by omega)
  have hsz2 : (without c2 d b (without c3 d b t)).size ≤ 63 := Nat.le_trans size_without (by omega)
  have hsz3 : (without c1 d b (without c2 d b (without c3 d b t))).size ≤ 189 := Nat.le_trans size_without (by omega)
  refine execs_app (l1 := [(lawM w).1.b1, (lawM w).1.b2]) (l2 := [(lawM w).1.b3, (lawM w).1.b4, (lawM w).1.b5]) ?_
  refine seg11a B X T hd hu d4 okI okD ok1 ok2 ok3 hwf hkn hsz0 hz (fr_set (fr_set (fr_set F M.parts) ((if_neg (by decide)).trans M.drop)) ((if_neg (by decide)).trans ((if_neg (by decide)).trans M.told))) N SP tb hg ?_
  intro tk bs1 kvs1 m1 h1 g1' tk1 e1 q1 F1 N1 G1 S1 T1 k1 mo1 le1 wf1 of1
  generalize hR : without c1 d b (without c2 d b (without c3 d b t)) = R at hlv hn hsz3 e1 k1 wf1
  refine execs_app (l1 := [(lawM w).1.b3]) (l2 := [(lawM w).1.b4, (lawM w).1.b5]) ?_
  refine seg11b (P := P) (s := ⟨h1, g1', s.drawn, tk1, s.os⟩) B X T hd hu d4 (enc_oks hlv) (by rw [enc_len]; omega) (fr_set F1 e1) N1 G1 ?_
  intro m2 h2 g2' tk2 q2 F2 N2 G2
  have p2 : ∀ y : Str, y ≠ "term" → y ≠ "bound" → m2 y = m y := fun y y1 y2 => (q2 y).trans ((if_neg y1).trans ((q1 y y1 y2).trans (by
    by_cases h1 : y = "told"
    · rw [if_pos h1, h1]; exact M.told.symm
    · rw [if_neg h1]
      by_cases h2 : y = "drop"
      · rw [if_pos h2, h2]; exact M.drop.symm
      · rw [if_neg h2]
        by_cases h3 : y = "parts"
        · rw [if_pos h3, h3]; exact M.parts.symm
        · rw [if_neg h3])))
  have M2 : MFr m2 Td P d g1 g2 g3 z1 z2 rt := {
    told := (p2 _ (by decide) (by decide)).trans M.told
    drop := (p2 _ (by decide) (by decide)).trans M.drop
    parts := (p2 _ (by decide) (by decide)).trans M.parts
    things := (p2 _ (by decide) (by decide)).trans M.things
    due := (p2 _ (by decide) (by decide)).trans M.due }
  have e2 : m2 "term" = some (.str (txt R) tk) := (q2 _).trans (if_pos rfl)
  refine seg11c (s := ⟨h2, g2', s.drawn, tk2, s.os⟩) (tk := tk) B X T hd hu d4 okI okD (.cl rfl (by decide)) okg1 okg2 okg3 h128 wf1 k1 (by omega) (by omega) hK hn
    (fr_set (fr_set (fr_set (fr_set F2 M2.due) ((if_neg (by decide)).trans M2.parts)) ((if_neg (by decide)).trans ((if_neg (by decide)).trans M2.things))) ((if_neg (by decide)).trans ((if_neg (by decide)).trans ((if_neg (by decide)).trans e2)))) N2 S1 T1 G2 ?_
  intro bs3 kvs3 m3 h3 g3' tk3 q3 F3 N3 G3 S3 T3 mo3 le3 of3
  refine next bs3 kvs3 m3 h3 g3' tk3 ?_ F3 N3 G3 S3 T3 (fun u hu => mo3 u (mo1 u hu)) (by omega) of3
  exact {
    told := (q3 _ (by decide) (by decide)).trans ((if_neg (by decide)).trans ((if_neg (by decide)).trans ((if_neg (by decide)).trans M2.told)))
    drop := (q3 _ (by decide) (by decide)).trans ((if_neg (by decide)).trans ((if_neg (by decide)).trans ((if_neg (by decide)).trans M2.drop)))
    parts := (q3 _ (by decide) (by decide)).trans ((if_neg (by decide)).trans (if_pos rfl))
    things := (q3 _ (by decide) (by decide)).trans (if_pos rfl)
    due := (q3 _ (by decide) (by decide)).trans ((if_neg (by decide)).trans ((if_neg (by decide)).trans (if_pos rfl))) }
end
section
open PySem PySem.W PyProof.Rows
open PySem.Calls PySem.Spec
set_option maxRecDepth 100000
set_option maxHeartbeats 8000000
theorem CwEnd.intro {h₀ : Heap} {L : Addr} {dr : Drawn} {os : OsState} {I c : Addr} {it : Obj} {rest : (Str → Option Value) → Led → Array GenState → Prop} {h' : Heap} {tk : Nat} {g' : Array GenState} {m' : Str → Option Value} {news' : Led} {oc : Obj} {v : Option Value}
    (F : Fr h₀ L h' m') (N : News h₀ L h' ((I, it) :: (c, oc) :: news')) (d : oc.data = .cell v) (offI : ∀ p ∈ news', p.1 ≠ I) (offc : ∀ p ∈ news', p.1 ≠ c) (r : rest m' news' g') :
    CwEnd h₀ L dr os I c it rest { heap := h', gens := g', drawn := dr, toks := tk, os := os } := .mk d F N offI offc r
theorem seg12 {w : World} {dp un : Nat} {gd : Option (List Code)} {outer : List Env} {A₀ : Around} {base h₀ : Heap} {L fa a1 a2 a3 a4 Td P : Addr} {cd : Value} {mean : ExcName → Option Value} {mg mb : Str → Option Value} {bs : Led} {kvs : List (Str × Value)} {Q : Flow → Shared → Prop}
    (B : Below A₀ base outer h₀) (X : (hd.heap_39 w.params).In h₀) (T : Top topProg looseT mean mg mb h₀) (hd : dp + 220 < recursionLimit) (hu : un + 1760 < cLine)
    {s : Shared} {m : Str → Option Value} {c1 c2 c3 g1 g2 g3 : Nat} {t rt : Tm} {d : Bool} {x1 x2 x3 x4 z1 z2 : Tok} {n : Nat} {o4 : Obj} {v4 : Option Value} (d4 : o4.data = .cell v4)
    (ok1 : okc c1) (ok2 : okc c2) (ok3 : okc c3) (okg1 : wf (.leaf g1)) (okg2 : wf (.leaf g2)) (okg3 : wf (.leaf g3)) (h128 : ∀ c ∈ [g1, g2, g3], c < 128) (hwf : wf t) (hkn : known kvs t) (hsz0 : t.size ≤ 7) (hz : kvs.length ≤ 1000)
    (hlaw : ∀ b, lv (oks b) (without c1 d b (without c2 d b (without c3 d b t))) = true ∧ ∃ K, norm 8 (.app (.app (.app (without c1 d b (without c2 d b (without c3 d b t))) (.leaf g1)) (.leaf g2)) (.leaf g3)) = some (rt, K) ∧ K ≤ 200)
    (M : MFr m Td P d g1 g2 g3 z1 z2 rt) (F : Fr h₀ L s.heap m) (of4 : ∀ q ∈ bs, q.1 ≠ a4)
    (N : News h₀ L s.heap ((a4, o4) :: (Td, lo [.str (txt t) x1, .str (S [c3]) x2, .str (S [c2]) x3, .str (S [c1]) x4] n) :: bs)) (SP : PState RW w bs P kvs) (tb : Tab bs) (hg : AllBare s.gens)
    (next : ∀ (bs' : Led) (m' : Str → Option Value) (h' : Heap) (g' : Array GenState) (tkk : Nat), Fr h₀ L h' m' → News h₀ L h' bs' → AllBare g' → Tab bs' → Q .next { heap := h', gens := g', drawn := s.drawn, toks := tkk, os := s.os }) :
    wpAny (model PySem.Challenge.rw_xl0011_01.row.prog w) (lwA w dp un gd L fa cd (lwCl a1 a2 a3 a4) outer) (execs [(lawX w).1.s23] (lwEnv w L fa cd (lwCl a1 a2 a3 a4))) Q (fun _ _ => False) s := by
  have nT : Td ≠ a4 := ne_cell N (.tail _ (.head _)) (.head _) d4
  unfold lawX lwA lwEnv lawF
  dsimp only
  revert X
  k_fill
  w_top off
  intro X
  try (refine fold_ctx ?_; intro M9 A9 e9)
  repeat' (first
    | (k_unfold; (try dsimp only))
    | ((with_reducible first | show wpAny _ _ (exec _ _) _ _ _ | show wpAny _ _ (isTrue _ _ _) _ _ _); (fail_if_success (with_reducible show wpAny _ _ _ Q8 _ _)); (with_reducible refine fold_q ?_); intro Q8 hQ8)
    | ((with_reducible refine hQ8 _ _ ?_); clear hQ8; (try dsimp only))
    | ((with_reducible show wpAny _ _ (exec (Stmt.For (PySem.Expr.Name _ _) (PySem.Expr.List _ _) _ _ _) _) _ _ _); (k_here; k_dflt (refine' for_x ?_ ?hs; (case hs => intro _; rfl); k_whole)))
    | ((with_reducible show wpAny _ _ (pyIter (Value.ref _)) _ _ _); (k_here; k_dflt (refine hold ?_)))
    | (walk1) | (dsimp only; walk1) | (leave1; (try dsimp only)) | fail "no step")
  unfold Hold
  have N8 := ‹News h₀ L _ (_ :: _ :: _)›
  have l8 := ‹_ < _ ∧ _ < _ ∧ AllLt _ _›
  obtain ⟨l1, l2, l3⟩ := l8
  have N7 : News h₀ L _ ((a4, o4) :: (_, W.listOf #[Value.bool false, Value.bool true] 0) :: (Td, lo [.str (txt t) x1, .str (S [c3]) x2, .str (S [c2]) x3, .str (S [c1]) x4] n) :: bs) := news_sub N8 fun q hq => by
    rcases List.mem_cons.mp hq with rfl | hq
    · exact .tail _ (.head _)
    · rcases List.mem_cons.mp hq with rfl | hq
      · exact .head _
      · exact .tail _ (.tail _ hq)
  refine iter_c (c := a4) rfl rfl rfl rfl (by assumption) N7 d4 ?_ (.head _) ?_
  · intro p hp
    rcases List.mem_cons.mp hp with rfl | hp
    · exact Nat.ne_of_gt l1
    · rcases List.mem_cons.mp hp with rfl | hp
      · exact nT
      · exact of4 p hp
  intro I lI lcI
  refine CwRest.succ ?_
  intro v it oc h tk hv ok d4' F' N'
  have hv := Option.some.inj hv
  subst hv
  obtain ⟨q1, K, q2, q3⟩ := hlaw false
  refine seg11 B X T hd hu d4' ok (.cl rfl (by decide)) ok1 ok2 ok3 okg1 okg2 okg3 h128 hwf hkn hsz0 (by omega) q3 q1 q2 M F' N' SP tb (by assumption) ?_
  intro bs1 kvs1 m1 h1 g1' tk1 M1 F1 N1 G1 S1 T1 mo1 le1 of1
  have nb1 : ∀ c : Addr × Obj, c ∈ _ → ∀ q : Addr × Obj, q ∈ bs1 → q.1 ≠ c.1 := of1
  refine CwEnd.intro F1 N1 d4' ?_ ?_ ⟨?_, ?_⟩
  · intro p hp
    rcases List.mem_cons.mp hp with rfl | hp
    · exact Nat.ne_of_lt (lI _ (.head _))
    · rcases List.mem_cons.mp hp with rfl | hp
      · exact Nat.ne_of_lt (lI _ (.tail _ (.head _)))
      · exact of1 _ (.head _) p hp
  · intro p hp
    rcases List.mem_cons.mp hp with rfl | hp
    · exact Nat.ne_of_gt l1
    · rcases List.mem_cons.mp hp with rfl | hp
      · exact nT
      · exact of1 _ (.tail _ (.head _)) p hp
  · exact Or.inr ⟨_, .head _, rfl, _, rfl⟩
  refine CwRest.succ ?_
  intro v it2 oc2 h2 tk2 hv ok2' d42 F2 N2
  have hv := Option.some.inj hv
  subst hv
  obtain ⟨q1, K2, q2, q3⟩ := hlaw true
  refine seg11 B X T hd hu d42 ok2' (.cl rfl (by decide)) ok1 ok2 ok3 okg1 okg2 okg3 h128 hwf (mo1 _ hkn) hsz0 (by omega) q3 q1 q2 M1 F2 N2 S1 T1 G1 ?_
  intro bs3 kvs3 m3 h3 g3' tk3 M3 F3 N3 G3 S3 T3 mo3 le3 of3
  refine CwEnd.intro F3 N3 d42 ?_ ?_ ⟨?_, ?_⟩
  · intro p hp
    rcases List.mem_cons.mp hp with rfl | hp
    · exact Nat.ne_of_lt (lI _ (.head _))
    · rcases List.mem_cons.mp hp with rfl | hp
      · exact Nat.ne_of_lt (lI _ (.tail _ (.head _)))
      · exact of3 _ (.head _) p hp
  · intro p hp
    rcases List.mem_cons.mp hp with rfl | hp
    · exact Nat.ne_of_gt l1
    · rcases List.mem_cons.mp hp with rfl | hp
      · exact nT
      · exact of3 _ (.tail _ (.head _)) p hp
  · exact Or.inr ⟨_, .head _, rfl, _, rfl⟩
  refine CwRest.zero ?_
  intro h5 tk5 F5 N5
  repeat' (first
    | (k_unfold; (try dsimp only))
    | ((with_reducible first | show wpAny _ _ (exec _ _) _ _ _ | show wpAny _ _ (isTrue _ _ _) _ _ _); (fail_if_success (with_reducible show wpAny _ _ _ Q8 _ _)); (with_reducible refine fold_q ?_); intro Q8 hQ8)
    | ((with_reducible refine hQ8 _ _ ?_); clear hQ8; (try dsimp only))
    | ((with_reducible show wpAny _ _ (exec (Stmt.For (PySem.Expr.Name _ _) (PySem.Expr.List _ _) _ _ _) _) _ _ _); (k_here; k_dflt (refine' for_x ?_ ?hs; (case hs => intro _; rfl); k_whole)))
    | ((with_reducible show wpAny _ _ (pyIter (Value.ref _)) _ _ _); (k_here; k_dflt (refine hold ?_)))
    | (walk1) | (dsimp only; walk1) | (leave1; (try dsimp only)) | fail "no step")
  exact next bs3 _ _ _ _ F5 (news_sub N5 fun q hq => .tail _ (.tail _ hq)) G3 T3
end
section
open PySem PySem.W PyProof.Rows
open PySem.Calls PySem.Spec
set_option maxRecDepth 100000
set_option maxHeartbeats 8000000
/-! the texts of the law -/
structure Gd (c : Nat) : Prop where
  dot : c ≠ 46
  col : c ≠ 58
  nl : c ≠ 10
  dig : Sre.isDigit c = false
  lo : c < 128
abbrev Gds (l : List Nat) : Prop := ∀ c ∈ l, Gd c
theorem gd_k (c : Nat) (h1 : 57 < c) (h2 : c ≠ 58) (h3 : c < 128) : Gd c where
  dot := by omega
  col := h2
  nl := by omega
  dig := by
    unfold Sre.isDigit
    rw [show decide (c ≤ 57) = false from decide_eq_false (by omega), Bool.and_false]
  lo := h3
theorem gd_lt {b : Nat} (h : Lt b) : Gd b := by rcases h with rfl | rfl | rfl | rfl <;> exact gd_k _ (by decide) (by decide) (by decide)
theorem gds_leaf {b : Nat} (h : Lt b) : Gds (enc (.leaf b)) := fun c hc => by rw [List.mem_singleton.mp hc]; exact gd_lt h
theorem gds_app {f a : Tm} (h1 : Gds (enc f)) (h2 : Gds (enc a)) : Gds (enc (.app f a)) := fun c hc => by
  rcases List.mem_cons.mp hc with rfl | hc
  · exact gd_k _ (by decide) (by decide) (by decide)
  · rcases List.mem_append.mp hc with hc | hc
    · exact h1 c hc
    · exact h2 c hc
theorem gds_shp {b0 b1 b2 b3 : Nat} (h0 : Lt b0) (h1 : Lt b1) (h2 : Lt b2) (h3 : Lt b3) : ∀ j, Gds (enc (shp j (.leaf b0) (.leaf b1) (.leaf b2) (.leaf b3)))
  | 0 => gds_app (gds_app (gds_app (gds_leaf h0) (gds_leaf h1)) (gds_leaf h2)) (gds_leaf h3)
  | 1 => gds_app (gds_app (gds_leaf h0) (gds_leaf h1)) (gds_app (gds_leaf h2) (gds_leaf h3))
  | 2 => gds_app (gds_app (gds_leaf h0) (gds_app (gds_leaf h1) (gds_leaf h2))) (gds_leaf h3)
  | 3 => gds_app (gds_leaf h0) (gds_app (gds_app (gds_leaf h1) (gds_leaf h2)) (gds_leaf h3))
  | _ + 4 => gds_app (gds_leaf h0) (gds_app (gds_leaf h1) (gds_app (gds_leaf h2) (gds_leaf h3)))
theorem lt_nm (k : Nat) : Lt (nA k) ∧ Lt (nB k) ∧ Lt (nC k) := by
  refine ⟨?_, ?_, ?_⟩
  · unfold nA; split <;> first | exact .inl rfl | exact .inr (.inl rfl) | exact .inr (.inr (.inl rfl))
  · unfold nB; split <;> first | exact .inl rfl | exact .inr (.inl rfl) | exact .inr (.inr (.inl rfl))
  · unfold nC; split <;> first | exact .inl rfl | exact .inr (.inl rfl) | exact .inr (.inr (.inl rfl))
theorem ne_nm {k : Nat} (hk : k < 6) : nA k ≠ nB k ∧ nA k ≠ nC k ∧ nB k ≠ nC k := by
  match k, hk with
  | 0, _ | 1, _ | 2, _ | 3, _ | 4, _ | 5, _ => exact ⟨by decide, by decide, by decide⟩
theorem gd_th (i : Nat) : ∀ c ∈ [hA i, hB i, hC i], 111 < c ∧ c < 128 := by
  intro c hc
  simp only [List.mem_cons, List.not_mem_nil, or_false] at hc
  rcases hc with rfl | rfl | rfl
  · unfold hA; split <;> decide
  · unfold hB; split <;> decide
  · unfold hC; split <;> decide
theorem plain_gds {l : List Nat} (h : Gds l) : Plain l := fun c hc => (h c hc).dig
theorem nodot_gds {l : List Nat} (h : Gds l) : 46 ∉ l := fun hc => (h _ hc).dot rfl
theorem nocol_gds {l : List Nat} (h : Gds l) : 58 ∉ l := fun hc => (h _ hc).col rfl
theorem nonl_gds {l : List Nat} (h : Gds l) : 10 ∉ l := fun hc => (h _ hc).nl rfl
theorem gds_loc : Gds loc := by
  intro c hc
  simp only [loc, List.mem_cons, List.not_mem_nil, or_false] at hc
  rcases hc with rfl | rfl | rfl | rfl | rfl <;> exact gd_k _ (by decide) (by decide) (by decide)
theorem plain_app {a b : List Nat} (ha : Plain a) (hb : Plain b) : Plain (a ++ b) := fun c hc => by
  rcases List.mem_append.mp hc with hc | hc
  · exact ha c hc
  · exact hb c hc
theorem plain_cons {c : Nat} {l : List Nat} (hc : Sre.isDigit c = false) (h : Plain l) : Plain (c :: l) := fun d hd => by
  rcases List.mem_cons.mp hd with rfl | hd
  · exact hc
  · exact h d hd
theorem plain_dot {l : List Nat} (h : Plain l) : Plain (46 :: l) := plain_cons (by decide) h
theorem tq_no (k : Nat) : ∀ c ∈ tq k, c = 58 ∨ c = 10 := by
  intro c hc
  unfold tq at hc
  split at hc <;> simp only [List.mem_cons, List.not_mem_nil, or_false] at hc
  · rcases hc with rfl | rfl <;> exact .inl rfl
  · rcases hc with rfl | rfl
    · exact .inl rfl
    · exact .inr rfl
  · rcases hc with rfl | rfl | rfl
    · exact .inr rfl
    · exact .inr rfl
    · exact .inl rfl
theorem plain_tq (k : Nat) : Plain (tq k) := fun c hc => by rcases tq_no k c hc with rfl | rfl <;> decide
theorem nodot_tq (k : Nat) : 46 ∉ tq k := fun hc => by rcases tq_no k _ hc with h | h <;> exact absurd h (by decide)
theorem enc_pos' (t : Tm) : ∃ c l, enc t = c :: l := by cases t <;> exact ⟨_, _, rfl⟩
/-- reach leaves what ends in a dot and figures -/
theorem reach_dig {w : World} {c d : Nat} {rest ds : List Nat} (hc : c ≠ 46) (hp : Plain (c :: 46 :: rest)) (hd : ∀ x ∈ d :: ds, Sre.isDigit x = true) (hk : ds.length ≤ 5) (hz : (c :: 46 :: rest).length ≤ 1000) (tk : Tok) : ReachTel w (S ((c :: 46 :: rest) ++ 46 :: d :: ds)) tk (S ((c :: 46 :: rest) ++ 46 :: d :: ds)) := by
  have z : ((c :: 46 :: rest) ++ 46 :: d :: ds).length ≤ sizeLine := by
    rw [sizeLine_eq, List.length_append]
    simp only [List.length_cons] at hz ⊢
    omega
  exact reachL_bad (a := [c]) (b := rest ++ 46 :: d :: ds) (by simpa using hc.symm) z (fun tk => hdnL_hit hp hd (by omega) z tk) tk
theorem reach_end {w : World} {c : Nat} {rest : List Nat} (hc : c ≠ 46) (hp : Plain (c :: 46 :: rest)) (hz : (c :: 46 :: rest).length ≤ 1000) (tk : Tok) : ReachTel w (S ((c :: 46 :: rest) ++ [46])) tk (S ((c :: 46 :: rest) ++ [46])) := by
  have e : (c :: 46 :: rest) ++ [46] = [c] ++ 46 :: (rest ++ [46]) := by simp
  have e2 : (c :: 46 :: rest) ++ [46] = c :: ((46 :: rest) ++ [46]) := by simp
  have z : ((c :: 46 :: rest) ++ [46]).length ≤ sizeLine := by
    rw [sizeLine_eq, List.length_append]
    simp only [List.length_cons, List.length_nil] at hz ⊢
    omega
  have p2 : Plain ((c :: 46 :: rest) ++ [46]) := plain_app hp (plain_dot (fun c h => nomatch h))
  rw [e]
  rw [e] at z
  refine reachL_bad (by simpa using hc.symm) z (fun tk => ?_) tk
  rw [← e, e2]
  rw [e2] at p2
  exact hdnL_last hc p2 (by rw [← e, e2] at z; exact z) tk
/-- reach cuts a name off -/
theorem reach_cut {w : World} {c d : Nat} {a m : List Nat} {b : List Nat} (e : a ++ 46 :: b = c :: (m ++ [d])) (ha : 46 ∉ a) (hc : c ≠ 46) (hd : d ≠ 46) (hp : Plain (a ++ 46 :: b)) (hb : 46 ∈ b ∨ b = loc) (hz : (a ++ 46 :: b).length ≤ 1000) (tk : Tok) : ReachTel w (S (a ++ 46 :: b)) tk (S (46 :: b)) := by
  have z : (a ++ 46 :: b).length ≤ sizeLine := by rw [sizeLine_eq]; omega
  refine reachL_dot ha z hb (fun tk => ?_) tk
  rw [e] at hp z ⊢
  exact hdnL_yes hc hd hp z tk
theorem reach_same1 {w : World} {c d : Nat} {m b : List Nat} (e : 46 :: b = m ++ [d]) (hc : c ≠ 46) (hd : d ≠ 46) (hp : Plain (c :: 46 :: b)) (hb : 46 ∉ b) (hl : b ≠ loc) (hz : b.length ≤ 1000) (tk : Tok) : ReachTel w (S (c :: 46 :: b)) tk (S (c :: 46 :: b)) := by
  have z : (c :: 46 :: b).length ≤ sizeLine := by rw [sizeLine_eq]; simp only [List.length_cons]; omega
  refine reachL_same (a := [c]) (by simpa using hc.symm) z hb hl (fun tk => ?_) tk
  show HdnTel w (S (c :: 46 :: b)) tk true
  rw [e] at hp z ⊢
  exact hdnL_yes hc hd hp z tk
theorem strip_cut {w : World} {p B : List Nat} (k : Nat) (hB : Gds B) (hp : p = [] ∨ ∃ q, p = q ++ [46]) (h58 : 58 ∉ p) (h10 : 10 ∉ p) (hz : (p ++ B).length ≤ 900) (tk : Tok) : StripTel w (S (p ++ B ++ (tq k ++ 46 :: loc))) tk (S B) := by
  have e := stripL (tail_tq k) (nodot_gds hB) hp (p := p) (B := B) (fun h => by
    rcases List.mem_append.mp h with h | h
    · exact h58 h
    · exact nocol_gds hB h) (fun h => by
    rcases List.mem_append.mp h with h | h
    · exact h10 h
    · exact nonl_gds hB h) loc (nonl_gds gds_loc)
  rw [← e]
  refine strip_all _ tk ?_
  have := tq_len k
  rw [S_len, sizeLine_eq]
  simp only [List.length_append, List.length_cons, List.length_nil, loc] at hz ⊢
  omega
theorem enc_subst {ρ : Nat → Nat} (h : ρ 96 = 96) : ∀ t : Tm, enc (subst ρ t) = (enc t).map ρ
  | .leaf c => rfl
  | .app f a => by
    show 96 :: (enc (subst ρ f) ++ enc (subst ρ a)) = (96 :: (enc f ++ enc a)).map ρ
    rw [List.map_cons, List.map_append, enc_subst h f, enc_subst h a, h]
end
section
open PySem PySem.W PyProof.Rows
open PySem.Calls PySem.Spec
set_option maxRecDepth 100000
set_option maxHeartbeats 8000000
/-! facts of the frame -/
abbrev Has (m : Str → Option Value) (l : List (Str × Value)) : Prop := ∀ p ∈ l, m p.1 = some p.2
theorem Has.keep {m m' : Str → Option Value} {l : List (Str × Value)} (ns : List Str) {xs : List Str} (H : Has m l) (k : ∀ y, y ∉ xs → m' y = m y) (e : l.map (·.1) = ns) (d : ns.all (fun x => !xs.contains x) = true) : Has m' l := fun p hp => by
  have h1 := List.all_eq_true.mp d p.1 (e ▸ List.mem_map_of_mem hp)
  have h2 : p.1 ∉ xs := fun hm => by
    rw [List.contains_iff_mem.mpr hm] at h1
    cases h1
  exact (k p.1 h2).trans (H p hp)
abbrev lwNames : List Str := ["body", "names", "drop", "tails", "first", "things", "name", "host", "parts"]
def setL (l : List (Str × Value)) (m : Str → Option Value) : Str → Option Value := fun y => l.foldr (fun p r => if y = p.1 then some p.2 else r) (m y)
theorem setL_eq {m : Str → Option Value} : ∀ {l : List (Str × Value)}, Has m l → setL l m = m
  | [], _ => rfl
  | p :: l, h => by
    funext y
    show (if y = p.1 then some p.2 else setL l m y) = m y
    rw [setL_eq (l := l) fun q hq => h q (.tail _ hq)]
    by_cases e : y = p.1
    · rw [if_pos e, e]; exact (h p (.head _)).symm
    · rw [if_neg e]
theorem fr_setL {h₀ h : Heap} {L : Addr} {m : Str → Option Value} {l : List (Str × Value)} (F : Fr h₀ L h m) (H : Has m l) : Fr h₀ L h (setL l m) := by rw [setL_eq H]; exact F
theorem has_nil {m : Str → Option Value} : Has m [] := fun _ h => nomatch h
theorem has_cons {m : Str → Option Value} {x : Str} {v : Value} {l : List (Str × Value)} (h : m x = some v) (r : Has m l) : Has m ((x, v) :: l) := List.forall_mem_cons.mpr ⟨h, r⟩
theorem clean {w : World} {h₀ h : Heap} {L P : Addr} {es bs : Led} {kvs : List (Str × Value)} (N : News h₀ L h (es ++ bs)) (S : PState RW w bs P kvs) (tb : Tab bs) (ok : ∀ p ∈ es, okE p.2) :
    ∃ bs', News h₀ L h (es ++ bs') ∧ PState RW w bs' P kvs ∧ Tab bs' ∧ ∀ e ∈ es, ∀ q ∈ bs', q.1 ≠ e.1 := by
  have off := okE.off N S tb ok
  have hX : Ext (es.map (·.1)) bs (bs.filter fun q => decide (q.1 ∉ es.map (·.1))) := fun b o hb hn => List.mem_filter.mpr ⟨hb, decide_eq_true hn⟩
  have nP : ∀ a ∈ [P, 80], a ∉ es.map (·.1) := fun a ha hm => by
    obtain ⟨p, hp, q⟩ := List.mem_map.mp hm
    exact off p hp (q ▸ ha)
  refine ⟨bs.filter fun q => decide (q.1 ∉ es.map (·.1)), fun p hp => ?_, S.ext hX (nP _ (.head _)) fun b hb o ho vs e => ?_, tb.ext hX (nP _ (.tail _ (.head _))), fun e he q hq => ?_⟩
  · rcases List.mem_append.mp hp with hp | hp
    · exact N p (List.mem_append_left _ hp)
    · exact N p (List.mem_append_right _ (List.mem_filter.mp hp).1)
  · obtain ⟨p, hp, q⟩ := List.mem_map.mp hb
    have e1 := (N p (List.mem_append_left _ hp)).1
    have e2 := (N _ (List.mem_append_right es ho)).1
    have q : p.1 = b := q
    rw [q, e2] at e1
    exact (ok p hp).ntup vs ((Option.some.inj e1).symm.trans e)
  · have := (List.mem_filter.mp hq).2
    intro q2
    exact (of_decide_eq_true this) (List.mem_map.mpr ⟨e, he, q2.symm⟩)
theorem fm_nat (e : Int) {b : Nat} (hb : 0 < b) : ∃ p : Nat, e.fmod (b : Int) = (p : Int) ∧ p < b := by
  have h0 := fm_lo e (b := (b : Int)) (by omega)
  have h1 := fm_hi e (b := (b : Int)) (by omega)
  exact ⟨(e.fmod (b : Int)).toNat, by omega, by omega⟩
theorem all2_one {R : Value → Tm → Prop} {vs : List Value} {t : Tm} (h : All2 R vs [t]) : ∃ v, vs = [v] ∧ R v t := by
  cases h with
  | cons a r => cases r; exact ⟨_, rfl, a⟩
theorem ok_lt {b : Nat} (h : Lt b) : okc b := h.ok
theorem sk_mem {x : Str} {v : Value} {m : Str → Option Value} {l : List (Str × Value)} (H : Has m l) (h : (x, v) ∈ l) : m x = some v := H (x, v) h
theorem law_walk3 {w : World} {dp un : Nat} {gd : Option (List Code)} {outer : List Env} {A₀ : Around} {base h₀ : Heap} {L fa a1 a2 a3 a4 Nm Tl P : Addr} {cd : Value} {mean : ExcName → Option Value} {mg mb : Str → Option Value} {bs : Led} {kvs : List (Str × Value)} {Q : Flow → Shared → Prop}
    (B : Below A₀ base outer h₀) (X : (hd.heap_39 w.params).In h₀) (T : Top topProg looseT mean mg mb h₀) (hd : dp + 220 < recursionLimit) (hu : un + 1760 < cLine)
    {s : Shared} {m : Str → Option Value} {o3 o4 : Obj} {n1 n2 : Nat} {t : Tm} {d : Bool} {c1 c2 c3 g1 g2 g3 : Nat} {e : Int} {z1 z2 z3 z4 z5 x1 x2 x3 y1 y2 y3 : Tok} (l34 : @LT.lt Nat _ a3 a4)
    (wft : wf t) (knt : known kvs t) (hts : t.size ≤ 7) (gdt : Gds (enc t)) (hkv : kvs.length ≤ 100) (lc1 : Lt c1) (lc2 : Lt c2) (lc3 : Lt c3) (ne1 : c1 ≠ c2) (ne2 : c1 ≠ c3) (ne3 : c2 ≠ c3) (gg : ∀ c ∈ [g1, g2, g3], 111 < c ∧ c < 128)
    (law : ∀ b : Bool, lv (oks b) (without c1 d b (without c2 d b (without c3 d b t))) = true ∧ ∃ K, norm 8 (.app (.app (.app (without c1 d b (without c2 d b (without c3 d b t))) (.leaf g1)) (.leaf g2)) (.leaf g3)) = some (subst (tsub c1 c2 c3 g1 g2 g3) t, K) ∧ K ≤ 200)
    (H : Has m [("body", .str (S (enc t)) z1), ("names", .ref Nm), ("drop", .bool d), ("tails", .ref Tl), ("first", .int (e.fmod 3) z2), ("things", .str (S [g1, g2, g3]) z3), ("name", .str (S (c1 :: 46 :: c2 :: 46 :: c3 :: 46 :: enc t)) z4), ("host", .str (S ((c1 :: 46 :: (c2 :: 46 :: (c3 :: 46 :: enc t))) ++ (tq (e.fmod 3).toNat ++ 46 :: loc))) z5), ("parts", .ref P)])
    (d3 : o3.data = .cell none) (d4 : o4.data = .cell none)
    (F : Fr h₀ L s.heap m) (N : News h₀ L s.heap ((Nm, lo [.str (S [c1]) x1, .str (S [c2]) x2, .str (S [c3]) x3] n1) :: (Tl, lo [.str (Str.ofString "::.local") y1, .str (Str.ofString ":\n.local") y2, .str (Str.ofString "\n\n:.local") y3] n2) :: (a4, o4) :: (a3, o3) :: bs)) (SP : PState RW w bs P kvs) (tb : Tab bs) (hg : AllBare s.gens)
    (next : ∀ (bs' : Led) (m' : Str → Option Value) (h' : Heap) (g' : Array GenState) (tkk : Nat), Fr h₀ L h' m' → News h₀ L h' bs' → AllBare g' → Tab bs' → Q .next { heap := h', gens := g', drawn := s.drawn, toks := tkk, os := s.os }) :
    wpAny (model PySem.Challenge.rw_xl0011_01.row.prog w) (lwA w dp un gd L fa cd (lwCl a1 a2 a3 a4) outer) (execs [(lawX w).1.s14, (lawX w).1.s15, (lawX w).1.s16, (lawX w).1.s17, (lawX w).1.s18, (lawX w).1.s19, (lawX w).1.s20, (lawX w).1.s21, (lawX w).1.s22, (lawX w).1.s23] (lwEnv w L fa cd (lwCl a1 a2 a3 a4))) Q (fun _ _ => False) s := by
  have htl : (enc t).length ≤ 7 := by rw [enc_len]; exact hts
  have tql := tq_len (e.fmod 3).toNat
  obtain ⟨cb, tb', eb⟩ := enc_pos' t
  have gc1 := gd_lt lc1
  have gc2 := gd_lt lc2
  have gc3 := gd_lt lc3
  have pB := plain_gds gdt
  have pT : Plain (tq (e.fmod 3).toNat ++ 46 :: loc) := plain_app (plain_tq _) (plain_dot (plain_gds gds_loc))
  have eho : (c1 :: 46 :: (c2 :: 46 :: (c3 :: 46 :: enc t))) ++ (tq (e.fmod 3).toNat ++ 46 :: loc) = c1 :: 46 :: ((c2 :: 46 :: (c3 :: 46 :: enc t)) ++ (tq (e.fmod 3).toNat ++ 46 :: loc)) := rfl
  have eho6 : (c1 :: 46 :: (c2 :: 46 :: (c3 :: 46 :: enc t))) ++ (tq (e.fmod 3).toNat ++ 46 :: loc) = c1 :: 46 :: (c2 :: 46 :: (c3 :: 46 :: ((enc t ++ tq (e.fmod 3).toNat) ++ 46 :: loc))) := by simp
  have pho : Plain ((c1 :: 46 :: (c2 :: 46 :: (c3 :: 46 :: enc t))) ++ (tq (e.fmod 3).toNat ++ 46 :: loc)) :=
    plain_app (plain_cons gc1.dig (plain_dot (plain_cons gc2.dig (plain_dot (plain_cons gc3.dig (plain_dot pB)))))) pT
  have zho : ((c1 :: 46 :: (c2 :: 46 :: (c3 :: 46 :: enc t))) ++ (tq (e.fmod 3).toNat ++ 46 :: loc)).length ≤ 100 := by
    simp only [loc, List.length_append, List.length_cons, List.length_nil]
    omega
  have e_host := sk_mem H (x := "host") (by k_mem)
  have e_host6 := e_host
  rw [eho6] at e_host6
  have e_name := sk_mem H (x := "name") (by k_mem)
  have hl8 : ∀ (c : Nat) (b : List Nat), c :: (b ++ [108]) = (c :: b) ++ [108] := fun _ _ => rfl
  refine execs_app (l1 := [(lawX w).1.s14]) (l2 := [(lawX w).1.s15, (lawX w).1.s16, (lawX w).1.s17, (lawX w).1.s18, (lawX w).1.s19, (lawX w).1.s20, (lawX w).1.s21, (lawX w).1.s22, (lawX w).1.s23]) ?_
  refine seg5 (P := P) (n2 := 0) (c := c3) (bo := enc t) (ho := (c1 :: 46 :: (c2 :: 46 :: (c3 :: 46 :: enc t))) ++ (tq (e.fmod 3).toNat ++ 46 :: loc)) B X T (by omega) (by omega) (by omega) zho ?_ ?_ ?_ ?_ ?_
    (fr_setL (l := [("host", .str (S ((c1 :: 46 :: (c2 :: 46 :: (c3 :: 46 :: enc t))) ++ (tq (e.fmod 3).toNat ++ 46 :: loc))) z5), ("names", .ref Nm), ("body", .str (S (enc t)) z1)]) F (has_cons e_host (has_cons (sk_mem H (by k_mem)) (has_cons (sk_mem H (by k_mem)) has_nil)))) N hg ?_
  · intro tk
    exact reach_dig (c := c1) (rest := (c2 :: 46 :: (c3 :: 46 :: enc t)) ++ (tq (e.fmod 3).toNat ++ 46 :: loc)) (d := 55) (ds := []) gc1.dot pho (by decide) (by decide) (by rw [← eho]; omega) tk
  · intro tk
    exact reach_dig (c := c1) (rest := (c2 :: 46 :: (c3 :: 46 :: enc t)) ++ (tq (e.fmod 3).toNat ++ 46 :: loc)) (d := 55) (ds := [48]) gc1.dot pho (by decide) (by decide) (by rw [← eho]; omega) tk
  · intro tk
    exact reach_end (c := c1) (rest := (c2 :: 46 :: (c3 :: 46 :: enc t)) ++ (tq (e.fmod 3).toNat ++ 46 :: loc)) gc1.dot pho (by rw [← eho]; omega) tk
  · intro tk
    exact reach_same1 (c := c3) (d := 108) (m := 46 :: (enc t ++ [108, 111, 99, 97])) (b := enc t ++ loc) (by simp [loc]) gc3.dot (by decide) (plain_cons gc3.dig (plain_dot (plain_app pB (plain_gds gds_loc))))
      (fun h => by rcases List.mem_append.mp h with h | h; exact nodot_gds gdt h; exact nodot_gds gds_loc h) (fun h => by
        have := congrArg List.length h
        rw [eb] at this
        simp [loc] at this) (by simp only [loc, List.length_append, List.length_cons, List.length_nil]; omega) tk
  · intro tk
    exact reach_same1 (c := c3) (d := 76) (m := [46, 76, 79, 67, 65]) (b := [76, 79, 67, 65, 76]) rfl gc3.dot (by decide) (plain_cons gc3.dig (by decide)) (by decide) (by decide) (by decide) tk
  intro h5 g5 tk5 m5 q5 F5 N5 G5
  have H5 : Has m5 _ := H.keep lwNames (xs := ["whole"]) (fun y hy => (q5 y (by simpa using hy)).trans (congrFun (setL_eq (m := m) (l := [("host", .str (S ((c1 :: 46 :: (c2 :: 46 :: (c3 :: 46 :: enc t))) ++ (tq (e.fmod 3).toNat ++ 46 :: loc))) z5), ("names", .ref Nm), ("body", .str (S (enc t)) z1)]) (has_cons e_host (has_cons (sk_mem H (by k_mem)) (has_cons (sk_mem H (by k_mem)) has_nil)))) y)) rfl (by decide)
  have e_host5 := sk_mem H5 (x := "host") (by k_mem)
  rw [eho6] at e_host5
  have gBq : 46 ∉ enc t ++ tq (e.fmod 3).toNat := fun h => by rcases List.mem_append.mp h with h | h; exact nodot_gds gdt h; exact nodot_tq _ h
  have pBq : Plain ((enc t ++ tq (e.fmod 3).toNat) ++ 46 :: loc) := plain_app (plain_app pB (plain_tq _)) (plain_dot (plain_gds gds_loc))
  have zBq : ((enc t ++ tq (e.fmod 3).toNat) ++ 46 :: loc).length ≤ 20 := by simp only [loc, List.length_append, List.length_cons, List.length_nil]; omega
  have eBq : (enc t ++ tq (e.fmod 3).toNat) ++ 46 :: loc = cb :: ((tb' ++ tq (e.fmod 3).toNat ++ [46, 108, 111, 99, 97]) ++ [108]) := by rw [eb]; simp [loc]
  have gcb : Gd cb := gdt cb (by rw [eb]; exact .head _)
  refine execs_app (l1 := [(lawX w).1.s15, (lawX w).1.s16]) (l2 := [(lawX w).1.s17, (lawX w).1.s18, (lawX w).1.s19, (lawX w).1.s20, (lawX w).1.s21, (lawX w).1.s22, (lawX w).1.s23]) ?_
  refine seg6 (P := P) (s := ⟨h5, g5, s.drawn, tk5, s.os⟩) (c1 := c1) (c2 := c2) (c3 := c3) (bq := enc t ++ tq (e.fmod 3).toNat) B X T (by omega) (by omega) (by simp only [List.length_append]; omega) ?_ ?_ ?_ ?_
    (fr_setL (l := [("host", .str (S (c1 :: 46 :: (c2 :: 46 :: (c3 :: 46 :: ((enc t ++ tq (e.fmod 3).toNat) ++ 46 :: loc))))) z5)]) F5 (has_cons e_host5 has_nil)) N5 G5 ?_
  · intro tk
    exact reach_cut (a := [c1]) (b := c2 :: 46 :: (c3 :: 46 :: ((enc t ++ tq (e.fmod 3).toNat) ++ 46 :: loc))) (c := c1) (d := 108) (m := 46 :: c2 :: 46 :: c3 :: 46 :: ((enc t ++ tq (e.fmod 3).toNat) ++ [46, 108, 111, 99, 97])) (by simp [loc]) (by simpa using gc1.dot.symm) gc1.dot (by decide)
      (plain_cons gc1.dig (plain_dot (plain_cons gc2.dig (plain_dot (plain_cons gc3.dig (plain_dot pBq)))))) (.inl (by simp)) (by simp only [List.length_append, List.length_cons, List.length_nil] at zBq ⊢; omega) tk
  · intro tk
    exact reach_cut (a := [c2]) (b := c3 :: 46 :: ((enc t ++ tq (e.fmod 3).toNat) ++ 46 :: loc)) (c := c2) (d := 108) (m := 46 :: c3 :: 46 :: ((enc t ++ tq (e.fmod 3).toNat) ++ [46, 108, 111, 99, 97])) (by simp [loc]) (by simpa using gc2.dot.symm) gc2.dot (by decide)
      (plain_cons gc2.dig (plain_dot (plain_cons gc3.dig (plain_dot pBq)))) (.inl (by simp)) (by simp only [List.length_append, List.length_cons, List.length_nil] at zBq ⊢; omega) tk
  · intro tk
    exact reach_cut (a := [c3]) (b := (enc t ++ tq (e.fmod 3).toNat) ++ 46 :: loc) (c := c3) (d := 108) (m := 46 :: ((enc t ++ tq (e.fmod 3).toNat) ++ [46, 108, 111, 99, 97])) (by simp [loc]) (by simpa using gc3.dot.symm) gc3.dot (by decide)
      (plain_cons gc3.dig (plain_dot pBq)) (.inl (by simp)) (by simp only [List.length_append, List.length_cons, List.length_nil] at zBq ⊢; omega) tk
  · intro tk
    exact reach_cut (a := enc t ++ tq (e.fmod 3).toNat) (b := loc) (c := cb) (d := 108) (m := tb' ++ tq (e.fmod 3).toNat ++ [46, 108, 111, 99, 97]) eBq gBq gcb.dot (by decide) pBq (.inr rfl) (by omega) tk
  intro Rd w1 w2 w3 w4 z6 nRd m6 h6 g6 tk6 e_read6 e_host6' q6 F6 N6 G6
  have H5' : Has m5 [("body", .str (S (enc t)) z1), ("names", .ref Nm), ("drop", .bool d), ("tails", .ref Tl), ("first", .int (e.fmod 3) z2), ("things", .str (S [g1, g2, g3]) z3), ("name", .str (S (c1 :: 46 :: c2 :: 46 :: c3 :: 46 :: enc t)) z4), ("parts", .ref P)] := fun p hp => H5 p (by
    revert p
    repeat' first | refine List.forall_mem_cons.mpr ⟨by k_mem, ?_⟩
    exact List.forall_mem_nil _)
  have H6 := H5'.keep ["body", "names", "drop", "tails", "first", "things", "name", "parts"] (m' := m6) (xs := ["host", "rest", "turn", "read"]) (fun y hy => by
    simp only [List.mem_cons, List.not_mem_nil, or_false, not_or] at hy
    exact q6 y hy.1 hy.2.1 hy.2.2.1 hy.2.2.2) rfl (by decide)
  have cp : ∀ {l : List Nat}, Gds l → Cps l := fun h c hc => by have := (h c hc).lo; omega
  have cp1 : ∀ {c : Nat}, Gd c → Cps [c] := fun h c hc => by rw [List.mem_singleton.mp hc]; have := h.lo; omega
  have pTq : Cps (tq (e.fmod 3).toNat) := fun c hc => by rcases tq_no _ c hc with rfl | rfl <;> decide
  refine execs_app (l1 := [(lawX w).1.s17]) (l2 := [(lawX w).1.s18, (lawX w).1.s19, (lawX w).1.s20, (lawX w).1.s21, (lawX w).1.s22, (lawX w).1.s23]) ?_
  refine seg7 (P := P) (s := ⟨h6, g6, s.drawn, tk6, s.os⟩) (c1 := c1) (c2 := c2) (c3 := c3) (bo := enc t) (e := e) B X T (by omega) (by omega) (by omega) tql (cp1 gc1) (cp1 gc2) (cp1 gc3) (fun c hc => by rcases List.mem_append.mp hc with hc | hc; exact cp gdt c hc; exact pTq c hc)
    (fun tk => reachL_no (nodot_gds gds_loc) (by rw [sizeLine_eq]; decide) tk)
    (fr_setL (l := [("read", .ref Rd), ("names", .ref Nm), ("body", .str (S (enc t)) z1), ("tails", .ref Tl), ("first", .int (e.fmod 3) z2), ("host", .str (S loc) z6)]) F6 (has_cons e_read6 (has_cons (sk_mem H6 (by k_mem)) (has_cons (sk_mem H6 (by k_mem)) (has_cons (sk_mem H6 (by k_mem)) (has_cons (sk_mem H6 (by k_mem)) (has_cons e_host6' has_nil))))))) N6 G6 ?_
  intro m7 h7 g7 tk7 q7 F7 N7 G7
  have q7' : ∀ y, m7 y = m6 y := fun y => (q7 y).trans (congrFun (setL_eq (m := m6) (l := [("read", .ref Rd), ("names", .ref Nm), ("body", .str (S (enc t)) z1), ("tails", .ref Tl), ("first", .int (e.fmod 3) z2), ("host", .str (S loc) z6)]) (has_cons e_read6 (has_cons (sk_mem H6 (by k_mem)) (has_cons (sk_mem H6 (by k_mem)) (has_cons (sk_mem H6 (by k_mem)) (has_cons (sk_mem H6 (by k_mem)) (has_cons e_host6' has_nil))))))) y)
  obtain rfl : m7 = m6 := funext q7'
  refine execs_app (l1 := [(lawX w).1.s18, (lawX w).1.s19]) (l2 := [(lawX w).1.s20, (lawX w).1.s21, (lawX w).1.s22, (lawX w).1.s23]) ?_
  refine seg8 (P := P) (s := ⟨h7, g7, s.drawn, tk7, s.os⟩) (c1 := c1) (c2 := c2) (c3 := c3) (bo := enc t) (e := e) B X T (by omega) (by omega) (by omega) tq_len ?_ ?_ ?_ ?_
    (fr_setL (l := [("name", .str (S (c1 :: 46 :: c2 :: 46 :: c3 :: 46 :: enc t)) z4), ("tails", .ref Tl), ("first", .int (e.fmod 3) z2)]) F7 (has_cons (sk_mem H6 (by k_mem)) (has_cons (sk_mem H6 (by k_mem)) (has_cons (sk_mem H6 (by k_mem)) has_nil)))) N7 G7 ?_
  · intro k tk
    exact strip_cut (p := [c1, 46, c2, 46, c3, 46]) (B := enc t) k gdt (.inr ⟨[c1, 46, c2, 46, c3], rfl⟩) (by simp [gc1.col.symm, gc2.col.symm, gc3.col.symm]) (by simp [gc1.nl.symm, gc2.nl.symm, gc3.nl.symm]) (by simp only [List.length_append, List.length_cons, List.length_nil]; omega) tk
  · intro k tk
    exact strip_cut (p := [c1, 46, c2, 46]) (B := [c3]) k (fun c hc => by rw [List.mem_singleton.mp hc]; exact gc3) (.inr ⟨[c1, 46, c2], rfl⟩) (by simp [gc1.col.symm, gc2.col.symm]) (by simp [gc1.nl.symm, gc2.nl.symm]) (by simp) tk
  · intro k tk
    exact strip_cut (p := [c1, 46]) (B := [c2]) k (fun c hc => by rw [List.mem_singleton.mp hc]; exact gc2) (.inr ⟨[c1], rfl⟩) (by simp [gc1.col.symm]) (by simp [gc1.nl.symm]) (by simp) tk
  · intro k tk
    exact strip_cut (p := []) (B := [c1]) k (fun c hc => by rw [List.mem_singleton.mp hc]; exact gc1) (.inl rfl) (by simp) (by simp) (by simp) tk
  intro Td v1 v2 v3 v4 nTd m8 h8 g8 tk8 e_told8 q8 F8 N8 G8
  have S8 : Has m7 [("tails", .ref Tl), ("first", .int (e.fmod 3) z2)] := has_cons (sk_mem H6 (by k_mem)) (has_cons (sk_mem H6 (by k_mem)) has_nil)
  have q8' : ∀ y, y ∉ (["told", "turn", "name"] : List Str) → m8 y = m7 y := fun y hy => by
    simp only [List.mem_cons, List.not_mem_nil, or_false, not_or] at hy
    exact (q8 y hy.1 hy.2.1 hy.2.2).trans (congrFun (setL_eq S8) y)
  have H6' : Has m7 [("body", .str (S (enc t)) z1), ("names", .ref Nm), ("drop", .bool d), ("things", .str (S [g1, g2, g3]) z3), ("parts", .ref P), ("read", .ref Rd)] := has_cons (sk_mem H6 (by k_mem)) (has_cons (sk_mem H6 (by k_mem)) (has_cons (sk_mem H6 (by k_mem)) (has_cons (sk_mem H6 (by k_mem)) (has_cons (sk_mem H6 (by k_mem)) (has_cons e_read6 has_nil)))))
  have H8 := H6'.keep ["body", "names", "drop", "things", "parts", "read"] q8' rfl (by decide)
  refine execs_app (l1 := [(lawX w).1.s20]) (l2 := [(lawX w).1.s21, (lawX w).1.s22, (lawX w).1.s23]) ?_
  refine seg9 (s := ⟨h8, g8, s.drawn, tk8, s.os⟩) (c1 := c1) (c2 := c2) (c3 := c3) (bo := enc t) B X T (by omega) (by omega) (cp1 gc1) (cp1 gc2) (cp1 gc3) (cp gdt)
    (fr_setL (l := [("told", .ref Td), ("names", .ref Nm), ("body", .str (S (enc t)) z1)]) F8 (has_cons e_told8 (has_cons (sk_mem H8 (by k_mem)) (has_cons (sk_mem H8 (by k_mem)) has_nil)))) N8 G8 ?_
  intro m9 h9 g9 tk9 q9 F9 N9 G9
  have q9' : ∀ y, m9 y = m8 y := fun y => (q9 y).trans (congrFun (setL_eq (m := m8) (l := [("told", .ref Td), ("names", .ref Nm), ("body", .str (S (enc t)) z1)]) (has_cons e_told8 (has_cons (sk_mem H8 (by k_mem)) (has_cons (sk_mem H8 (by k_mem)) has_nil)))) y)
  obtain rfl : m9 = m8 := funext q9'
  have N9' : News h₀ L h9 ([(Td, lo [.str (S (enc t)) v1, .str (S [c3]) v2, .str (S [c2]) v3, .str (S [c1]) v4] nTd), (Rd, lo [.str (S [c1]) w1, .str (S [c2]) w2, .str (S [c3]) w3, .str (S (enc t ++ tq (e.fmod 3).toNat)) w4] nRd), (a4, o4), (a3, o3)] ++ bs) := news_sub N9 fun q hq => by
    revert q
    repeat' first | refine List.forall_mem_cons.mpr ⟨by k_mem, ?_⟩
    intro q hq
    exact .tail _ (.tail _ (.tail _ (.tail _ (.tail _ (.tail _ hq)))))
  obtain ⟨bs9, N9c, SP9, tb9, of9⟩ := clean N9' SP tb (List.forall_mem_cons.mpr ⟨.cl rfl (by decide), List.forall_mem_cons.mpr ⟨.cl rfl (by decide), List.forall_mem_cons.mpr ⟨.cell d4, List.forall_mem_cons.mpr ⟨.cell d3, List.forall_mem_nil _⟩⟩⟩⟩)
  refine execs_app (l1 := [(lawX w).1.s21, (lawX w).1.s22]) (l2 := [(lawX w).1.s23]) ?_
  refine seg10 (y4 := z1) (s := ⟨h9, g9, s.drawn, tk9, s.os⟩) (c1 := c1) (c2 := c2) (c3 := c3) (g1 := g1) (g2 := g2) (g3 := g3) (bo := enc t) B X T (by omega) (by omega) ne1 ne2 ne3 d3 (of9 _ (.tail _ (.tail _ (.tail _ (.head _))))) l34 (fun c hc => (gdt c hc).lo) (by omega)
    (fr_setL (l := [("told", .ref Td), ("read", .ref Rd), ("things", .str (S [g1, g2, g3]) z3)]) F9 (has_cons e_told8 (has_cons (sk_mem H8 (by k_mem)) (has_cons (sk_mem H8 (by k_mem)) has_nil)))) N9c G9 ?_
  intro zd m10 h10 g10 tk10 e_due q10 F10 N10 G10
  have q10' : ∀ y, y ∉ (["due"] : List Str) → m10 y = m9 y := fun y hy => by
    simp only [List.mem_cons, List.not_mem_nil, or_false] at hy
    exact (q10 y hy).trans (congrFun (setL_eq (m := m9) (l := [("told", .ref Td), ("read", .ref Rd), ("things", .str (S [g1, g2, g3]) z3)]) (has_cons e_told8 (has_cons (sk_mem H8 (by k_mem)) (has_cons (sk_mem H8 (by k_mem)) has_nil)))) y)
  have H9 : Has m9 [("drop", .bool d), ("things", .str (S [g1, g2, g3]) z3), ("parts", .ref P), ("told", .ref Td)] := has_cons (sk_mem H8 (by k_mem)) (has_cons (sk_mem H8 (by k_mem)) (has_cons (sk_mem H8 (by k_mem)) (has_cons e_told8 has_nil)))
  have H10 := H9.keep ["drop", "things", "parts", "told"] q10' rfl (by decide)
  have hdue : S ((enc t).map (tsub c1 c2 c3 g1 g2 g3)) = txt (subst (tsub c1 c2 c3 g1 g2 g3) t) := by
    have h96 : tsub c1 c2 c3 g1 g2 g3 96 = 96 := by
      have k1 := lc1.ok.1
      have k2 := lc2.ok.1
      have k3 := lc3.ok.1
      unfold tsub
      rw [if_neg (Ne.symm k1), if_neg (Ne.symm k2), if_neg (Ne.symm k3)]
    rw [S_txt, enc_subst h96]
  rw [hdue] at e_due
  have M10 : MFr m10 Td P d g1 g2 g3 z3 zd (subst (tsub c1 c2 c3 g1 g2 g3) t) := {
    told := sk_mem H10 (by k_mem)
    drop := sk_mem H10 (by k_mem)
    parts := sk_mem H10 (by k_mem)
    things := sk_mem H10 (by k_mem)
    due := e_due }
  have okg : ∀ g ∈ [g1, g2, g3], wf (.leaf g) := fun g hg => by
    have := gg g hg
    exact ⟨by omega, by omega⟩
  refine seg12 (s := ⟨h10, g10, s.drawn, tk10, s.os⟩) (c1 := c1) (c2 := c2) (c3 := c3) (g1 := g1) (g2 := g2) (g3 := g3) (t := t) (x1 := v1) (x2 := v2) (x3 := v3) (x4 := v4) (n := nTd) B X T hd hu d4 lc1.ok lc2.ok lc3.ok (okg _ (.head _)) (okg _ (.tail _ (.head _))) (okg _ (.tail _ (.tail _ (.head _)))) (fun c hc => (gg c hc).2) wft knt hts (by omega) law M10 F10 (of9 _ (.tail _ (.tail _ (.head _)))) (news_sub N10 fun q hq => ?_) SP9 tb9 G10 ?_
  · rcases List.mem_cons.mp hq with rfl | hq
    · exact .tail _ (.head _)
    · rcases List.mem_cons.mp hq with rfl | hq
      · exact .head _
      · exact .tail _ (.tail _ hq)
  · exact next
end
section
open PySem PySem.W PyProof.Rows
open PySem.Calls PySem.Spec
set_option maxRecDepth 100000
set_option maxHeartbeats 8000000
theorem law_end {w : World} {dp un : Nat} {gd : Option (List Code)} {outer : List Env} {A₀ : Around} {base h₀ : Heap} {L fa a1 a2 a3 a4 : Addr} {cd : Value} {mean : ExcName → Option Value} {mg mb : Str → Option Value} {bs : Led} {Q : Flow → Shared → Prop}
    (B : Below A₀ base outer h₀) (X : (hd.heap_39 w.params).In h₀) (T : Top topProg looseT mean mg mb h₀) {s : Shared} {m : Str → Option Value} (F : Fr h₀ L s.heap m) (N : News h₀ L s.heap bs) (h : Q (.ret (.bool true)) s) :
    wpAny (model PySem.Challenge.rw_xl0011_01.row.prog w) (lwA w dp un gd L fa cd (lwCl a1 a2 a3 a4) outer) (execs [(lawX w).1.s24] (lwEnv w L fa cd (lwCl a1 a2 a3 a4))) Q (fun _ _ => False) s := by
  unfold lawX lwA lwEnv lawF
  dsimp only
  revert X
  k_fill
  w_top off
  intro X
  k_steps
  all_goals exact h
theorem law_walk2 {w : World} {dp un : Nat} {gd : Option (List Code)} {outer : List Env} {A₀ : Around} {base h₀ : Heap} {L fa a1 a2 a3 a4 R D P : Addr} {cd : Value} {mean : ExcName → Option Value} {mg mb : Str → Option Value} {bs : Led} {kvs : List (Str × Value)} {Q : Flow → Shared → Prop}
    (B : Below A₀ base outer h₀) (X : (hd.heap_39 w.params).In h₀) (T : Top topProg looseT mean mg mb h₀) (hd : dp + 220 < recursionLimit) (hu : un + 1760 < cLine)
    {s : Shared} {m : Str → Option Value} {o1 o2 o3 o4 : Obj} {n : Nat} {t : Tm} {tk t0 t1 t2 : Tok} {c0 c1 c2 : Int} (n3 : @LT.lt Nat _ a3 a4)
    (wft : wf t) (knt : known kvs t) (hts : t.size ≤ 7) (gdt : Gds (enc t)) (hkv : kvs.length ≤ 100)
    (law : ∀ (k i : Nat), k < 6 → i < 3 → ∀ d b : Bool, lv (oks b) (prg k d b t) = true ∧ ∃ K, norm 8 (.app (.app (.app (prg k d b t) (.leaf (hA i))) (.leaf (hB i))) (.leaf (hC i))) = some (subst (tau k i) t, K) ∧ K ≤ 200)
    (e2 : m "row" = some (.ref R)) (e3 : m "parts" = some (.ref P)) (d2 : o2.data = .cell (some (.ref D))) (d3 : o3.data = .cell none) (d4 : o4.data = .cell none)
    (F : Fr h₀ L s.heap m) (N : News h₀ L s.heap ((R, lo [.str (txt t) tk] n) :: (D, LCg.lst [.int c0 t0, .int c1 t1, .int c2 t2]) :: (a4, o4) :: (a3, o3) :: (a2, o2) :: (a1, o1) :: bs)) (SP : PState RW w bs P kvs) (tb : Tab bs) (hg : AllBare s.gens)
    (next : ∀ (bs' : Led) (m' : Str → Option Value) (h' : Heap) (g' : Array GenState) (tkk : Nat), Fr h₀ L h' m' → News h₀ L h' bs' → AllBare g' → Tab bs' → Q .next { heap := h', gens := g', drawn := s.drawn, toks := tkk, os := s.os }) :
    wpAny (model PySem.Challenge.rw_xl0011_01.row.prog w) (lwA w dp un gd L fa cd (lwCl a1 a2 a3 a4) outer) (execs [(lawX w).1.s6, (lawX w).1.s7, (lawX w).1.s8, (lawX w).1.s9, (lawX w).1.s10, (lawX w).1.s11, (lawX w).1.s12, (lawX w).1.s13, (lawX w).1.s14, (lawX w).1.s15, (lawX w).1.s16, (lawX w).1.s17, (lawX w).1.s18, (lawX w).1.s19, (lawX w).1.s20, (lawX w).1.s21, (lawX w).1.s22, (lawX w).1.s23] (lwEnv w L fa cd (lwCl a1 a2 a3 a4))) Q (fun _ _ => False) s := by
  have htl : (enc t).length ≤ 7 := by rw [enc_len]; exact hts
  have hk : (c0.fmod 6).toNat < 6 := by
    have h0 := fm_lo c0 (b := 6) (by decide)
    have h1 := fm_hi c0 (b := 6) (by decide)
    omega
  have hr : ((c0.fdiv 36).fmod 3).toNat < 3 := by
    have h0 := fm_lo (c0.fdiv 36) (b := 3) (by decide)
    have h1 := fm_hi (c0.fdiv 36) (b := 3) (by decide)
    omega
  have tql := tq_len ((c0.fdiv 12).fmod 3).toNat
  refine execs_app (l1 := [(lawX w).1.s6, (lawX w).1.s7, (lawX w).1.s8, (lawX w).1.s9, (lawX w).1.s10, (lawX w).1.s11, (lawX w).1.s12, (lawX w).1.s13]) (l2 := [(lawX w).1.s14, (lawX w).1.s15, (lawX w).1.s16, (lawX w).1.s17, (lawX w).1.s18, (lawX w).1.s19, (lawX w).1.s20, (lawX w).1.s21, (lawX w).1.s22, (lawX w).1.s23]) ?_
  refine seg4 B X T (by omega) (by omega) (by omega) ?_ (fr_setL F (has_cons e2 (has_cons e3 has_nil))) d2 N hg ?_
  · rw [sizeLine_eq]
    simp only [nameL, tl, loc, List.length_append, List.length_cons, List.length_nil]
    omega
  intro Nm Tl x1 x2 x3 y1 y2 y3 z1 z2 z3 z4 z5 n1 n2 m4 h4 tk4 e_body e_names e_drop e_tails e_first e_things e_name e_host e_parts F4 N4
  have law := law (c0.fmod 6).toNat ((c0.fdiv 36).fmod 3).toNat hk hr ((c0.fdiv 6).fmod 2 == 1)
  refine law_walk3 (z1 := z1) (z2 := z2) (z3 := z3) (z4 := z4) (z5 := z5) (s := ⟨h4, s.gens, s.drawn, tk4, s.os⟩) (c1 := nA (c0.fmod 6).toNat) (c2 := nB (c0.fmod 6).toNat) (c3 := nC (c0.fmod 6).toNat) (g1 := hA ((c0.fdiv 36).fmod 3).toNat) (g2 := hB ((c0.fdiv 36).fmod 3).toNat) (g3 := hC ((c0.fdiv 36).fmod 3).toNat) (e := c0.fdiv 12) (d := (c0.fdiv 6).fmod 2 == 1)
    B X T hd hu n3 wft knt hts gdt hkv (lt_nm _).1 (lt_nm _).2.1 (lt_nm _).2.2 (ne_nm hk).1 (ne_nm hk).2.1 (ne_nm hk).2.2 (gd_th _) law ?_ d3 d4 F4 N4 SP tb hg next
  exact has_cons e_body (has_cons e_names (has_cons e_drop (has_cons e_tails (has_cons e_first (has_cons e_things (has_cons e_name (has_cons e_host (has_cons e_parts has_nil))))))))
theorem law_walk {w : World} {dp un : Nat} {gd : Option (List Code)} {outer : List Env} {A₀ : Around} {base h₀ : Heap} {L fa l a1 a2 a3 a4 : Addr} {cd : Value} {mean : ExcName → Option Value} {mg mb : Str → Option Value} {Q : Flow → Shared → Prop}
    (B : Below A₀ base outer h₀) (X : (hd.heap_39 w.params).In h₀) (T : Top topProg looseT mean mg mb h₀) (hd : dp + 220 < recursionLimit) (hu : un + 1760 < cLine)
    {s : Shared} {u : Str → Option Value} {o1 o2 o3 o4 : Obj} {vs : List Value} {ns : List Int} (n0 : @LT.lt Nat _ 80 a1) (n1 : @LT.lt Nat _ a1 a2) (n2 : @LT.lt Nat _ a2 a3) (n3 : @LT.lt Nat _ a3 a4) (hl : h₀.IsList l vs.toArray) (hi : IntsAre vs ns) (hz : ns.length ≤ 63)
    (F : Fr h₀ L s.heap u) (N : News h₀ L s.heap [(a4, o4), (a3, o3), (a2, o2), (a1, o1), (80, tabObj #[])]) (d1 : o1.data = .cell (some (.ref l))) (d2 : o2.data = .cell none) (d3 : o3.data = .cell none) (d4 : o4.data = .cell none) (hg : AllBare s.gens)
    (next : ∀ (bs' : Led) (m' : Str → Option Value) (h' : Heap) (g' : Array GenState) (tkk : Nat), Fr h₀ L h' m' → News h₀ L h' bs' → AllBare g' → Tab bs' → Q (.ret (.bool true)) { heap := h', gens := g', drawn := s.drawn, toks := tkk, os := s.os }) :
    wpAny (model PySem.Challenge.rw_xl0011_01.row.prog w) (lwA w dp un gd L fa cd (lwCl a1 a2 a3 a4) outer) (execs (lawF w).1.body (lwEnv w L fa cd (lwCl a1 a2 a3 a4))) Q (fun _ _ => False) s := by
  rw [(lawX w).2]
  refine execs_app (l1 := [(lawX w).1.s1]) (l2 := [(lawX w).1.s2, (lawX w).1.s3, (lawX w).1.s4, (lawX w).1.s5, (lawX w).1.s6, (lawX w).1.s7, (lawX w).1.s8, (lawX w).1.s9, (lawX w).1.s10, (lawX w).1.s11, (lawX w).1.s12, (lawX w).1.s13, (lawX w).1.s14, (lawX w).1.s15, (lawX w).1.s16, (lawX w).1.s17, (lawX w).1.s18, (lawX w).1.s19, (lawX w).1.s20, (lawX w).1.s21, (lawX w).1.s22, (lawX w).1.s23, (lawX w).1.s24]) ?_
  refine seg1 B X T n0 n1 n2 n3 hl hi hz F N d1 d2 hg ?_
  intro D c0 c1 c2 t0 t1 t2 o2' h1 tk1 F1 N1 d2'
  refine execs_app (l1 := [(lawX w).1.s2, (lawX w).1.s3, (lawX w).1.s4]) (l2 := [(lawX w).1.s5, (lawX w).1.s6, (lawX w).1.s7, (lawX w).1.s8, (lawX w).1.s9, (lawX w).1.s10, (lawX w).1.s11, (lawX w).1.s12, (lawX w).1.s13, (lawX w).1.s14, (lawX w).1.s15, (lawX w).1.s16, (lawX w).1.s17, (lawX w).1.s18, (lawX w).1.s19, (lawX w).1.s20, (lawX w).1.s21, (lawX w).1.s22, (lawX w).1.s23, (lawX w).1.s24]) ?_
  refine seg2 (s := ⟨h1, s.gens, s.drawn, tk1, s.os⟩) B X T n0 n1 n2 n3 F1 N1 d2' hg ?_
  intro R P bs2 vs2 nR b0 b1 b2 b3 tsh m2 h2 tk2 e1 e2 e3 F2 N2 SP2 tb2 row2 lt0 lt1 lt2 lt3
  obtain ⟨p3, ep3, lp3⟩ := fm_nat c1 (b := 3) (by decide)
  obtain ⟨p2, ep2, lp2⟩ := fm_nat (c1.fdiv 3) (b := 2) (by decide)
  have ep1 : ((c1.fdiv 3).fdiv 2).fmod 1 = ((0 : Nat) : Int) := by
    obtain ⟨p, e, l⟩ := fm_nat ((c1.fdiv 3).fdiv 2) (b := 1) (by decide)
    have e : ((c1.fdiv 3).fdiv 2).fmod 1 = (p : Int) := e
    rw [e]; omega
  refine execs_app (l1 := [(lawX w).1.s5]) (l2 := [(lawX w).1.s6, (lawX w).1.s7, (lawX w).1.s8, (lawX w).1.s9, (lawX w).1.s10, (lawX w).1.s11, (lawX w).1.s12, (lawX w).1.s13, (lawX w).1.s14, (lawX w).1.s15, (lawX w).1.s16, (lawX w).1.s17, (lawX w).1.s18, (lawX w).1.s19, (lawX w).1.s20, (lawX w).1.s21, (lawX w).1.s22, (lawX w).1.s23, (lawX w).1.s24]) ?_
  refine seg3 (s := ⟨h2, s.gens, s.drawn, tk2, s.os⟩) (es := [(D, LCg.lst [.int c0 t0, .int c1 t1, .int c2 t2]), (a4, o4), (a3, o3), (a2, o2'), (a1, o1)]) B X T (by omega) (by omega) ep3 ep2 ep1 lp3 lp2 row2 (by rw [sizeLine_eq]; decide)
    (fr_setL F2 (has_cons e1 (has_cons e2 (has_cons e3 has_nil)))) (List.forall_mem_cons.mpr ⟨.cl rfl (by decide), List.forall_mem_cons.mpr ⟨.cell d4, List.forall_mem_cons.mpr ⟨.cell d3, List.forall_mem_cons.mpr ⟨.cell d2', List.forall_mem_cons.mpr ⟨.cell d1, List.forall_mem_nil _⟩⟩⟩⟩⟩) N2 SP2 tb2 hg ?_
  intro R3 nR3 vs3 bs3 kvs3 m3 h3 g3 tk3 q2 q3 F3 N3 G3 SP3 tb3 row3 le3
  obtain ⟨j, hj, ej⟩ := fuse_shp (a := .leaf b0) (b := .leaf b1) (c := .leaf b2) (d := .leaf b3) lp3 lp2
  rw [ej] at row3
  have gdt := gds_shp lt0 lt1 lt2 lt3 j
  have law := fun (k i : Nat) (hk : k < 6) (hi : i < 3) (d b : Bool) => plain_law (j := j) d b hk hi hj lt0 lt1 lt2 lt3
  generalize shp j (.leaf b0) (.leaf b1) (.leaf b2) (.leaf b3) = t at row3 gdt law
  obtain ⟨v, rfl, ⟨tk, rfl⟩, wft, knt⟩ := all2_one row3.all
  have hts : t.size ≤ 7 := by
    have := row3.sz
    simp only [sizes, List.length_cons, List.length_nil] at this
    omega
  have htl : (enc t).length ≤ 7 := by rw [enc_len]; exact hts
  refine execs_app (l1 := [(lawX w).1.s6, (lawX w).1.s7, (lawX w).1.s8, (lawX w).1.s9, (lawX w).1.s10, (lawX w).1.s11, (lawX w).1.s12, (lawX w).1.s13, (lawX w).1.s14, (lawX w).1.s15, (lawX w).1.s16, (lawX w).1.s17, (lawX w).1.s18, (lawX w).1.s19, (lawX w).1.s20, (lawX w).1.s21, (lawX w).1.s22, (lawX w).1.s23]) (l2 := [(lawX w).1.s24]) ?_
  refine law_walk2 (s := ⟨h3, g3, s.drawn, tk3, s.os⟩) (kvs := kvs3) B X T hd hu n3 wft knt hts gdt (by simp only [List.length_nil] at le3; omega) law q2 q3 d2' d3 d4 F3 N3 SP3 tb3 G3 ?_
  intro bs4 m4 h4 g4 tk4 F4 N4 G4 tb4
  exact law_end B X T F4 N4 (next bs4 m4 h4 g4 tk4 F4 N4 G4 tb4)
end
section
open PySem PySem.W PyProof.Rows
open PySem.Calls PySem.Spec
set_option maxRecDepth 100000
set_option maxHeartbeats 8000000
theorem old_law {h₁ h' : Heap} {L : Addr} {m : Str → Option Value} {bs : Led} (hT : TabsAt [(84, 80)] h₁) (F : Fr (ghostOf h₁ [(84, 80)]) L h' m) (N : News (ghostOf h₁ [(84, 80)]) L h' bs) (tb : Tab bs) : OldK h₁ h' := by
  obtain ⟨ps, hm, _⟩ := tb
  have h80 : h'.get? 80 = some (tabObj ps) := (N _ hm).1
  have t1 := hT (84, 80) (.head _)
  have other : ∀ b o, b ≠ 80 → h₁.get? b = some o → h'.get? b = some o := fun b o hb e =>
    F.keep b o (ghost_ne e fun hm => hb (List.mem_singleton.mp hm))
  refine ⟨fun b o e => ?_, fun b o e => ?_⟩
  · by_cases hb : b = 80
    · subst hb
      have e2 : h₁.get? 80 = some (tabObj #[]) := t1.2
      rw [e] at e2
      cases e2
      refine .inr (.inl ⟨(t1.1.tab t1.2).isCodeTable, rfl, #[], ps, rfl, ?_⟩)
      rw [Array.empty_append]
      exact h80
    · exact .inl (other b o hb e)
  · by_cases hb : b = 80
    · subst hb; exact ⟨_, h80⟩
    · exact ⟨o, other b o hb e⟩
theorem good_law {c : ClaimW} {cl : Str → Option Addr} {mean : ExcName → Option Value} {args : List WData} {s₁ : Shared} {L : Addr} {h' : Heap} {g' : Array GenState} {tk : Nat} {m' : Str → Option Value} {bs : Led} (hT : TabsAt [(84, 80)] s₁.heap) (F : Fr (ghostOf s₁.heap [(84, 80)]) L h' m') (N : News (ghostOf s₁.heap [(84, 80)]) L h' bs) (tb : Tab bs) (G : AllBare g')
    (hn : ∀ cls, c.raises args cls = false) (hp : c.post args (.bool true) args = true) : GoodWG c cl mean args s₁ (.ok (.ret (.bool true))) { heap := h', gens := g', drawn := s₁.drawn, toks := tk, os := s₁.os } :=
  ⟨.inl ⟨.bool true, .bool true, [], rfl, hn, .bool true, hp, fun _ => ⟨List.nodup_nil, fun _ h => nomatch h⟩⟩, old_law hT F N tb, rfl, G⟩
theorem fin : PySem.Challenge.rw_xl0011_01.Holds := by
  refine hd ?_
  k_fill
  intro w s₀ s₁ mg mb G Y fa o pm cd doc dV kV ho hd hcd hD hmg hg args vals as hpre hlay hrd hwl hlo
  have KX := km_in_of Y
  have hT8 := km_tabs_of Y
  have X := (Ground.X G).1
  have V := (Ground.X G).2
  have hT9 : TabsAt [(84, 80)] s₁.heap := List.forall_mem_cons.mpr ⟨⟨codeHd_of_K (c := 84) (P := 80) KX (by kernel_rfl), hT8 80 (List.mem_singleton.mpr rfl)⟩, nofun⟩
  refine Ground.open G ?_
  intro T B D TE TW
  try (refine guard_noD D (by decide +kernel) ?_; clear D)
  clear hmg
  wrow_args hpre hlay hrd hwl hlo
  all_goals (
    first | refine callC_kw (enter_call ?_) | refine enter_call ?_
    w_top on
    w_call any ho hd hcd hD T F
    clear hd
    kn_ghosts F T
    k_drop)

  refine wpAny_mono (law_walk (L := s₁.heap.objs.size) (a1 := s₁.heap.objs.size + 1) (a2 := s₁.heap.objs.size + 1 + 1) (a3 := s₁.heap.objs.size + 1 + 1 + 1) (a4 := s₁.heap.objs.size + 1 + 1 + 1 + 1)
    (Q := fun f s' => ∃ (bs' : Led) (m' : Str → Option Value) (h' : Heap) (g' : Array GenState) (tkk : Nat), f = .ret (.bool true) ∧ s' = { heap := h', gens := g', drawn := s₁.drawn, toks := tkk, os := s₁.os } ∧ Fr (ghostOf s₁.heap [(84, 80)]) s₁.heap.objs.size h' m' ∧ News (ghostOf s₁.heap [(84, 80)]) s₁.heap.objs.size h' bs' ∧ AllBare g' ∧ Tab bs')
    (by assumption) (by assumption) (by assumption) ?hd ?hu ?n0 ?n1 ?n2 ?n3 (by assumption) (by assumption) ?hz (by assumption) (by assumption) ?d1 ?d2 ?d3 ?d4 ?hg fun bs' m' h' g' tkk F N G T => ⟨bs', m', h', g', tkk, rfl, rfl, F, N, G, T⟩) ?fin (fun _ _ h => h.elim)
  case hd => decide
  case hu => decide
  case n0 => exact Nat.lt_succ_of_lt (by assumption)
  case n1 => exact Nat.lt_succ_self _
  case n2 => exact Nat.lt_succ_self _
  case n3 => exact Nat.lt_succ_self _
  case hz => omega
  case d1 => assumption
  case d2 => assumption
  case d3 => assumption
  case d4 => assumption
  case hg => exact AllBare.of_eq hg
  case fin =>
    rintro f s' ⟨bs', m', h', g', tkk, rfl, rfl, F, N, G, T⟩
    dsimp only
    refine good_law hT9 F N T G (raisesW_false ?hn) ?hp
    case hn => wrow_none_raised
    case hp => wrow_post
end
end Mine
theorem PySem.Challenge.cw_xl0011_01_holds : PySem.Challenge.rw_xl0011_01.Holds := by
  exact Mine.fin
