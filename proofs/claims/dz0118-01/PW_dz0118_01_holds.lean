import PyProof.Rows.All
import Wide.All
import OpenK.AllK
import Wide.FinOn
import PySem.Challenge.RW_dz0118_01
open PySem PySem.W PyProof.Rows
set_option Elab.async false
set_option maxRecDepth 100000
set_option maxHeartbeats 8000000

namespace Mine
open_top hd for PySem.Challenge.rw_dz0118_01
end Mine

namespace Mine
open PySem.SeqAt PySem.MeetsSeq
open PySem.AutoSeq1 (wpAny_loadPart')

/-! ## kinds of values, and what they decline -/
inductive Kd where
  | int | bool | str | set | fset | none | dict | list | tup
  deriving DecidableEq
def Kd.ty : Kd → String
  | .int => "int" | .bool => "bool" | .str => "str" | .set => "set" | .fset => "frozenset" | .none => "NoneType" | .dict => "dict" | .list => "list" | .tup => "tuple"
def Kd.fam : Kd → Nat
  | .int => 0 | .bool => 0 | .str => 1 | .set => 2 | .fset => 2 | .none => 3 | .dict => 4 | .list => 5 | .tup => 6
def IsRefOf (h : Heap) (T : String) (v : Value) : Prop := ∃ a o, v = .ref a ∧ h.get? a = some o ∧ o.cls = .type T ∧ ∀ p, o.data ≠ .prim p
def VK (h : Heap) : Kd → Value → Prop
  | .int, v => ∃ i t, v = .int i t
  | .bool, v => ∃ b, v = .bool b
  | .str, v => ∃ x t, v = .str x t
  | .none, v => v = .none
  | .set, v => IsRefOf h "set" v
  | .fset, v => IsRefOf h "frozenset" v
  | .dict, v => IsRefOf h "dict" v
  | .list, v => IsRefOf h "list" v
  | .tup, v => IsRefOf h "tuple" v

theorem IsRefOf.ty {s : Shared} {T : String} {v : Value} (h : IsRefOf s.heap T v) : s.TypeIs v T := by
  obtain ⟨a, o, rfl, ho, hc, _⟩ := h; exact ⟨o, ho, hc⟩
theorem VK.ty {s : Shared} {k : Kd} {v : Value} (h : VK s.heap k v) : s.TypeIs v k.ty := by
  cases k <;> (first | exact IsRefOf.ty h | (obtain ⟨i, t, rfl⟩ := h; rfl) | (obtain ⟨b, rfl⟩ := h; rfl) | (cases h; rfl))

section
variable {M : Model} {A : Around} {E : Value → Shared → Prop} {s : Shared}
theorem isInst_of {u : Value} {Tu T : String} {b : Bool} {Q : Bool → Shared → Prop}
    (hu : s.TypeIs u Tu) (hs : isSubtype (.type Tu) (.type T) = pure b) (h : Q b s) : wpAny M A (isInstance u (.type T)) Q E s := by
  unfold isInstance
  exact wpAny_bind (wpAny_typeOf hu (wpAny_of_eq hs h))
theorem asInt_ref {T : String} {u : Value} {Q : Option Int → Shared → Prop} (h : IsRefOf s.heap T u) (hq : Q none s) : wpAny M A (asInt? u) Q E s := by
  obtain ⟨a, o, rfl, ho, _, hp⟩ := h
  unfold asInt?
  refine wpAny_bind (wpAny_load ho ?_)
  split
  · rename_i i t e; exact absurd e (hp _)
  · exact wpAny_pure hq
theorem asStr_ref {T : String} {u : Value} {Q : Option Str → Shared → Prop} (h : IsRefOf s.heap T u) (hq : Q none s) : wpAny M A (asStr? u) Q E s := by
  obtain ⟨a, o, rfl, ho, _, hp⟩ := h
  unfold asStr?
  refine wpAny_bind (wpAny_load ho ?_)
  split
  · rename_i i t e; exact absurd e (hp _)
  · exact wpAny_pure hq
theorem asInt_none {k : Kd} {u : Value} {Q : Option Int → Shared → Prop} (h : VK s.heap k u) (hk : k.fam ≠ 0) (hq : Q none s) : wpAny M A (asInt? u) Q E s := by
  cases k <;> (first | exact absurd rfl hk | exact asInt_ref h hq | (obtain ⟨x, t, rfl⟩ := h; exact wpAny_bind (wpAny_pure (wpAny_pure hq))) | (cases h; exact wpAny_bind (wpAny_pure (wpAny_pure hq))))
theorem asStr_none {k : Kd} {u : Value} {Q : Option Str → Shared → Prop} (h : VK s.heap k u) (hk : k.fam ≠ 1) (hq : Q none s) : wpAny M A (asStr? u) Q E s := by
  cases k <;> (first | exact absurd rfl hk | exact asStr_ref h hq | (obtain ⟨x, t, rfl⟩ := h; exact wpAny_bind (wpAny_pure (wpAny_pure hq))) | (obtain ⟨x, rfl⟩ := h; exact wpAny_bind (wpAny_pure (wpAny_pure hq))) | (cases h; exact wpAny_bind (wpAny_pure (wpAny_pure hq))))
end

theorem sub_fam : ∀ k k' : Kd, k.fam ≠ k'.fam → isSubtype (.type k.ty) (.type k'.ty) = pure false := by
  intro k k' h
  cases k <;> cases k' <;> (first | exact absurd rfl h | (rw [isSubtype_type]; kernel_rfl))


theorem owner_fset : List.lookup (String.ofList ['t', 'e', 's', 'n', 'e', 'z', 'o', 'r', 'f'].reverse) Manifest.owners = some Manifest.sig_frozenset := by kernel_rfl

theorem slot_fset_gt : Slot "frozenset" (cmpInfo .Gt).2.1 "frozenset.__gt__" :=
  .of (owner := "frozenset") (n := "__gt__") (by rw [typeLookup_type, builtinLookup_eq_fast]; kernel_rfl) (by decide +kernel) (by decide +kernel) (by decide +kernel)
    (by first | exact .inl (by decide +kernel) | exact .inr (by decide +kernel)) (by rw [isSubtype_type]; kernel_rfl)
theorem slot_fset_gt_refl : Slot "frozenset" (cmpInfo .Lt).2.2 "frozenset.__gt__" := slot_fset_gt
theorem entry_fset_gt : entryFor table "frozenset.__gt__" = some Builtin.«frozenset.__gt__» := entryFor_of_tree (by kernel_rfl)
theorem args_fset_gt_2 (a b : Value) : argsOk "frozenset.__gt__" ⟨[a, b], []⟩ := by
  unfold argsOk; rw [signature?_of (id := "frozenset.__gt__") (n := ['_', '_', 't', 'g', '_', '_']) (o := ['t', 'e', 's', 'n', 'e', 'z', 'o', 'r', 'f']) (by kernel_rfl) owner_fset]; kernel_rfl
theorem entry_set_gt : entryFor table "set.__gt__" = some Builtin.«frozenset.__gt__» :=
  entryFor_alias (id' := "frozenset.__gt__") (by kernel_rfl) rfl (by decide +kernel) (by kernel_rfl)

theorem slot_fset_lt : Slot "frozenset" (cmpInfo .Lt).2.1 "frozenset.__lt__" :=
  .of (owner := "frozenset") (n := "__lt__") (by rw [typeLookup_type, builtinLookup_eq_fast]; kernel_rfl) (by decide +kernel) (by decide +kernel) (by decide +kernel)
    (by first | exact .inl (by decide +kernel) | exact .inr (by decide +kernel)) (by rw [isSubtype_type]; kernel_rfl)
theorem slot_fset_lt_refl : Slot "frozenset" (cmpInfo .Gt).2.2 "frozenset.__lt__" := slot_fset_lt
theorem entry_fset_lt : entryFor table "frozenset.__lt__" = some Builtin.«frozenset.__lt__» := entryFor_of_tree (by kernel_rfl)
theorem args_fset_lt_2 (a b : Value) : argsOk "frozenset.__lt__" ⟨[a, b], []⟩ := by
  unfold argsOk; rw [signature?_of (id := "frozenset.__lt__") (n := ['_', '_', 't', 'l', '_', '_']) (o := ['t', 'e', 's', 'n', 'e', 'z', 'o', 'r', 'f']) (by kernel_rfl) owner_fset]; kernel_rfl
theorem entry_set_lt : entryFor table "set.__lt__" = some Builtin.«frozenset.__lt__» :=
  entryFor_alias (id' := "frozenset.__lt__") (by kernel_rfl) rfl (by decide +kernel) (by kernel_rfl)

theorem slot_fset_eq : Slot "frozenset" (cmpInfo .Eq).2.1 "frozenset.__eq__" :=
  .of (owner := "frozenset") (n := "__eq__") (by rw [typeLookup_type, builtinLookup_eq_fast]; kernel_rfl) (by decide +kernel) (by decide +kernel) (by decide +kernel)
    (by first | exact .inl (by decide +kernel) | exact .inr (by decide +kernel)) (by rw [isSubtype_type]; kernel_rfl)
theorem slot_fset_eq_refl : Slot "frozenset" (cmpInfo .Eq).2.2 "frozenset.__eq__" := slot_fset_eq
theorem entry_fset_eq : entryFor table "frozenset.__eq__" = some Builtin.«frozenset.__eq__» := entryFor_of_tree (by kernel_rfl)
theorem args_fset_eq_2 (a b : Value) : argsOk "frozenset.__eq__" ⟨[a, b], []⟩ := by
  unfold argsOk; rw [signature?_of (id := "frozenset.__eq__") (n := ['_', '_', 'q', 'e', '_', '_']) (o := ['t', 'e', 's', 'n', 'e', 'z', 'o', 'r', 'f']) (by kernel_rfl) owner_fset]; kernel_rfl
theorem entry_set_eq : entryFor table "set.__eq__" = some Builtin.«frozenset.__eq__» :=
  entryFor_alias (id' := "frozenset.__eq__") (by kernel_rfl) rfl (by decide +kernel) (by kernel_rfl)

section
variable {prog : Program} {w : World} {A : Around} {E : Value → Shared → Prop} {s : Shared} {v u : Value} {Tu : String} {Q : Value → Shared → Prop}
theorem dec_list_gt (hty' : s.TypeIs u Tu) (hs : isSubtype (.type Tu) (.type "list") = pure false) (h : Q .notImplemented s) :
    wpAny (model prog w) A (Builtin.«list.__gt__» ⟨[v, u], []⟩) (fun fin s' => ∃ v, fin = .done (.ret v) ∧ Q v s') E s := by
  wp_walk using isInst_of hty' hs
  exact ⟨_, rfl, h⟩
theorem dec_tuple_gt (hty' : s.TypeIs u Tu) (hs : isSubtype (.type Tu) (.type "tuple") = pure false) (h : Q .notImplemented s) :
    wpAny (model prog w) A (Builtin.«tuple.__gt__» ⟨[v, u], []⟩) (fun fin s' => ∃ v, fin = .done (.ret v) ∧ Q v s') E s := by
  wp_walk using isInst_of hty' hs
  exact ⟨_, rfl, h⟩
theorem dec_fset_gt (hty' : s.TypeIs u Tu) (hs : isSubtype (.type Tu) (.type "set") = pure false) (hs' : isSubtype (.type Tu) (.type "frozenset") = pure false) (h : Q .notImplemented s) :
    wpAny (model prog w) A (Builtin.«frozenset.__gt__» ⟨[v, u], []⟩) (fun fin s' => ∃ v, fin = .done (.ret v) ∧ Q v s') E s := by
  wp_walk using isInst_of hty' hs, isInst_of hty' hs'
  exact ⟨_, rfl, h⟩
theorem dec_list_lt (hty' : s.TypeIs u Tu) (hs : isSubtype (.type Tu) (.type "list") = pure false) (h : Q .notImplemented s) :
    wpAny (model prog w) A (Builtin.«list.__lt__» ⟨[v, u], []⟩) (fun fin s' => ∃ v, fin = .done (.ret v) ∧ Q v s') E s := by
  wp_walk using isInst_of hty' hs
  exact ⟨_, rfl, h⟩
theorem dec_tuple_lt (hty' : s.TypeIs u Tu) (hs : isSubtype (.type Tu) (.type "tuple") = pure false) (h : Q .notImplemented s) :
    wpAny (model prog w) A (Builtin.«tuple.__lt__» ⟨[v, u], []⟩) (fun fin s' => ∃ v, fin = .done (.ret v) ∧ Q v s') E s := by
  wp_walk using isInst_of hty' hs
  exact ⟨_, rfl, h⟩
theorem dec_fset_lt (hty' : s.TypeIs u Tu) (hs : isSubtype (.type Tu) (.type "set") = pure false) (hs' : isSubtype (.type Tu) (.type "frozenset") = pure false) (h : Q .notImplemented s) :
    wpAny (model prog w) A (Builtin.«frozenset.__lt__» ⟨[v, u], []⟩) (fun fin s' => ∃ v, fin = .done (.ret v) ∧ Q v s') E s := by
  wp_walk using isInst_of hty' hs, isInst_of hty' hs'
  exact ⟨_, rfl, h⟩
theorem dec_list_eq (hty' : s.TypeIs u Tu) (hs : isSubtype (.type Tu) (.type "list") = pure false) (h : Q .notImplemented s) :
    wpAny (model prog w) A (Builtin.«list.__eq__» ⟨[v, u], []⟩) (fun fin s' => ∃ v, fin = .done (.ret v) ∧ Q v s') E s := by
  wp_walk using isInst_of hty' hs
  exact ⟨_, rfl, h⟩
theorem dec_tuple_eq (hty' : s.TypeIs u Tu) (hs : isSubtype (.type Tu) (.type "tuple") = pure false) (h : Q .notImplemented s) :
    wpAny (model prog w) A (Builtin.«tuple.__eq__» ⟨[v, u], []⟩) (fun fin s' => ∃ v, fin = .done (.ret v) ∧ Q v s') E s := by
  wp_walk using isInst_of hty' hs
  exact ⟨_, rfl, h⟩
theorem dec_dict_eq (hty' : s.TypeIs u Tu) (hs : isSubtype (.type Tu) (.type "dict") = pure false) (h : Q .notImplemented s) :
    wpAny (model prog w) A (Builtin.«dict.__eq__» ⟨[v, u], []⟩) (fun fin s' => ∃ v, fin = .done (.ret v) ∧ Q v s') E s := by
  wp_walk using isInst_of hty' hs
  exact ⟨_, rfl, h⟩
theorem dec_fset_eq (hty' : s.TypeIs u Tu) (hs : isSubtype (.type Tu) (.type "set") = pure false) (hs' : isSubtype (.type Tu) (.type "frozenset") = pure false) (h : Q .notImplemented s) :
    wpAny (model prog w) A (Builtin.«frozenset.__eq__» ⟨[v, u], []⟩) (fun fin s' => ∃ v, fin = .done (.ret v) ∧ Q v s') E s := by
  wp_walk using isInst_of hty' hs, isInst_of hty' hs'
  exact ⟨_, rfl, h⟩
end

def Kd.id (op : String) : Kd → String
  | .int => "int.__" ++ op ++ "__" | .bool => "int.__" ++ op ++ "__" | k => k.ty ++ ".__" ++ op ++ "__"

section
variable {prog : Program} {w : World} {A : Around} {E : Value → Shared → Prop} {s : Shared}

theorem slot_gt : ∀ k : Kd, Slot k.ty (cmpInfo .Gt).2.1 (k.id "gt")
  | .int => F.slot_int_gt | .bool => F.slot_bool_gt | .str => F.slot_str_gt | .set => F.slot_set_gt | .fset => slot_fset_gt | .none => F.slot_NoneType_gt | .dict => F.slot_dict_gt | .list => F.slot_list_gt | .tup => F.slot_tuple_gt
theorem slot_gt_refl : ∀ k : Kd, Slot k.ty (cmpInfo .Lt).2.2 (k.id "gt")
  | .int => F.slot_int_gt_refl | .bool => F.slot_bool_gt_refl | .str => F.slot_str_gt_refl | .set => F.slot_set_gt_refl | .fset => slot_fset_gt_refl | .none => F.slot_NoneType_gt_refl | .dict => F.slot_dict_gt_refl | .list => F.slot_list_gt_refl | .tup => F.slot_tuple_gt_refl

theorem decl_gt {k k' : Kd} {v u : Value} (hv : VK s.heap k v) (hu : VK s.heap k' u) (hf : k.fam ≠ k'.fam ∨ k = .none ∨ k = .dict) {Q : Value → Shared → Prop} (h : Q .notImplemented s) :
    wpAny (model prog w) A (call (.builtin (k.id "gt")) [v, u]) Q E s := by
  have hty := hv.ty
  have hty' := hu.ty
  cases k with
  | int =>
    have hf' : k'.fam ≠ 0 := fun e => by revert hf; rw [e]; decide
    refine wpAny_call_entry F.slot_int_gt hty F.entry_int_gt ?_ (F.args_int_gt_2 _ _)
    obtain ⟨i, t, rfl⟩ := hv
    wp_walk
    refine asInt_none hu hf' ?_
    wp_walk
    exact ⟨_, rfl, h⟩
  | bool =>
    have hf' : k'.fam ≠ 0 := fun e => by revert hf; rw [e]; decide
    refine wpAny_call_entry F.slot_bool_gt hty F.entry_int_gt ?_ (F.args_int_gt_2 _ _)
    obtain ⟨i, rfl⟩ := hv
    wp_walk
    refine asInt_none hu hf' ?_
    wp_walk
    exact ⟨_, rfl, h⟩
  | str =>
    have hf' : k'.fam ≠ 1 := fun e => by revert hf; rw [e]; decide
    refine wpAny_call_entry F.slot_str_gt hty F.entry_str_gt ?_ (F.args_str_gt_2 _ _)
    obtain ⟨x, t, rfl⟩ := hv
    wp_walk
    refine asStr_none hu hf' ?_
    wp_walk
    exact ⟨_, rfl, h⟩
  | none =>
    refine wpAny_call_entry F.slot_NoneType_gt hty F.entry_NoneType_gt ?_ (F.args_NoneType_gt_2 _ _)
    cases hv
    wp_walk; exact ⟨_, rfl, h⟩
    
  | dict =>
    refine wpAny_call_entry F.slot_dict_gt hty F.entry_dict_gt ?_ (F.args_dict_gt_2 _ _)
    wp_walk; exact ⟨_, rfl, h⟩
  | list =>
    refine wpAny_call_entry F.slot_list_gt hty F.entry_list_gt ?_ (F.args_list_gt_2 _ _)
    have hs : isSubtype (.type k'.ty) (.type "list") = pure false := sub_fam k' .list (fun e => by revert hf; rw [e]; decide)
    exact dec_list_gt hty' hs h
  | tup =>
    refine wpAny_call_entry F.slot_tuple_gt hty F.entry_tuple_gt ?_ (F.args_tuple_gt_2 _ _)
    have hs : isSubtype (.type k'.ty) (.type "tuple") = pure false := sub_fam k' .tup (fun e => by revert hf; rw [e]; decide)
    exact dec_tuple_gt hty' hs h
  | set =>
    refine wpAny_call_entry F.slot_set_gt hty entry_set_gt ?_ (F.args_set_gt_2 _ _) 
    have hs : isSubtype (.type k'.ty) (.type "set") = pure false := sub_fam k' .set (fun e => by revert hf; rw [e]; decide)
    have hs' : isSubtype (.type k'.ty) (.type "frozenset") = pure false := sub_fam k' .fset (fun e => by revert hf; rw [e]; decide)
    exact dec_fset_gt hty' hs hs' h
  | fset =>
    refine wpAny_call_entry slot_fset_gt hty entry_fset_gt ?_ (args_fset_gt_2 _ _) 
    have hs : isSubtype (.type k'.ty) (.type "set") = pure false := sub_fam k' .set (fun e => by revert hf; rw [e]; decide)
    have hs' : isSubtype (.type k'.ty) (.type "frozenset") = pure false := sub_fam k' .fset (fun e => by revert hf; rw [e]; decide)
    exact dec_fset_gt hty' hs hs' h

theorem slot_lt : ∀ k : Kd, Slot k.ty (cmpInfo .Lt).2.1 (k.id "lt")
  | .int => F.slot_int_lt | .bool => F.slot_bool_lt | .str => F.slot_str_lt | .set => F.slot_set_lt | .fset => slot_fset_lt | .none => F.slot_NoneType_lt | .dict => F.slot_dict_lt | .list => F.slot_list_lt | .tup => F.slot_tuple_lt
theorem slot_lt_refl : ∀ k : Kd, Slot k.ty (cmpInfo .Gt).2.2 (k.id "lt")
  | .int => F.slot_int_lt_refl | .bool => F.slot_bool_lt_refl | .str => F.slot_str_lt_refl | .set => F.slot_set_lt_refl | .fset => slot_fset_lt_refl | .none => F.slot_NoneType_lt_refl | .dict => F.slot_dict_lt_refl | .list => F.slot_list_lt_refl | .tup => F.slot_tuple_lt_refl

theorem decl_lt {k k' : Kd} {v u : Value} (hv : VK s.heap k v) (hu : VK s.heap k' u) (hf : k.fam ≠ k'.fam ∨ k = .none ∨ k = .dict) {Q : Value → Shared → Prop} (h : Q .notImplemented s) :
    wpAny (model prog w) A (call (.builtin (k.id "lt")) [v, u]) Q E s := by
  have hty := hv.ty
  have hty' := hu.ty
  cases k with
  | int =>
    have hf' : k'.fam ≠ 0 := fun e => by revert hf; rw [e]; decide
    refine wpAny_call_entry F.slot_int_lt hty F.entry_int_lt ?_ (F.args_int_lt_2 _ _)
    obtain ⟨i, t, rfl⟩ := hv
    wp_walk
    refine asInt_none hu hf' ?_
    wp_walk
    exact ⟨_, rfl, h⟩
  | bool =>
    have hf' : k'.fam ≠ 0 := fun e => by revert hf; rw [e]; decide
    refine wpAny_call_entry F.slot_bool_lt hty F.entry_int_lt ?_ (F.args_int_lt_2 _ _)
    obtain ⟨i, rfl⟩ := hv
    wp_walk
    refine asInt_none hu hf' ?_
    wp_walk
    exact ⟨_, rfl, h⟩
  | str =>
    have hf' : k'.fam ≠ 1 := fun e => by revert hf; rw [e]; decide
    refine wpAny_call_entry F.slot_str_lt hty F.entry_str_lt ?_ (F.args_str_lt_2 _ _)
    obtain ⟨x, t, rfl⟩ := hv
    wp_walk
    refine asStr_none hu hf' ?_
    wp_walk
    exact ⟨_, rfl, h⟩
  | none =>
    refine wpAny_call_entry F.slot_NoneType_lt hty F.entry_NoneType_lt ?_ (F.args_NoneType_lt_2 _ _)
    cases hv
    wp_walk; exact ⟨_, rfl, h⟩
    
  | dict =>
    refine wpAny_call_entry F.slot_dict_lt hty F.entry_dict_lt ?_ (F.args_dict_lt_2 _ _)
    wp_walk; exact ⟨_, rfl, h⟩
  | list =>
    refine wpAny_call_entry F.slot_list_lt hty F.entry_list_lt ?_ (F.args_list_lt_2 _ _)
    have hs : isSubtype (.type k'.ty) (.type "list") = pure false := sub_fam k' .list (fun e => by revert hf; rw [e]; decide)
    exact dec_list_lt hty' hs h
  | tup =>
    refine wpAny_call_entry F.slot_tuple_lt hty F.entry_tuple_lt ?_ (F.args_tuple_lt_2 _ _)
    have hs : isSubtype (.type k'.ty) (.type "tuple") = pure false := sub_fam k' .tup (fun e => by revert hf; rw [e]; decide)
    exact dec_tuple_lt hty' hs h
  | set =>
    refine wpAny_call_entry F.slot_set_lt hty entry_set_lt ?_ (F.args_set_lt_2 _ _) 
    have hs : isSubtype (.type k'.ty) (.type "set") = pure false := sub_fam k' .set (fun e => by revert hf; rw [e]; decide)
    have hs' : isSubtype (.type k'.ty) (.type "frozenset") = pure false := sub_fam k' .fset (fun e => by revert hf; rw [e]; decide)
    exact dec_fset_lt hty' hs hs' h
  | fset =>
    refine wpAny_call_entry slot_fset_lt hty entry_fset_lt ?_ (args_fset_lt_2 _ _) 
    have hs : isSubtype (.type k'.ty) (.type "set") = pure false := sub_fam k' .set (fun e => by revert hf; rw [e]; decide)
    have hs' : isSubtype (.type k'.ty) (.type "frozenset") = pure false := sub_fam k' .fset (fun e => by revert hf; rw [e]; decide)
    exact dec_fset_lt hty' hs hs' h

theorem slot_eq : ∀ k : Kd, Slot k.ty (cmpInfo .Eq).2.1 (k.id "eq")
  | .int => F.slot_int_eq | .bool => F.slot_bool_eq | .str => F.slot_str_eq | .set => F.slot_set_eq | .fset => slot_fset_eq | .none => F.slot_NoneType_eq | .dict => F.slot_dict_eq | .list => F.slot_list_eq | .tup => F.slot_tuple_eq
theorem slot_eq_refl : ∀ k : Kd, Slot k.ty (cmpInfo .Eq).2.2 (k.id "eq")
  | .int => F.slot_int_eq | .bool => F.slot_bool_eq | .str => F.slot_str_eq | .set => F.slot_set_eq | .fset => slot_fset_eq_refl | .none => F.slot_NoneType_eq | .dict => F.slot_dict_eq | .list => F.slot_list_eq | .tup => F.slot_tuple_eq

theorem decl_eq {k k' : Kd} {v u : Value} (hv : VK s.heap k v) (hu : VK s.heap k' u) (hf : k.fam ≠ k'.fam) {Q : Value → Shared → Prop} (h : Q .notImplemented s) :
    wpAny (model prog w) A (call (.builtin (k.id "eq")) [v, u]) Q E s := by
  have hty := hv.ty
  have hty' := hu.ty
  cases k with
  | int =>
    have hf' : k'.fam ≠ 0 := fun e => by revert hf; rw [e]; decide
    refine wpAny_call_entry F.slot_int_eq hty F.entry_int_eq ?_ (F.args_int_eq_2 _ _)
    obtain ⟨i, t, rfl⟩ := hv
    wp_walk
    refine asInt_none hu hf' ?_
    wp_walk
    exact ⟨_, rfl, h⟩
  | bool =>
    have hf' : k'.fam ≠ 0 := fun e => by revert hf; rw [e]; decide
    refine wpAny_call_entry F.slot_bool_eq hty F.entry_int_eq ?_ (F.args_int_eq_2 _ _)
    obtain ⟨i, rfl⟩ := hv
    wp_walk
    refine asInt_none hu hf' ?_
    wp_walk
    exact ⟨_, rfl, h⟩
  | str =>
    have hf' : k'.fam ≠ 1 := fun e => by revert hf; rw [e]; decide
    refine wpAny_call_entry F.slot_str_eq hty F.entry_str_eq ?_ (F.args_str_eq_2 _ _)
    obtain ⟨x, t, rfl⟩ := hv
    wp_walk
    refine asStr_none hu hf' ?_
    wp_walk
    exact ⟨_, rfl, h⟩
  | none =>
    refine wpAny_call_entry F.slot_NoneType_eq hty F.entry_NoneType_eq ?_ (F.args_NoneType_eq_2 _ _)
    cases hv
    skip
    have hf' : k'.fam ≠ 3 := fun e => hf e.symm
    have hne : (u == Value.none) = false := by
      cases k' <;> first | exact absurd rfl hf' | (obtain ⟨i, t, rfl⟩ := hu; rfl) | (obtain ⟨b, rfl⟩ := hu; rfl) | (obtain ⟨a, o, rfl, _⟩ := hu; rfl)
    wp_walk
    refine ⟨_, rfl, ?_⟩
    show Q (if (u == Value.none) = true then _ else _) _
    rw [hne]; exact h
  | dict =>
    refine wpAny_call_entry F.slot_dict_eq hty F.entry_dict_eq ?_ (F.args_dict_eq_2 _ _)
    have hs : isSubtype (.type k'.ty) (.type "dict") = pure false := sub_fam k' .dict (fun e => hf e.symm)
    exact dec_dict_eq hty' hs h
  | list =>
    refine wpAny_call_entry F.slot_list_eq hty F.entry_list_eq ?_ (F.args_list_eq_2 _ _)
    have hs : isSubtype (.type k'.ty) (.type "list") = pure false := sub_fam k' .list (fun e => by revert hf; rw [e]; decide)
    exact dec_list_eq hty' hs h
  | tup =>
    refine wpAny_call_entry F.slot_tuple_eq hty F.entry_tuple_eq ?_ (F.args_tuple_eq_2 _ _)
    have hs : isSubtype (.type k'.ty) (.type "tuple") = pure false := sub_fam k' .tup (fun e => by revert hf; rw [e]; decide)
    exact dec_tuple_eq hty' hs h
  | set =>
    refine wpAny_call_entry F.slot_set_eq hty entry_set_eq ?_ (F.args_set_eq_2 _ _) 
    have hs : isSubtype (.type k'.ty) (.type "set") = pure false := sub_fam k' .set (fun e => by revert hf; rw [e]; decide)
    have hs' : isSubtype (.type k'.ty) (.type "frozenset") = pure false := sub_fam k' .fset (fun e => by revert hf; rw [e]; decide)
    exact dec_fset_eq hty' hs hs' h
  | fset =>
    refine wpAny_call_entry slot_fset_eq hty entry_fset_eq ?_ (args_fset_eq_2 _ _) 
    have hs : isSubtype (.type k'.ty) (.type "set") = pure false := sub_fam k' .set (fun e => by revert hf; rw [e]; decide)
    have hs' : isSubtype (.type k'.ty) (.type "frozenset") = pure false := sub_fam k' .fset (fun e => by revert hf; rw [e]; decide)
    exact dec_fset_eq hty' hs hs' h

end
end Mine

namespace Mine
open PySem.SeqAt PySem.MeetsSeq

theorem shown_len : ∀ k : Kd, (shownName k.ty).length ≤ 1000 := by
  intro k; cases k <;> decide +kernel

theorem ite_both {α : Type} {M : Model} {A : Around} {E : Value → Shared → Prop} {s : Shared} {Q : α → Shared → Prop} {c : Bool} {t : Sem Bool} {k : Bool → Sem α} (h : (if c then t else pure false) = pure false) (hk : wpAny M A (k false) Q E s) :
    wpAny M A (if c = true then t >>= k else k false) Q E s := by
  cases c with
  | true => simp only [if_true] at h ⊢; rw [h]; exact hk
  | false => simpa using hk

section
variable {prog : Program} {w : World} {A : Around} {E : Value → Shared → Prop} {s : Shared}
theorem rc_gt_raise {k k' : Kd} {v u : Value} {Q : Value → Shared → Prop} (hh : A.handled = none) (hroom : A.units < cLine) (hv : VK s.heap k v) (hu : VK s.heap k' u)
    (hf : k.fam ≠ k'.fam ∨ (k = .none ∧ k' = .none) ∨ (k = .dict ∧ k' = .dict))
    (h : ∀ h' tk e, Heap.NewExc s.heap h' e "TypeError" → E (.ref e) { s with heap := h', toks := tk }) : wpAny (model prog w) A (richCompare .Gt v u) Q E s := by
  have hty := hv.ty
  have hty' := hu.ty
  have hf1 : k.fam ≠ k'.fam ∨ k = .none ∨ k = .dict := by rcases hf with h | h | h; exact .inl h; exact .inr (.inl h.1); exact .inr (.inr h.1)
  have hf2 : k'.fam ≠ k.fam ∨ k' = .none ∨ k' = .dict := by rcases hf with h | h | h; exact .inl (Ne.symm h); exact .inr (.inl h.2); exact .inr (.inr h.2)
  have hsub : (if Value.type k.ty != Value.type k'.ty then isSubtype (.type k'.ty) (.type k.ty) else pure false) = pure false := by
    rcases hf with h | h | h
    · rw [sub_fam _ _ (Ne.symm h)]; split <;> rfl
    · rw [h.1, h.2]; rfl
    · rw [h.1, h.2]; rfl
  have s1 : Slot k.ty ("__gt__" : Str) (k.id "gt") := slot_gt k
  have s2 : Slot k'.ty ("__lt__" : Str) (k'.id "lt") := slot_lt_refl k'
  simp only [richCompare, cmpInfo, hty.oneThing_none]
  refine wpAny_holding ?_
  refine wpAny_bind (wpAny_cRoomFor hroom ?_)
  refine wpAny_bind (wpAny_typeOf hty (wpAny_bind (wpAny_typeOf hty' ?_)))
  refine ite_both hsub ?_
  simp only [Bool.false_eq_true, if_false, Bool.not_false, if_true]
  refine wpAny_bind (m := tryCompare v _ u) (wpAny_tryCompare_declines hty s1 (decl_gt hv hu hf1 ⟨rfl, ?_⟩))
  refine wpAny_bind (m := tryCompare u _ v) (wpAny_tryCompare_declines hty' s2 (decl_lt hu hv hf2 ⟨rfl, ?_⟩))
  have hn : ∀ k : Kd, (Value.type k.ty == Value.type "builtin_function_or_method") = false := by intro k; cases k <;> decide
  refine wpAny_bind (wpAny_rule (wpAny_bind (wpAny_typeNameOf' hty (hn k) (wpAny_bind (wpAny_typeNameOf' hty' (hn k') (wpAny_raiseTypeError hh h ?_))))))
  show (Str.ofString _).length ≤ sizeLine
  rw [PySem.ofString_length, sizeLine_eq]
  simp only [String.length_append, toString]
  have e0 := shown_len k
  have e0' := shown_len k'
  have e1 : "'".length ≤ 100 := by decide
  have e2 : ">".length ≤ 100 := by decide
  have e3 : "' not supported between instances of '".length ≤ 100 := by decide
  have e4 : "' and '".length ≤ 100 := by decide
  omega
theorem rc_lt_raise {k k' : Kd} {v u : Value} {Q : Value → Shared → Prop} (hh : A.handled = none) (hroom : A.units < cLine) (hv : VK s.heap k v) (hu : VK s.heap k' u)
    (hf : k.fam ≠ k'.fam ∨ (k = .none ∧ k' = .none) ∨ (k = .dict ∧ k' = .dict))
    (h : ∀ h' tk e, Heap.NewExc s.heap h' e "TypeError" → E (.ref e) { s with heap := h', toks := tk }) : wpAny (model prog w) A (richCompare .Lt v u) Q E s := by
  have hty := hv.ty
  have hty' := hu.ty
  have hf1 : k.fam ≠ k'.fam ∨ k = .none ∨ k = .dict := by rcases hf with h | h | h; exact .inl h; exact .inr (.inl h.1); exact .inr (.inr h.1)
  have hf2 : k'.fam ≠ k.fam ∨ k' = .none ∨ k' = .dict := by rcases hf with h | h | h; exact .inl (Ne.symm h); exact .inr (.inl h.2); exact .inr (.inr h.2)
  have hsub : (if Value.type k.ty != Value.type k'.ty then isSubtype (.type k'.ty) (.type k.ty) else pure false) = pure false := by
    rcases hf with h | h | h
    · rw [sub_fam _ _ (Ne.symm h)]; split <;> rfl
    · rw [h.1, h.2]; rfl
    · rw [h.1, h.2]; rfl
  have s1 : Slot k.ty ("__lt__" : Str) (k.id "lt") := slot_lt k
  have s2 : Slot k'.ty ("__gt__" : Str) (k'.id "gt") := slot_gt_refl k'
  simp only [richCompare, cmpInfo, hty.oneThing_none]
  refine wpAny_holding ?_
  refine wpAny_bind (wpAny_cRoomFor hroom ?_)
  refine wpAny_bind (wpAny_typeOf hty (wpAny_bind (wpAny_typeOf hty' ?_)))
  refine ite_both hsub ?_
  simp only [Bool.false_eq_true, if_false, Bool.not_false, if_true]
  refine wpAny_bind (m := tryCompare v _ u) (wpAny_tryCompare_declines hty s1 (decl_lt hv hu hf1 ⟨rfl, ?_⟩))
  refine wpAny_bind (m := tryCompare u _ v) (wpAny_tryCompare_declines hty' s2 (decl_gt hu hv hf2 ⟨rfl, ?_⟩))
  have hn : ∀ k : Kd, (Value.type k.ty == Value.type "builtin_function_or_method") = false := by intro k; cases k <;> decide
  refine wpAny_bind (wpAny_rule (wpAny_bind (wpAny_typeNameOf' hty (hn k) (wpAny_bind (wpAny_typeNameOf' hty' (hn k') (wpAny_raiseTypeError hh h ?_))))))
  show (Str.ofString _).length ≤ sizeLine
  rw [PySem.ofString_length, sizeLine_eq]
  simp only [String.length_append, toString]
  have e0 := shown_len k
  have e0' := shown_len k'
  have e1 : "'".length ≤ 100 := by decide
  have e2 : "<".length ≤ 100 := by decide
  have e3 : "' not supported between instances of '".length ≤ 100 := by decide
  have e4 : "' and '".length ≤ 100 := by decide
  omega

theorem isSame_mixed {k k' : Kd} {v u : Value} {Q : Bool → Shared → Prop} (hv : VK s.heap k v) (hu : VK s.heap k' u) (hf : k.fam ≠ k'.fam) (h : Q false s) : wpAny (model prog w) A (isSame v u) Q E s := by
  have refs : ∀ {T T' : String}, IsRefOf s.heap T v → IsRefOf s.heap T' u → T ≠ T' → wpAny (model prog w) A (isSame v u) Q E s := by
    rintro T T' ⟨a, o, rfl, ho, hc, _⟩ ⟨a', o', rfl, ho', hc', _⟩ hne
    have haa : a ≠ a' := by
      rintro rfl
      rw [ho] at ho'; cases ho'
      rw [hc] at hc'; exact hne (by injection hc')
    show wpAny _ A (if (a == a') = true then pure true else _) Q E s
    rw [if_neg (by simpa using haa)]
    refine wpAny_bind (wpAny_load ho (wpAny_bind (wpAny_load ho' ?_)))
    split
    · rename_i h1 h2 _ _
      rw [hc] at h1; rw [hc'] at h2
      exact absurd ((by injection h1 : T = "tuple").trans (by injection h2 : T' = "tuple").symm) hne
    · exact wpAny_pure h
  cases k <;> cases k' <;> (first
    | exact absurd rfl hf
    | exact refs hv hu (by decide)
    | (obtain ⟨x, t, rfl⟩ := hv; obtain ⟨y, r, rfl⟩ := hu; exact wpAny_pure h)
    | (obtain ⟨x, t, rfl⟩ := hv; obtain ⟨y, rfl⟩ := hu; exact wpAny_pure h)
    | (obtain ⟨x, rfl⟩ := hv; obtain ⟨y, r, rfl⟩ := hu; exact wpAny_pure h)
    | (obtain ⟨x, t, rfl⟩ := hv; cases hu; exact wpAny_pure h)
    | (obtain ⟨x, rfl⟩ := hv; cases hu; exact wpAny_pure h)
    | (cases hv; obtain ⟨y, r, rfl⟩ := hu; exact wpAny_pure h)
    | (cases hv; obtain ⟨y, rfl⟩ := hu; exact wpAny_pure h)
    | (obtain ⟨x, t, rfl, _⟩ := hv; obtain ⟨y, r, rfl⟩ := hu; exact wpAny_pure h)
    | (obtain ⟨x, t, rfl, _⟩ := hv; obtain ⟨y, rfl⟩ := hu; exact wpAny_pure h)
    | (obtain ⟨x, t, rfl, _⟩ := hv; cases hu; exact wpAny_pure h)
    | (obtain ⟨y, r, rfl, _⟩ := hu; obtain ⟨x, t, rfl⟩ := hv; exact wpAny_pure h)
    | (obtain ⟨y, r, rfl, _⟩ := hu; obtain ⟨x, rfl⟩ := hv; exact wpAny_pure h)
    | (obtain ⟨y, r, rfl, _⟩ := hu; cases hv; exact wpAny_pure h))

theorem typeIs_fun {v : Value} {T T' : String} (h : s.TypeIs v T) (h' : s.TypeIs v T') : T = T' := by
  cases v with
  | ref a =>
    obtain ⟨o, ho, hc⟩ := h
    obtain ⟨o', ho', hc'⟩ := h'
    rw [ho] at ho'; cases ho'
    rw [hc] at hc'; injection hc'
  | _ =>
    have e := Eq.trans (Eq.symm h) h'
    injection e with e
    injection e
theorem vk_ne {k k' : Kd} {v u : Value} (hv : VK s.heap k v) (hu : VK s.heap k' u) (hf : k.fam ≠ k'.fam) : v ≠ u := by
  rintro rfl
  have e := typeIs_fun hv.ty hu.ty
  revert e hf
  cases k <;> cases k' <;> decide
end

section
variable {A : Around} {s : Shared}
theorem eqAt_of_rc {v u : Value} {b : Bool} (hne : v ≠ u) (hfl : ∀ i t, v ≠ .float i t) (h : RcAt A s v u b) : EqAt A s v u b := fun prog w E Q hq => by
  unfold eqBool
  refine wpAny_holding ?_
  refine wpAny_ite_split (fun hab => absurd (eq_of_beq hab) hne) (fun _ => ?_)
  cases v with
  | float i t => exact absurd rfl (hfl i t)
  | _ => exact wpAny_bind (h prog w E _ (wpAny_truthy_bool hq))

theorem rcAt_mixed {k k' : Kd} {v u : Value} (hroom : A.units < cLine) (hv : VK s.heap k v) (hu : VK s.heap k' u) (hf : k.fam ≠ k'.fam) : RcAt A s v u false := fun prog w E Q h => by
  have hne : (Value.type k.ty != Value.type k'.ty) = true := by
    cases k <;> cases k' <;> first | exact absurd rfl hf | decide
  exact rc_eq_decline_or (k := false) hv.ty hu.ty hne (sub_fam _ _ (Ne.symm hf)) (slot_eq k) (slot_eq_refl k')
    (fun _ hq => decl_eq hv hu hf hq) (fun _ hq => decl_eq hu hv (Ne.symm hf) hq) (fun _ hq => isSame_mixed hv hu hf hq) (.inr hroom) h

theorem eqAt_mixed {k k' : Kd} {v u : Value} (hroom : A.units < cLine) (hv : VK s.heap k v) (hu : VK s.heap k' u) (hf : k.fam ≠ k'.fam) : EqAt A s v u false :=
  eqAt_of_rc (vk_ne hv hu hf) (by
    intro i t e
    subst e
    have e := typeIs_fun (T' := "float") hv.ty rfl
    revert e
    cases k <;> decide) (rcAt_mixed hroom hv hu hf)
end
end Mine

namespace Mine
open PySem.SeqAt PySem.MeetsSeq

/-! ## sets of ints -/
def ElemsI (es : List (Int × Value)) : Prop := ∀ e ∈ es, ∃ k t, e = (hashInt k, Value.int k t)
def SetAt (h : Heap) (cls : String) (a : Addr) (ks : List Int) : Prop :=
  ∃ o es ep t, h.get? a = some o ∧ o.cls = .type cls ∧ o.data = .set es ep t ∧ ElemsI es.toList ∧ (∀ k, k ∈ ks ↔ ∃ e ∈ es.toList, Value.isInt k e.2 = true)
    ∧ es.size < scanBound ∧ t.fits es.size = true ∧ es.size = ks.length

theorem isInt_self (k : Int) (t : Tok) : Value.isInt k (.int k t) = true := by simp [Value.isInt]
theorem ElemsI.of {es : List (Int × Value)} (h : ElemsI es) (prog : Program) (w : World) : ElemsOf (intKind prog w) es := fun e he => by
  obtain ⟨k, t, rfl⟩ := h e he
  exact ⟨⟨k, isInt_self k t, rfl⟩, rfl⟩
theorem SetAt.ref {h : Heap} {cls : String} {a : Addr} {ks : List Int} (x : SetAt h cls a ks) : IsRefOf h cls (.ref a) := by
  obtain ⟨o, es, ep, t, ho, hc, hd, _⟩ := x
  exact ⟨a, o, rfl, ho, hc, fun p e => by rw [hd] at e; cases e⟩
theorem SetAt.keeps {h h' : Heap} {cls : String} {a : Addr} {ks : List Int} (x : SetAt h cls a ks) (hk : ∀ o, h.get? a = some o → h'.get? a = some o) : SetAt h' cls a ks := by
  obtain ⟨o, es, ep, t, ho, r⟩ := x
  exact ⟨o, es, ep, t, hk _ ho, r⟩

section
variable {prog : Program} {w : World} {A : Around} {E : Value → Shared → Prop} {s : Shared}
theorem setFind_at {cls : String} {a : Addr} {ks : List Int} {k : Int} {t : Tok} {Q : Option Nat → Shared → Prop} (hS : SetAt s.heap cls a ks)
    (h : ∀ r : Option Nat, r.isSome = decide (k ∈ ks) → Q r s) : wpAny (model prog w) A (setFind a (.int k t) (hashInt k)) Q E s := by
  obtain ⟨o, es, ep, tb, ho, _, hd, hel', hmem, hb, hf, _⟩ := hS
  have hel := hel'.of prog w
  have hkey : (intKind prog w).is k (.int k t) = true := isInt_self k t
  unfold setFind setFindIn
  refine wpAny_bind (wpAny_setState_of ho hd hf ?_)
  dsimp only
  rw [byScan_of (knd := intKind prog w) rfl hb hel]
  simp only [↓reduceIte]
  refine wpAny_bind (wpAny_rule ?_)
  refine wpAny_bind (wpAny_setScan_of (knd := intKind prog w) hkey ho hd hf hel ?_)
  have hk := hmem k
  cases hr : List.findIdx? (fun e => (intKind prog w).is k e.2) es.toList with
  | none =>
    dsimp only
    refine wpAny_pure (h none ?_)
    rw [Option.isSome_none, eq_comm, decide_eq_false_iff_not, hk]
    rintro ⟨e, he, hpe⟩
    have := List.findIdx?_eq_none_iff.mp hr e he
    have hpe' : (intKind prog w).is k e.2 = true := hpe
    rw [hpe'] at this; exact Bool.noConfusion this
  | some j =>
    dsimp only
    refine wpAny_pure (h (some (0 + j)) ?_)
    rw [Option.isSome_some, eq_comm, decide_eq_true_eq, hk]
    obtain ⟨hj, hpj, _⟩ := List.findIdx?_eq_some_iff_getElem.mp hr
    exact ⟨es.toList[j], List.getElem_mem hj, hpj⟩

theorem quiet_all {l : List (Int × Value)} (hl : ElemsI l) : ∀ {Q : Option (List (Int × Value)) × PUnit → Shared → Prop}
    {f : Int × Value → Option (List (Int × Value)) × PUnit → Sem (ForInStep (Option (List (Int × Value)) × PUnit))} (_ : ∀ (k : Int) (t : Tok) b, f (hashInt k, Value.int k t) b = pure (.yield (none, ⟨⟩))),
    Q (none, ⟨⟩) s → wpAny (model prog w) A (forIn l ((none : Option (List (Int × Value))), PUnit.unit) f) Q E s := by
  intro Q f hf hq
  induction l with
  | nil => rw [List.forIn_nil]; exact wpAny_pure hq
  | cons e r ih =>
    obtain ⟨k, t, rfl⟩ := hl e (List.mem_cons_self ..)
    rw [List.forIn_cons, hf, pure_bind]
    exact ih (fun x hx => hl x (List.mem_cons_of_mem _ hx))

theorem loop_at {id cls : String} {a b : Addr} {ep : Nat} {ls : List Int} (hb : SetAt s.heap cls b ls) (hep : ∀ Q' : Nat → Shared → Prop, Q' ep s → wpAny (model prog w) A (setEpoch a) Q' E s) :
    ∀ (l : List (Int × Value)), ElemsI l → ∀ {Q : Option Bool × PUnit → Shared → Prop}, Q (if l.all (fun e => ls.any fun k => Value.isInt k e.2) then (none, ⟨⟩) else (some false, ⟨⟩)) s →
    wpAny (model prog w) A (forIn l ((none : Option Bool), PUnit.unit) fun x _ =>
                    match x with
                    | (h, x) => do
                      let r ← holding [x] (setFind b x h)
                      if r.isNone = true then pure (ForInStep.done (some false, PUnit.unit))
                        else do
                          Builtin.Frozenset.unchanged id a ep
                          pure (ForInStep.yield (none, PUnit.unit))) Q E s := by
  intro l
  induction l with
  | nil => intro _ Q h; rw [List.forIn_nil]; exact wpAny_pure h
  | cons e r ih =>
    intro hl Q h
    obtain ⟨k, t, rfl⟩ := hl e (List.mem_cons_self ..)
    rw [List.forIn_cons]
    refine wpAny_bind (wpAny_bind (wpAny_holding (setFind_at hb fun q hq => ?_)))
    have hin : (ls.any fun k' => Value.isInt k' (Value.int k t)) = decide (k ∈ ls) := by
      rw [Bool.eq_iff_iff, List.any_eq_true, decide_eq_true_eq]
      constructor
      · rintro ⟨k', hk', hi⟩
        exact (Value.isInt_inj _ _ _ hi (isInt_self k t)) ▸ hk'
      · exact fun hk => ⟨k, hk, isInt_self _ _⟩
    rw [List.all_cons] at h
    simp only [hin] at h
    by_cases hk : k ∈ ls
    · rw [decide_eq_true hk] at hq h
      rw [if_neg (by cases q <;> simp_all)]
      unfold Builtin.Frozenset.unchanged
      refine wpAny_bind (wpAny_bind (hep _ ?_))
      rw [if_neg (by simp)]
      refine wpAny_pure (wpAny_pure ?_)
      exact ih (fun x hx => hl x (List.mem_cons_of_mem _ hx)) (by rw [Bool.true_and] at h; exact h)
    · rw [decide_eq_false hk] at hq h
      rw [if_pos (by cases q <;> simp_all)]
      rw [Bool.false_and] at h
      exact wpAny_pure (wpAny_pure h)

theorem subset_at {id cls cls' : String} {a b : Addr} {ks ls : List Int} {Q : Bool → Shared → Prop} (ha : SetAt s.heap cls a ks) (hb : SetAt s.heap cls' b ls)
    (h : Q (decide (ks.length ≤ ls.length) && ks.all (fun k => decide (k ∈ ls))) s) : wpAny (model prog w) A (Builtin.Frozenset.subsetOf id a b) Q E s := by
  have hb' := hb
  obtain ⟨o, es, ep, tb, ho, hc, hd, hel, hmem, hbd, hf, hn⟩ := ha
  obtain ⟨o', es', ep', tb', ho', hc', hd', hel', hmem', hbd', hf', hn'⟩ := hb
  unfold Builtin.Frozenset.subsetOf Builtin.Frozenset.sizeOf
  refine wpAny_bind (wpAny_bind (wpAny_setEntries_of ho hd hf (wpAny_pure ?_)))
  refine wpAny_bind (wpAny_bind (wpAny_setEntries_of ho' hd' hf' (wpAny_pure ?_)))
  rw [hn, hn']
  by_cases hlt : ks.length > ls.length
  · rw [if_pos hlt]
    have : decide (ks.length ≤ ls.length) = false := by simpa using hlt
    rw [this, Bool.false_and] at h
    exact wpAny_pure h
  · rw [if_neg hlt]
    have : decide (ks.length ≤ ls.length) = true := by simpa using hlt
    rw [this, Bool.true_and] at h
    refine wpAny_bind (wpAny_setEpoch_of ho hd hf ?_)
    unfold Builtin.Frozenset.walkUnseen
    refine wpAny_bind (wpAny_bind (wpAny_setEntries_of ho hd hf ?_))
    refine wpAny_bind (wpAny_setEntries_of ho' hd' hf' ?_)
    refine wpAny_bind ?_
    refine quiet_all (l := es.toList ++ es'.toList) (fun e he => (List.mem_append.mp he).elim (hel e) (hel' e)) (fun k t b => rfl) ?_
    refine wpAny_pure ?_
    refine wpAny_bind ?_
    refine loop_at (ls := ls) hb' (fun Q' hq => wpAny_setEpoch_of ho hd hf hq) es.toList hel ?_
    have e : es.toList.all (fun e => ls.any fun k => Value.isInt k e.2) = ks.all (fun k => decide (k ∈ ls)) := by
      rw [Bool.eq_iff_iff, List.all_eq_true, List.all_eq_true]
      constructor
      · intro x k hk
        obtain ⟨e, he, hi⟩ := (hmem k).mp hk
        obtain ⟨k', hk', hi'⟩ := List.any_eq_true.mp (x e he)
        rw [decide_eq_true_eq, Value.isInt_inj _ _ _ hi hi']
        exact hk'
      · intro x e he
        obtain ⟨k, t, rfl⟩ := hel e he
        have hk : k ∈ ks := (hmem k).mpr ⟨_, he, isInt_self _ _⟩
        exact List.any_eq_true.mpr ⟨k, by simpa using x k hk, isInt_self _ _⟩
    rw [e]
    cases hall : ks.all (fun k => decide (k ∈ ls)) with
    | true => rw [hall] at h; exact wpAny_pure h
    | false => rw [hall] at h; exact wpAny_pure h

theorem sub_fset_set : isSubtype (.type "frozenset") (.type "set") = pure false := by rw [isSubtype_type]; kernel_rfl
theorem sub_fset_fset : isSubtype (.type "frozenset") (.type "frozenset") = pure true := by rw [isSubtype_type]; kernel_rfl
theorem sub_set_set : isSubtype (.type "set") (.type "set") = pure true := by rw [isSubtype_type]; kernel_rfl
theorem sub_set_fset : isSubtype (.type "set") (.type "frozenset") = pure false := by rw [isSubtype_type]; kernel_rfl

theorem sizeOf_at {cls : String} {a : Addr} {ks : List Int} {Q : Nat → Shared → Prop} (ha : SetAt s.heap cls a ks) (h : Q ks.length s) : wpAny (model prog w) A (Builtin.Frozenset.sizeOf a) Q E s := by
  obtain ⟨o, es, ep, tb, ho, hc, hd, hel, hmem, hbd, hf, hn⟩ := ha
  unfold Builtin.Frozenset.sizeOf
  refine wpAny_bind (wpAny_setEntries_of ho hd hf (wpAny_pure ?_))
  rw [hn]; exact h

theorem andM_false {M : Model} {x y : Sem Bool} {Q : Bool → Shared → Prop} (hx : wpAny M A x (fun b s' => b = false ∧ s' = s) E s) (h : Q false s) : wpAny M A (x <&&> y) Q E s := by
  unfold andM
  refine wpAny_bind (wpAny_mono hx (fun b s' hb => ?_) fun _ _ e => e)
  obtain ⟨rfl, rfl⟩ := hb
  exact wpAny_pure h

theorem set_gt_at {a b : Addr} {ks ls : List Int} {Q : Value → Shared → Prop} (ha : SetAt s.heap "set" a ks) (hb : SetAt s.heap "frozenset" b ls) (hroom : A.units < cLine)
    (h : Q (.bool (decide (ls.length < ks.length) && ls.all (fun k => decide (k ∈ ks)))) s) : wpAny (model prog w) A (richCompare .Gt (.ref a) (.ref b)) Q E s := by
  have ta := ha.ref.ty
  have tb := hb.ref.ty
  refine rc_left_or ta tb (by decide) sub_fset_set F.slot_set_gt (wpAny_call_entry F.slot_set_gt ta entry_set_gt ?_ (F.args_set_gt_2 _ _)) (.inr hroom)
  have f1 := sub_fset_set
  have f2 := sub_fset_fset
  wp_walk using isInst_of tb sub_fset_set, isInst_of tb sub_fset_fset, sizeOf_at ha, sizeOf_at hb
  by_cases hle : ks.length ≤ ls.length
  · rw [if_pos hle]
    rw [decide_eq_false (Nat.not_lt.mpr hle), Bool.false_and] at h
    exact wpAny_pure ⟨_, rfl, nofun, h⟩
  · rw [if_neg hle]
    have hlt : ls.length < ks.length := Nat.lt_of_not_le hle
    rw [decide_eq_true hlt, Bool.true_and] at h
    refine wpAny_bind (subset_at hb ha ?_)
    rw [decide_eq_true (Nat.le_of_lt hlt), Bool.true_and]
    exact wpAny_pure ⟨_, rfl, nofun, h⟩

theorem set_lt_at {a b : Addr} {ks ls : List Int} {Q : Value → Shared → Prop} (ha : SetAt s.heap "set" a ks) (hb : SetAt s.heap "frozenset" b ls) (hroom : A.units < cLine)
    (h : Q (.bool (decide (ks.length < ls.length) && ks.all (fun k => decide (k ∈ ls)))) s) : wpAny (model prog w) A (richCompare .Lt (.ref a) (.ref b)) Q E s := by
  have ta := ha.ref.ty
  have tb := hb.ref.ty
  refine rc_left_or ta tb (by decide) sub_fset_set F.slot_set_lt (wpAny_call_entry F.slot_set_lt ta entry_set_lt ?_ (F.args_set_lt_2 _ _)) (.inr hroom)
  have f1 := sub_fset_set
  have f2 := sub_fset_fset
  wp_walk using isInst_of tb sub_fset_set, isInst_of tb sub_fset_fset, sizeOf_at ha, sizeOf_at hb
  by_cases hle : ks.length ≥ ls.length
  · rw [if_pos hle]
    rw [decide_eq_false (Nat.not_lt.mpr hle), Bool.false_and] at h
    exact wpAny_pure ⟨_, rfl, nofun, h⟩
  · rw [if_neg hle]
    have hlt : ks.length < ls.length := Nat.lt_of_not_le hle
    rw [decide_eq_true hlt, Bool.true_and] at h
    refine wpAny_bind (subset_at ha hb ?_)
    rw [decide_eq_true (Nat.le_of_lt hlt), Bool.true_and]
    exact wpAny_pure ⟨_, rfl, nofun, h⟩

theorem set_eq_at {a b : Addr} {ks ls : List Int} {Q : Value → Shared → Prop} (ha : SetAt s.heap "set" a ks) (hb : SetAt s.heap "frozenset" b ls) (hroom : A.units < cLine)
    (h : Q (.bool (decide (ks.length = ls.length) && ks.all (fun k => decide (k ∈ ls)))) s) : wpAny (model prog w) A (richCompare .Eq (.ref a) (.ref b)) Q E s := by
  have ta := ha.ref.ty
  have tb := hb.ref.ty
  refine rc_left_or ta tb (by decide) sub_fset_set F.slot_set_eq (wpAny_call_entry F.slot_set_eq ta entry_set_eq ?_ (F.args_set_eq_2 _ _)) (.inr hroom)
  have f1 := sub_fset_set
  have f2 := sub_fset_fset
  wp_walk using isInst_of tb sub_fset_set, isInst_of tb sub_fset_fset, sizeOf_at ha, sizeOf_at hb
  by_cases hne : ks.length = ls.length
  · rw [if_neg (by rw [hne]; simp)]
    rw [decide_eq_true hne, Bool.true_and] at h
    refine wpAny_bind (andM_false (isInst_of ta sub_set_fset ⟨rfl, rfl⟩) ?_)
    dsimp only
    rw [if_neg Bool.false_ne_true]
    refine subset_at ha hb ?_
    rw [decide_eq_true (Nat.le_of_eq hne), Bool.true_and]
    exact wpAny_pure ⟨_, rfl, nofun, h⟩
  · rw [if_pos (by simpa using hne)]
    rw [decide_eq_false hne, Bool.false_and] at h
    exact wpAny_pure (wpAny_pure ⟨_, rfl, nofun, h⟩)
end
end Mine

namespace Mine
open PySem.SeqAt PySem.MeetsSeq PySem.MeetsSeq3
open PySem.AutoSeq1 (wpAny_loadPart')

/-! ## two lists, two tuples in order -/
def sizesBy (op : CmpOp) (m n : Nat) : Bool := match op with
  | .Eq => m == n | .NotEq => m != n | .Lt => m < n | .LtE => m ≤ n | .Gt => m > n | _ => m ≥ n

inductive Ord (M : Model) (A : Around) (op : CmpOp) (s : Shared) (R : Result → Shared → Prop) (n m : Nat) : List Value → List Value → Prop where
  | done {xs ys : List Value} : (xs = [] ∨ ys = []) → R (.ok (.ret (.bool (sizesBy op n m)))) s → Ord M A op s R n m xs ys
  | eq {x y : Value} {xs ys : List Value} : EqAt A s x y true → Ord M A op s R n m xs ys → Ord M A op s R n m (x :: xs) (y :: ys)
  | ne {x y : Value} {xs ys : List Value} : EqAt A s x y false → wpAny M A (richCompare op x y) (fun v s' => R (.ok (.ret v)) s') (fun e s' => R (.error e) s') s → Ord M A op s R n m (x :: xs) (y :: ys)

def opCode : CmpOp → Int
  | .Lt => 0 | _ => 4

section
variable {prog : Program} {w : World} {A : Around} {R : Result → Shared → Prop} {s : Shared}
set_option maxHeartbeats 2000000 in
theorem ord_loop {op : CmpOp} (hop : op = .Lt ∨ op = .Gt) {l b : Addr} {items items2 : Array Value} {k k2 : Nat} {dd dd2 : Option Addr} {sl sl2 : Array (Option Value)}
    (hl : s.heap.get? l = some { cls := .type "list", dict := dd, data := .seq items k, slots := sl }) (hb : s.heap.get? b = some { cls := .type "list", dict := dd2, data := .seq items2 k2, slots := sl2 })
    {xs ys : List Value} (o : Ord (model prog w) A.in1 op s R items.size items2.size xs ys) : ∀ i : Nat, items.toList.drop i = xs → items2.toList.drop i = ys →
    wpAny (model prog w) A.in1 (Builtin.«list.__eq__.loop» ⟨[.ref l, .ref b, rawInt i, rawInt (opCode op)], []⟩)
      (fun fin s' => match fin with | .done f => R (.ok f) s' | .again c' => c'.quiet = true ∧ codeAny (model prog w) A c' R s') (fun e s' => R (.error e) s') s := by
  obtain ⟨hp, g, d, tk, os⟩ := s
  have at1 : ∀ {its : Array Value} {i : Nat} {x : Value} {xs : List Value}, its.toList.drop i = x :: xs → its[((i : Nat) : Int).toNat]? = some x ∧ its.toList.drop (i + 1) = xs := by
    intro its i x xs h
    have h0 : i < its.size := by
      rcases Nat.lt_or_ge i its.size with h1 | h1
      · exact h1
      · rw [List.drop_eq_nil_of_le (by simpa using h1)] at h; cases h
    have h1 : its.toList.drop i = its[i] :: its.toList.drop (i + 1) := by simp [List.drop_eq_getElem_cons, h0]
    rw [h1] at h
    injection h with h2 h3
    exact ⟨by simp [h0, h2], h3⟩
  have at0 : ∀ {its : Array Value} {i : Nat}, its.toList.drop i = [] → its[((i : Nat) : Int).toNat]? = none := by
    intro its i h
    have := List.drop_eq_nil_iff.mp h
    simp at this ⊢; omega
  induction o with
  | @done xs ys hx hr =>
    intro i h1 h2
    rcases hop with rfl | rfl
    all_goals (
      wp_walk using wpAny_loadPart' hl, wpAny_loadPart' hb
      rcases hx with rfl | rfl
      · rw [at0 h1]
        wp_walk using wpAny_loadPart' hl, wpAny_loadPart' hb
        exact hr
      · rw [at0 h2]
        rcases h3 : items[((i : Nat) : Int).toNat]? with _ | x
        · wp_walk using wpAny_loadPart' hl, wpAny_loadPart' hb
          exact hr
        · wp_walk using wpAny_loadPart' hl, wpAny_loadPart' hb
          exact hr)
  | @eq x y xs ys he ho ih =>
    intro i h1 h2
    have a1 := at1 h1
    have a2 := at1 h2
    have hc : ((i : Int) + 1) = ((i + 1 : Nat) : Int) := by push_cast; rfl
    rcases hop with rfl | rfl
    all_goals (
      wp_walk using wpAny_loadPart' hl, wpAny_loadPart' hb
      rw [a1.1, a2.1]
      refine wpAny_bind (he prog w _ _ ?_)
      wp_walk
      rw [hc]
      exact ⟨plainId_quiet plain_eq_loop _, codeAny_builtin entry_eq_loop (by
        rw [Around.under_plainId plain_eq_loop _]
        exact ih (i + 1) a1.2 a2.2)⟩)
  | @ne x y xs ys he hr =>
    intro i h1 h2
    have a1 := at1 h1
    have a2 := at1 h2
    rcases hop with rfl | rfl
    all_goals (
      wp_walk using wpAny_loadPart' hl, wpAny_loadPart' hb
      rw [a1.1, a2.1]
      refine wpAny_bind (he prog w _ _ ?_)
      wp_walk using wpAny_loadPart' hl, wpAny_loadPart' hb
      rw [a1.1, a2.1]
      refine wpAny_bind (wpAny_mono hr (fun v s' h' => ?_) fun _ _ e => e)
      exact wpAny_pure h')

theorem list_ord_at {op : CmpOp} (hop : op = .Lt ∨ op = .Gt) {E : Value → Shared → Prop} {Q : Value → Shared → Prop} {l b : Addr} {items items2 : Array Value}
    (hl : s.heap.IsList l items) (hb : s.heap.IsList b items2) (hroom : A.units < cLine)
    (o : Ord (model prog w) A.in1 op s (wants (fun v s' => v ≠ .notImplemented ∧ Q v s') E) items.size items2.size items.toList items2.toList) : wpAny (model prog w) A (richCompare op (.ref l) (.ref b)) Q E s := by
  have ta := hl.typeIs
  have tb := hb.typeIs
  obtain ⟨⟨c1, d1, t1, l1⟩, g1, rfl, n1, rfl⟩ := hl
  obtain ⟨⟨c2, d2, t2, l2⟩, g2, rfl, n2, rfl⟩ := hb
  have f3 := AutoSeq1.sub_list_list
  rcases hop with rfl | rfl
  · refine wpAny_richCompare_same_room ta tb F.slot_list_lt (wpAny_call (codeAny_call_builtin F.slot_list_lt.plain F.entry_list_lt (F.slot_list_lt.check _ _ _ _ _ _ _ _ ta (F.args_list_lt_2 _ _) ?_))) hroom
    wp_walk using isInst_of tb f3
    exact ⟨plainId_quiet plain_eq_loop _, codeAny_builtin entry_eq_loop (by
      rw [Around.under_plainId plain_eq_loop _]
      exact ord_loop (.inl rfl) g1 g2 o 0 rfl rfl)⟩
  · refine wpAny_richCompare_same_room ta tb F.slot_list_gt (wpAny_call (codeAny_call_builtin F.slot_list_gt.plain F.entry_list_gt (F.slot_list_gt.check _ _ _ _ _ _ _ _ ta (F.args_list_gt_2 _ _) ?_))) hroom
    wp_walk using isInst_of tb f3
    exact ⟨plainId_quiet plain_eq_loop _, codeAny_builtin entry_eq_loop (by
      rw [Around.under_plainId plain_eq_loop _]
      exact ord_loop (.inr rfl) g1 g2 o 0 rfl rfl)⟩

theorem tup_loop {op : CmpOp} {n m : Nat} {xs ys : List Value} (o : Ord (model prog w) A op s R n m xs ys) {Q : Option Fin × PUnit → Shared → Prop} {E : Value → Shared → Prop}
    {f : Value × Value → Option Fin × PUnit → Sem (ForInStep (Option Fin × PUnit))}
    (hf : ∀ x y b, f (x, y) b = (do
      let e ← eqBool x y
      if (!e) = true then do
        rule "tuple.compare.by-the-first-pair-that-differs"
        let r ← richCompare op x y
        let r' ← ret r
        pure (ForInStep.done (some r', PUnit.unit))
      else pure (ForInStep.yield (none, PUnit.unit))))
    (h0 : R (.ok (.ret (.bool (sizesBy op n m)))) s → Q (none, PUnit.unit) s) (h1 : ∀ v s', R (.ok (.ret v)) s' → Q (some (.done (.ret v)), PUnit.unit) s') (h2 : ∀ e s', R (.error e) s' → E e s') :
    wpAny (model prog w) A (forIn (xs.zip ys) ((none : Option Fin), PUnit.unit) f) Q E s := by
  induction o with
  | @done xs ys hx hr =>
    have hz : xs.zip ys = [] := by rcases hx with rfl | rfl <;> simp
    rw [hz, List.forIn_nil]
    exact wpAny_pure (h0 hr)
  | eq he ho ih =>
    rw [List.zip_cons_cons, List.forIn_cons, hf]
    refine wpAny_bind (wpAny_bind (he prog w _ _ ?_))
    rw [if_neg (by decide)]
    exact wpAny_pure ih
  | ne he hr =>
    rw [List.zip_cons_cons, List.forIn_cons, hf]
    refine wpAny_bind (wpAny_bind (he prog w _ _ ?_))
    rw [if_pos (by decide)]
    refine wpAny_bind (wpAny_rule (wpAny_bind (wpAny_mono hr (fun v s' h' => ?_) fun e s' h' => h2 e s' h')))
    exact wpAny_bind (wpAny_pure (wpAny_pure (wpAny_pure (h1 v s' h'))))

theorem tuple_ord_at {op : CmpOp} (hop : op = .Lt ∨ op = .Gt) {E : Value → Shared → Prop} {Q : Value → Shared → Prop} {l b : Addr} {items items2 : Array Value}
    (hl : s.heap.IsTuple l items) (hb : s.heap.IsTuple b items2) (hroom : A.units < cLine)
    (o : Ord (model prog w) A.in1 op s (wants (fun v s' => v ≠ .notImplemented ∧ Q v s') E) items.size items2.size items.toList items2.toList) : wpAny (model prog w) A (richCompare op (.ref l) (.ref b)) Q E s := by
  have ta := hl.typeIs
  have tb := hb.typeIs
  obtain ⟨⟨c1, d1, t1, l1⟩, g1, rfl, n1, rfl⟩ := hl
  obtain ⟨⟨c2, d2, t2, l2⟩, g2, rfl, n2, rfl⟩ := hb
  have f3 : isSubtype (.type "tuple") (.type "tuple") = pure true := by rw [isSubtype_type]; kernel_rfl
  rcases hop with rfl | rfl
  · refine wpAny_richCompare_same_room ta tb F.slot_tuple_lt (wpAny_call (codeAny_call_builtin F.slot_tuple_lt.plain F.entry_tuple_lt (F.slot_tuple_lt.check _ _ _ _ _ _ _ _ ta (F.args_tuple_lt_2 _ _) ?_))) hroom
    wp_walk using isInst_of tb f3, wpAny_loadPart' g1, wpAny_loadPart' g2, tup_loop o
    · intro x y b; rfl
    · intro h; exact wpAny_pure h
    · intro v s' h; exact wpAny_pure h
    · intro e s' h; exact h
  · refine wpAny_richCompare_same_room ta tb F.slot_tuple_gt (wpAny_call (codeAny_call_builtin F.slot_tuple_gt.plain F.entry_tuple_gt (F.slot_tuple_gt.check _ _ _ _ _ _ _ _ ta (F.args_tuple_gt_2 _ _) ?_))) hroom
    wp_walk using isInst_of tb f3, wpAny_loadPart' g1, wpAny_loadPart' g2, tup_loop o
    · intro x y b; rfl
    · intro h; exact wpAny_pure h
    · intro v s' h; exact wpAny_pure h
    · intro e s' h; exact h
end
end Mine

namespace Mine
open PySem.SeqAt PySem.MeetsSeq

/-! ## plans, and the things that they say -/
inductive Plan where
  | num (n : Int)
  | text (cs : List Nat)
  | set (a b c d : Bool)
  | none
  | table (a b v : Bool)
  | list (ps : List Plan)
  | tup (ps : List Plan)

def setKs (a b c d : Bool) : List Int := (if a then [0] else []) ++ (if b then [1] else []) ++ (if c then [2] else []) ++ (if d then [3] else [])
def tabKs (a b : Bool) : List Int := (if a then [0] else []) ++ (if b then [1] else [])
def b2n (v : Bool) : Int := if v then 1 else 0
def tabKvs (a b v : Bool) : List (Int × Int) := (tabKs a b).map fun k => (k, b2n v)

mutual
def peq : Plan → Plan → Bool
  | .num a, .num b => a == b
  | .text a, .text b => a == b
  | .set a b c d, .set a' b' c' d' => setKs a b c d == setKs a' b' c' d'
  | .none, .none => true
  | .table a b v, .table a' b' v' => tabKvs a b v == tabKvs a' b' v'
  | .list xs, .list ys => peqs xs ys
  | .tup xs, .tup ys => peqs xs ys
  | _, _ => false
def peqs : List Plan → List Plan → Bool
  | [], [] => true
  | x :: xs, y :: ys => peq x y && peqs xs ys
  | _, _ => false
end

def sgn (n : Int) : Int := if n > 0 then 1 else if n < 0 then -1 else 0
def cmpText : List Nat → List Nat → Int
  | x :: xs, y :: ys => if x = y then cmpText xs ys else sgn ((x : Int) - y)
  | xs, ys => sgn ((xs.length : Int) - ys.length)
def cmpSet (ks ls : List Int) : Int :=
  if ks.any (fun k => !decide (k ∈ ls)) && ls.any (fun k => !decide (k ∈ ks)) then 0
  else (if ks.any (fun k => !decide (k ∈ ls)) then 1 else 0) - (if ls.any (fun k => !decide (k ∈ ks)) then 1 else 0)
mutual
def cmpP : Plan → Plan → Option Int
  | .num a, .num b => some (sgn (a - b))
  | .text a, .text b => some (cmpText a b)
  | .set a b c d, .set a' b' c' d' => some (cmpSet (setKs a b c d) (setKs a' b' c' d'))
  | .list xs, .list ys => cmpL xs ys
  | .tup xs, .tup ys => cmpL xs ys
  | _, _ => none
def cmpL : List Plan → List Plan → Option Int
  | x :: xs, y :: ys => if peq x y then cmpL xs ys else cmpP x y
  | [], ys => some (sgn (0 - (ys.length : Int)))
  | x :: xs, [] => some (sgn ((x :: xs).length : Int))
end
mutual
def deep : Plan → Nat
  | .list ps => deeps ps + 1
  | .tup ps => deeps ps + 1
  | _ => 0
def deeps : List Plan → Nat
  | [] => 0
  | p :: ps => max (deep p) (deeps ps)
end

def TabVal : Bool → Bool → Value → Prop
  | false, v, x => ∃ t, x = .int (b2n v) t
  | true, v, x => x = .bool v
def TabAt (h : Heap) (way : Bool) (a : Addr) (ks : List Int) (v : Bool) : Prop :=
  IsRefOf h "dict" (.ref a) ∧ ∃ kvs : List (Int × Value), (∀ prog w, h.DictOf (intKind prog w) a kvs) ∧ kvs.map (·.1) = (if way then ks.reverse else ks) ∧ ∀ p ∈ kvs, TabVal way v p.2

mutual
inductive TAt (h : Heap) (lo : Addr) (way : Bool) : Value → Plan → Prop
  | num0 {n : Int} {t : Tok} : way = false → TAt h lo way (.int n t) (.num n)
  | num1 {n : Int} {t : Tok} : way = true → TAt h lo way (.int n t) (.num n)
  | numB {b : Bool} : way = true → TAt h lo way (.bool b) (.num (b2n b))
  | text {x : Str} {t : Tok} : TAt h lo way (.str x t) (.text x.cps.toList)
  | none : TAt h lo way .none .none
  | set {a : Addr} {b1 b2 b3 b4 : Bool} : lo ≤ a → SetAt h (if way then "frozenset" else "set") a (setKs b1 b2 b3 b4) → TAt h lo way (.ref a) (.set b1 b2 b3 b4)
  | table {a : Addr} {b1 b2 v : Bool} : lo ≤ a → TabAt h way a (tabKs b1 b2) v → TAt h lo way (.ref a) (.table b1 b2 v)
  | list {a : Addr} {vs : Array Value} {ps : List Plan} : lo ≤ a → h.IsList a vs → TAll h lo way vs.toList ps → TAt h lo way (.ref a) (.list ps)
  | tup {a : Addr} {vs : Array Value} {ps : List Plan} : lo ≤ a → h.IsTuple a vs → TAll h lo way vs.toList ps → TAt h lo way (.ref a) (.tup ps)
inductive TAll (h : Heap) (lo : Addr) (way : Bool) : List Value → List Plan → Prop
  | nil : TAll h lo way [] []
  | cons {v : Value} {p : Plan} {vs : List Value} {ps : List Plan} : TAt h lo way v p → TAll h lo way vs ps → TAll h lo way (v :: vs) (p :: ps)
end

def Plan.fam : Plan → Nat
  | .num _ => 0 | .text _ => 1 | .set .. => 2 | .none => 3 | .table .. => 4 | .list _ => 5 | .tup _ => 6

theorem TabAt.ref {h : Heap} {way : Bool} {a : Addr} {ks : List Int} {v : Bool} (x : TabAt h way a ks v) : IsRefOf h "dict" (.ref a) := x.1
theorem IsList.ref {h : Heap} {a : Addr} {vs : Array Value} (x : h.IsList a vs) : IsRefOf h "list" (.ref a) := by
  obtain ⟨o, ho, hc, n, hd⟩ := x
  exact ⟨a, o, rfl, ho, hc, fun p e => by rw [hd] at e; cases e⟩
theorem IsTuple.ref {h : Heap} {a : Addr} {vs : Array Value} (x : h.IsTuple a vs) : IsRefOf h "tuple" (.ref a) := by
  obtain ⟨o, ho, hc, n, hd⟩ := x
  exact ⟨a, o, rfl, ho, hc, fun p e => by rw [hd] at e; cases e⟩

theorem TAt.kind {h : Heap} {lo : Addr} {way : Bool} {v : Value} {p : Plan} (x : TAt h lo way v p) : ∃ k : Kd, VK h k v ∧ k.fam = p.fam ∧ (p.fam = 3 → k = .none) ∧ (p.fam = 4 → k = .dict) := by
  cases x with
  | num0 _ => exact ⟨.int, ⟨_, _, rfl⟩, rfl, nofun, nofun⟩
  | num1 _ => exact ⟨.int, ⟨_, _, rfl⟩, rfl, nofun, nofun⟩
  | numB _ => exact ⟨.bool, ⟨_, rfl⟩, rfl, nofun, nofun⟩
  | text => exact ⟨.str, ⟨_, _, rfl⟩, rfl, nofun, nofun⟩
  | none => exact ⟨.none, rfl, rfl, fun _ => rfl, nofun⟩
  | set _ hs => cases way with
    | false => exact ⟨.set, hs.ref, rfl, nofun, nofun⟩
    | true => exact ⟨.fset, hs.ref, rfl, nofun, nofun⟩
  | table _ hs => exact ⟨.dict, hs.ref, rfl, nofun, fun _ => rfl⟩
  | list _ hl _ => exact ⟨.list, IsList.ref hl, rfl, nofun, nofun⟩
  | tup _ hl _ => exact ⟨.tup, IsTuple.ref hl, rfl, nofun, nofun⟩

theorem TAll.length {h : Heap} {lo : Addr} {way : Bool} : ∀ {vs : List Value} {ps : List Plan}, TAll h lo way vs ps → vs.length = ps.length
  | _, _, .nil => rfl
  | _, _, .cons _ r => by rw [List.length_cons, List.length_cons, r.length]

theorem peq_fam : ∀ p q : Plan, p.fam ≠ q.fam → peq p q = false := by
  intro p q h
  cases p <;> cases q <;> first | exact absurd rfl h | rfl
theorem cmpP_fam : ∀ p q : Plan, p.fam ≠ q.fam ∨ p.fam = 3 ∨ p.fam = 4 → cmpP p q = Option.none := by
  intro p q h
  cases p <;> cases q <;> first | rfl | (rcases h with h | h | h; exact absurd rfl h; cases h; cases h)
end Mine

namespace Mine
open PySem.SeqAt PySem.MeetsSeq

def Keep (h h' : Heap) : Prop := ∀ b o, h.get? b = some o → h'.get? b = some o
theorem Keep.refl (h : Heap) : Keep h h := fun _ _ e => e
theorem Keep.trans {h h' h'' : Heap} (x : Keep h h') (y : Keep h' h'') : Keep h h'' := fun b o e => y b o (x b o e)

theorem DictOf.keep {prog : Program} {w : World} {h h' : Heap} {a : Addr} {kvs : List (Int × Value)} (x : h.DictOf (intKind prog w) a kvs) (hk : ∀ o, h.get? a = some o → h'.get? a = some o) : h'.DictOf (intKind prog w) a kvs := by
  obtain ⟨o, es, ep, ho, r⟩ := x
  exact ⟨o, es, ep, hk _ ho, r⟩
theorem IsRefOf.keep {h h' : Heap} {T : String} {v : Value} (x : IsRefOf h T v) (hk : ∀ a o, v = .ref a → h.get? a = some o → h'.get? a = some o) : IsRefOf h' T v := by
  obtain ⟨a, o, e, ho, r⟩ := x
  exact ⟨a, o, e, hk a o e ho, r⟩
theorem TabAt.keep {h h' : Heap} {way : Bool} {a : Addr} {ks : List Int} {v : Bool} (x : TabAt h way a ks v) (hk : ∀ o, h.get? a = some o → h'.get? a = some o) : TabAt h' way a ks v := by
  obtain ⟨hr, kvs, hd, r⟩ := x
  exact ⟨hr.keep fun b o e ho => by cases e; exact hk _ ho, kvs, fun prog w => Mine.DictOf.keep (hd prog w) hk, r⟩
theorem IsList.keep {h h' : Heap} {a : Addr} {vs : Array Value} (x : h.IsList a vs) (hk : ∀ o, h.get? a = some o → h'.get? a = some o) : h'.IsList a vs := by
  obtain ⟨o, ho, r⟩ := x; exact ⟨o, hk _ ho, r⟩
theorem IsTuple.keep {h h' : Heap} {a : Addr} {vs : Array Value} (x : h.IsTuple a vs) (hk : ∀ o, h.get? a = some o → h'.get? a = some o) : h'.IsTuple a vs := by
  obtain ⟨o, ho, r⟩ := x; exact ⟨o, hk _ ho, r⟩

mutual
/-- what lies at lo and above is kept, and the bound may fall -/
theorem TAt.keep {h h' : Heap} {lo lo' : Addr} {way : Bool} (hl : lo' ≤ lo) (hk : ∀ b o, lo ≤ b → h.get? b = some o → h'.get? b = some o) : ∀ {v : Value} {p : Plan}, TAt h lo way v p → TAt h' lo' way v p
  | _, _, .num0 e => .num0 e
  | _, _, .num1 e => .num1 e
  | _, _, .numB e => .numB e
  | _, _, .text => .text
  | _, _, .none => .none
  | _, _, .set h1 h2 => .set (Nat.le_trans hl h1) (h2.keeps fun o ho => hk _ o h1 ho)
  | _, _, .table h1 h2 => .table (Nat.le_trans hl h1) (h2.keep fun o ho => hk _ o h1 ho)
  | _, _, .list h1 h2 h3 => .list (Nat.le_trans hl h1) (IsList.keep h2 fun o ho => hk _ o h1 ho) (TAll.keep hl hk h3)
  | _, _, .tup h1 h2 h3 => .tup (Nat.le_trans hl h1) (IsTuple.keep h2 fun o ho => hk _ o h1 ho) (TAll.keep hl hk h3)
theorem TAll.keep {h h' : Heap} {lo lo' : Addr} {way : Bool} (hl : lo' ≤ lo) (hk : ∀ b o, lo ≤ b → h.get? b = some o → h'.get? b = some o) : ∀ {vs : List Value} {ps : List Plan}, TAll h lo way vs ps → TAll h' lo' way vs ps
  | _, _, .nil => .nil
  | _, _, .cons x r => .cons (TAt.keep hl hk x) (TAll.keep hl hk r)
end
theorem TAt.keeps {h h' : Heap} {lo : Addr} {way : Bool} {v : Value} {p : Plan} (x : TAt h lo way v p) (hk : Keep h h') : TAt h' lo way v p := x.keep (Nat.le_refl _) fun b o _ e => hk b o e
theorem TAll.keeps {h h' : Heap} {lo : Addr} {way : Bool} {v : List Value} {p : List Plan} (x : TAll h lo way v p) (hk : Keep h h') : TAll h' lo way v p := x.keep (Nat.le_refl _) fun b o _ e => hk b o e

theorem TAll.get {h : Heap} {lo : Addr} {way : Bool} : ∀ {vs : List Value} {ps : List Plan}, TAll h lo way vs ps → ∀ (j : Nat) (v : Value), vs[j]? = some v → ∃ p, ps[j]? = some p ∧ TAt h lo way v p
  | _, _, .nil, j, v, e => by simp at e
  | _, _, .cons x r, 0, v, e => by simp at e; subst e; exact ⟨_, rfl, x⟩
  | _, _, .cons x r, j + 1, v, e => by simpa using r.get j v (by simpa using e)

theorem peqs_len : ∀ ps qs : List Plan, ps.length ≠ qs.length → peqs ps qs = false
  | [], [], h => absurd rfl h
  | [], _ :: _, _ => rfl
  | _ :: _, [], _ => rfl
  | p :: ps, q :: qs, h => by
    have := peqs_len ps qs (fun e => h (by rw [List.length_cons, List.length_cons, e]))
    simp [peqs, this]
theorem peqs_range : ∀ ps qs : List Plan, ps.length = qs.length → (List.range ps.length).all (fun j => peq (ps.getD j .none) (qs.getD j .none)) = peqs ps qs
  | [], [], _ => rfl
  | [], _ :: _, h => by cases h
  | _ :: _, [], h => by cases h
  | p :: ps, q :: qs, h => by
    rw [List.length_cons, List.range_succ_eq_map, List.all_cons, List.all_map]
    have := peqs_range ps qs (by simpa using h)
    simp only [peqs, List.getD_cons_zero]
    rw [← this]
    rfl

theorem setEqB : ∀ a b c d a' b' c' d' : Bool, (decide ((setKs a b c d).length = (setKs a' b' c' d').length) && (setKs a b c d).all (fun k => decide (k ∈ setKs a' b' c' d'))) = (setKs a b c d == setKs a' b' c' d') := by decide +kernel
theorem setGtB : ∀ a b c d a' b' c' d' : Bool, (decide ((setKs a' b' c' d').length < (setKs a b c d).length) && (setKs a' b' c' d').all (fun k => decide (k ∈ setKs a b c d))) = decide (cmpSet (setKs a b c d) (setKs a' b' c' d') > 0) := by decide +kernel
theorem setLtB : ∀ a b c d a' b' c' d' : Bool, (decide ((setKs a b c d).length < (setKs a' b' c' d').length) && (setKs a b c d).all (fun k => decide (k ∈ setKs a' b' c' d'))) = decide (cmpSet (setKs a b c d) (setKs a' b' c' d') < 0) := by decide +kernel

theorem map_fst_two {kvs : List (Int × Value)} {a b : Int} (h : kvs.map (·.1) = [a, b]) : ∃ x y, kvs = [(a, x), (b, y)] := by
  match kvs, h with
  | [(_, x), (_, y)], h => simp at h; obtain ⟨rfl, rfl⟩ := h; exact ⟨x, y, rfl⟩
theorem map_fst_one {kvs : List (Int × Value)} {a : Int} (h : kvs.map (·.1) = [a]) : ∃ x, kvs = [(a, x)] := by
  match kvs, h with
  | [(_, x)], h => simp at h; subst h; exact ⟨x, rfl⟩
theorem map_fst_nil {kvs : List (Int × Value)} (h : kvs.map (·.1) = []) : kvs = [] := by simpa using h

section
variable {A : Around} {s : Shared}
theorem tabVal_eq {v v' : Bool} {x y : Value} (hx : TabVal false v x) (hy : TabVal true v' y) : EqAt A s x y (v == v') := by
  obtain ⟨t, rfl⟩ := hx
  cases hy
  have := EqAt.int_bool (A := A) (s := s) (b2n v) t v'
  have e : (b2n v == (if v' = true then (1 : Int) else 0)) = (v == v') := by cases v <;> cases v' <;> rfl
  rwa [e] at this

theorem tab_hits {ks ls : List Int} {kvs kvs' : List (Int × Value)} {v v' : Bool} (h1 : kvs.map (·.1) = ks) (h2 : kvs'.map (·.1) = ls.reverse) (hv : ∀ p ∈ kvs, TabVal false v p.2) (hv' : ∀ p ∈ kvs', TabVal true v' p.2)
    (hks : ks = [] ∨ ks = [0] ∨ ks = [1] ∨ ks = [0, 1]) (hls : ls = [] ∨ ls = [0] ∨ ls = [1] ∨ ls = [0, 1]) (hlen : kvs.length = kvs'.length) :
    KeqHits A s kvs' kvs (ks.map (fun k => (k, b2n v)) == ls.map (fun k => (k, b2n v'))) := by
  rcases hks with rfl | rfl | rfl | rfl <;> rcases hls with rfl | rfl | rfl | rfl
  all_goals (simp only [List.reverse_nil, List.reverse_cons, List.nil_append, List.cons_append] at h2)
  all_goals (first
    | (have k1 := map_fst_nil h1; subst k1)
    | (obtain ⟨x1, k1⟩ := map_fst_one h1; subst k1)
    | (obtain ⟨x1, x2, k1⟩ := map_fst_two h1; subst k1))
  all_goals (first
    | (have k2 := map_fst_nil h2; subst k2)
    | (obtain ⟨y1, k2⟩ := map_fst_one h2; subst k2)
    | (obtain ⟨y1, y2, k2⟩ := map_fst_two h2; subst k2))
  all_goals (first | (exfalso; simp at hlen; done) | skip)
  · exact KeqHits.nil
  · have := KeqHits.hit (A := A) (s := s) (kb := [((0 : Int), y1)]) (k := 0) rfl (tabVal_eq (hv _ (List.mem_cons_self ..)) (hv' _ (List.mem_cons_self ..))) KeqHits.nil
    revert this; cases v <;> cases v' <;> exact fun h => h
  · exact KeqHits.miss rfl
  · exact KeqHits.miss rfl
  · have := KeqHits.hit (A := A) (s := s) (kb := [((1 : Int), y1)]) (k := 1) rfl (tabVal_eq (hv _ (List.mem_cons_self ..)) (hv' _ (List.mem_cons_self ..))) KeqHits.nil
    revert this; cases v <;> cases v' <;> exact fun h => h
  · have := KeqHits.hit (A := A) (s := s) (kb := [((1 : Int), y1), ((0 : Int), y2)]) (k := 0) rfl (tabVal_eq (hv _ (List.mem_cons_self ..)) (hv' (0, y2) (by simp)))
      (KeqHits.hit (k := 1) rfl (tabVal_eq (hv (1, x2) (by simp)) (hv' (1, y1) (by simp))) KeqHits.nil)
    revert this; cases v <;> cases v' <;> exact fun h => h

theorem tabKs_cases (a b : Bool) : tabKs a b = [] ∨ tabKs a b = [0] ∨ tabKs a b = [1] ∨ tabKs a b = [0, 1] := by cases a <;> cases b <;> decide

theorem tab_eq_at {a b : Addr} {b1 b2 v b1' b2' v' : Bool} (ha : TabAt s.heap false a (tabKs b1 b2) v) (hb : TabAt s.heap true b (tabKs b1' b2') v') (hA : sysModules < a) (hB : sysModules < b) (hroom : A.units < cLine) :
    RcAt A s (.ref a) (.ref b) (tabKvs b1 b2 v == tabKvs b1' b2' v') := fun prog w E Q h => by
  obtain ⟨_, kvs, hd, hk, hv⟩ := ha
  obtain ⟨_, kvs', hd', hk', hv'⟩ := hb
  simp only [Bool.false_eq_true, if_false, if_true] at hk hk'
  refine keq_eq (knd := intKind prog w) (ka := kvs) (kb := kvs') (r := tabKvs b1 b2 v == tabKvs b1' b2' v') (by simpa using Nat.ne_of_gt hA) (by simpa using Nat.ne_of_gt hB) (hd prog w) (hd' prog w) hroom (fun hl => tab_hits hk hk' hv hv' (tabKs_cases _ _) (tabKs_cases _ _) hl) ?_
  have e1 : kvs.length = (tabKs b1 b2).length := by rw [← hk, List.length_map]
  have e2 : kvs'.length = (tabKs b1' b2').length := by rw [← List.length_reverse (as := tabKs b1' b2'), ← hk', List.length_map]
  rw [e1, e2]
  have : ((tabKs b1 b2).length == (tabKs b1' b2').length && (tabKvs b1 b2 v == tabKvs b1' b2' v')) = (tabKvs b1 b2 v == tabKvs b1' b2' v') := by
    cases b1 <;> cases b2 <;> cases v <;> cases b1' <;> cases b2' <;> cases v' <;> rfl
  rw [this]; exact h
end
end Mine

namespace Mine
open PySem.SeqAt PySem.MeetsSeq

theorem deep_le_deeps : ∀ {ps : List Plan} {p : Plan}, p ∈ ps → deep p ≤ deeps ps
  | q :: ps, p, h => by
    rcases List.mem_cons.mp h with rfl | h
    · exact Nat.le_max_left ..
    · exact Nat.le_trans (deep_le_deeps h) (Nat.le_max_right ..)

theorem refs_apart {h : Heap} {T : String} {a b : Addr} {lo' : Addr} (x : IsRefOf h T (.ref a)) (hlo : h.objs.size ≤ lo') (hb : lo' ≤ b) : a ≠ b := by
  obtain ⟨a', o, e, ho, _⟩ := x
  cases e
  exact Nat.ne_of_lt (Nat.lt_of_lt_of_le (Heap.lt_size ho) (Nat.le_trans hlo hb))

theorem eq_thing : ∀ (n : Nat) (p q : Plan), sizeOf p < n → ∀ {A : Around} {s : Shared} {h1 : Heap} {v u : Value} {lo lo' : Addr}, TAt h1 lo false v p → TAt s.heap lo' true u q → Keep h1 s.heap → h1.objs.size ≤ lo' →
    sysModules < lo → sysModules < lo' → A.units + deep p < cLine → EqAt A s v u (peq p q) := by
  intro n
  induction n with
  | zero => intro p q h; exact absurd h (Nat.not_lt_zero _)
  | succ n ih =>
    intro p q hn A s h1 v u lo lo' hv hu hk hlo hs1 hs2 hr
    have hroom : A.units < cLine := by omega
    by_cases hf : p.fam = q.fam
    case neg =>
      obtain ⟨k, hk1, hk2, _⟩ := (hv.keeps hk).kind
      obtain ⟨k', hk1', hk2', _⟩ := hu.kind
      rw [peq_fam p q hf]
      exact eqAt_mixed hroom hk1 hk1' (by rw [hk2, hk2']; exact hf)
    case pos =>
      cases hv with
      | num1 e => cases e
      | numB e => cases e
      | @num0 a t _ =>
        cases hu with
        | num0 e => cases e
        | @num1 b t' _ => exact EqAt.int_int a t b t'
        | @numB b _ =>
          have := EqAt.int_bool (A := A) (s := s) a t b
          exact this
        | _ => cases hf
      | @text x t =>
        cases hu with
        | @text y t' =>
          have := EqAt.str_str (A := A) (s := s) x t y t'
          rw [← str_beq] at this
          exact this
        | _ => cases hf
      | none =>
        cases hu with
        | none => exact EqAt.same _
        | _ => cases hf
      | @set a b1 b2 b3 b4 ha hs =>
        cases hu with
        | @set b c1 c2 c3 c4 hb hs' =>
          refine EqAt.of_refs (refs_apart hs.ref hlo hb) fun prog w E Q h => ?_
          exact set_eq_at (hs.keeps fun o ho => hk _ _ ho) hs' hroom (by rw [setEqB]; exact h)
        | _ => cases hf
      | @table a b1 b2 v ha hs =>
        cases hu with
        | @table b c1 c2 v' hb hs' =>
          exact EqAt.of_refs (refs_apart hs.ref hlo hb) (tab_eq_at (hs.keep fun o ho => hk _ _ ho) hs' (Nat.lt_of_lt_of_le hs1 ha) (Nat.lt_of_lt_of_le hs2 hb) hroom)
        | _ => cases hf
      | @list a vs ps ha hl hall =>
        cases hu with
        | @list b us qs hb hl' hall' =>
          have hl1 : s.heap.IsList a vs := IsList.keep hl fun o ho => hk _ _ ho
          have e1 : vs.size = ps.length := by simpa using hall.length
          have e2 : us.size = qs.length := by simpa using hall'.length
          have he : ∀ j (j1 : j < vs.size) (j2 : j < us.size), EqAt A.in1 s vs[j] us[j] (peq (ps.getD j .none) (qs.getD j .none)) := fun j j1 j2 => by
            obtain ⟨p, hp, hp'⟩ := hall.get j vs[j] (by simp [j1])
            obtain ⟨q, hq, hq'⟩ := hall'.get j us[j] (by simp [j2])
            rw [List.getD_eq_getElem?_getD, List.getD_eq_getElem?_getD, hp, hq]
            have hmem : p ∈ ps := List.mem_of_getElem? hp
            have hd := deep_le_deeps hmem
            have hsz : sizeOf p < sizeOf ps := List.sizeOf_lt_of_mem hmem
            refine ih p q (by simp only [Plan.list.sizeOf_spec] at hn; omega) hp' hq' hk hlo hs1 hs2 ?_
            simp only [deep] at hr
            show A.units + 1 + _ < _; omega
          refine EqAt.of_refs (refs_apart (IsList.ref hl) hlo hb) ?_
          show RcAt A s _ _ (peqs ps qs)
          by_cases hsz : ps.length = qs.length
          · rw [← peqs_range ps qs hsz, ← e1]
            exact RcAt.lists hl1 hl' (by rw [e1, e2, hsz]) hroom he
          · rw [peqs_len ps qs hsz]
            exact RcAt.lists_lengths hl1 hl' (by rw [e1, e2]; simpa using hsz) hroom
        | _ => cases hf
      | @tup a vs ps ha hl hall =>
        cases hu with
        | @tup b us qs hb hl' hall' =>
          have hl1 : s.heap.IsTuple a vs := IsTuple.keep hl fun o ho => hk _ _ ho
          have e1 : vs.size = ps.length := by simpa using hall.length
          have e2 : us.size = qs.length := by simpa using hall'.length
          have he : ∀ j (j1 : j < vs.size) (j2 : j < us.size), EqAt A.in1 s vs[j] us[j] (peq (ps.getD j .none) (qs.getD j .none)) := fun j j1 j2 => by
            obtain ⟨p, hp, hp'⟩ := hall.get j vs[j] (by simp [j1])
            obtain ⟨q, hq, hq'⟩ := hall'.get j us[j] (by simp [j2])
            rw [List.getD_eq_getElem?_getD, List.getD_eq_getElem?_getD, hp, hq]
            have hmem : p ∈ ps := List.mem_of_getElem? hp
            have hd := deep_le_deeps hmem
            have hsz : sizeOf p < sizeOf ps := List.sizeOf_lt_of_mem hmem
            refine ih p q (by simp only [Plan.tup.sizeOf_spec] at hn; omega) hp' hq' hk hlo hs1 hs2 ?_
            simp only [deep] at hr
            show A.units + 1 + _ < _; omega
          refine EqAt.of_refs (refs_apart (IsTuple.ref hl) hlo hb) ?_
          have := RcAt.tuples hl1 hl' hroom he
          have e3 : ((List.range (min vs.size us.size)).all (fun j => peq (ps.getD j .none) (qs.getD j .none)) && vs.size == us.size) = peq (.tup ps) (.tup qs) := by
            show _ = peqs ps qs
            by_cases hsz : ps.length = qs.length
            · rw [← peqs_range ps qs hsz, e1, e2, ← hsz, Nat.min_self]; simp
            · rw [peqs_len ps qs hsz, e1, e2]; simp [hsz]
          rw [e3] at this
          exact this
        | _ => cases hf

/-! ## order -/
def verdict (op : CmpOp) (c : Int) : Bool := match op with
  | .Gt => decide (c > 0)
  | _ => decide (c < 0)

theorem sgn_pos (n : Int) : (sgn n > 0) ↔ n > 0 := by
  unfold sgn
  by_cases h : n > 0
  · rw [if_pos h]; omega
  · rw [if_neg h]
    by_cases h2 : n < 0
    · rw [if_pos h2]; omega
    · rw [if_neg h2]; omega
theorem sgn_neg (n : Int) : (sgn n < 0) ↔ n < 0 := by
  unfold sgn
  by_cases h : n > 0
  · rw [if_pos h]; omega
  · rw [if_neg h]
    by_cases h2 : n < 0
    · rw [if_pos h2]; omega
    · rw [if_neg h2]; omega

theorem cmpText_lt_iff : ∀ xs ys : List Nat, xs < ys ↔ cmpText xs ys < 0
  | [], [] => by
    rw [cmpText, sgn_neg]
    · simp
    · simp
  | [], y :: ys => by
    rw [cmpText, sgn_neg]
    · simp only [List.length_nil, List.length_cons, List.nil_lt_cons, true_iff]; omega
    · simp
  | x :: xs, [] => by
    rw [cmpText, sgn_neg]
    · simp only [List.length_nil, List.length_cons, List.not_lt_nil, false_iff]; omega
    · simp
  | x :: xs, y :: ys => by
    have ih := cmpText_lt_iff xs ys
    rw [cmpText, List.cons_lt_cons_iff]
    by_cases h : x = y
    · subst h
      rw [if_pos rfl, ← ih]
      simp
    · rw [if_neg h, sgn_neg]
      constructor
      · rintro (h1 | ⟨h1, _⟩)
        · omega
        · exact absurd h1 h
      · intro h1; left; omega
theorem cmpText_gt_iff : ∀ xs ys : List Nat, ys < xs ↔ cmpText xs ys > 0
  | [], [] => by
    rw [cmpText, sgn_pos]
    · simp
    · simp
  | [], y :: ys => by
    rw [cmpText, sgn_pos]
    · simp only [List.length_nil, List.length_cons, List.not_lt_nil, false_iff]; omega
    · simp
  | x :: xs, [] => by
    rw [cmpText, sgn_pos]
    · simp only [List.length_nil, List.length_cons, List.nil_lt_cons, true_iff]; omega
    · simp
  | x :: xs, y :: ys => by
    have ih := cmpText_gt_iff xs ys
    rw [cmpText, List.cons_lt_cons_iff]
    by_cases h : x = y
    · subst h
      rw [if_pos rfl, ← ih]
      simp
    · rw [if_neg h, sgn_pos]
      constructor
      · rintro (h1 | ⟨h1, _⟩)
        · omega
        · exact absurd h1.symm h
      · intro h1; left; omega
theorem cmpText_lt (xs ys : List Nat) : decide (xs < ys) = decide (cmpText xs ys < 0) := decide_eq_decide.mpr (cmpText_lt_iff xs ys)
theorem cmpText_gt (xs ys : List Nat) : decide (ys < xs) = decide (cmpText xs ys > 0) := decide_eq_decide.mpr (cmpText_gt_iff xs ys)

section
variable {prog : Program} {w : World}

/-- what richCompare op says of two things -/
def RcSays (prog : Program) (w : World) (op : CmpOp) (A : Around) (s : Shared) (v u : Value) (c : Option Int) : Prop :=
  ∀ (Q E : Value → Shared → Prop), (∀ n, c = some n → Q (.bool (verdict op n)) s) →
    (c = none → ∀ h' tk e, Heap.NewExc s.heap h' e "TypeError" → E (.ref e) { s with heap := h', toks := tk }) → wpAny (model prog w) A (richCompare op v u) Q E s

theorem rc_num_bool {A : Around} {s : Shared} {op : CmpOp} (hop : op = .Lt ∨ op = .Gt) {a : Int} {t : Tok} {b : Bool} {Q E : Value → Shared → Prop} (h : Q (.bool (verdict op (sgn (a - b2n b)))) s) :
    wpAny (model prog w) A (richCompare op (.int a t) (.bool b)) Q E s := by
  rcases hop with rfl | rfl
  · refine rc_sub_first_or (typeIs_int s a t) rfl (by decide) F.sub_bool_int F.slot_bool_gt_refl (wpAny_call_entry F.slot_bool_gt_refl rfl F.entry_int_gt ?_ (F.args_int_gt_2 _ _)) (.inl rfl)
    wp_walk
    refine ⟨_, rfl, nofun, ?_⟩
    have e : decide ((if b = true then (1 : Int) else 0) > a) = verdict .Lt (sgn (a - b2n b)) := by
      simp only [verdict]; rw [decide_eq_decide, sgn_neg]; cases b <;> simp [b2n] <;> omega
    show Q (.bool (decide ((if b = true then (1 : Int) else 0) > a))) _
    rw [e]; exact h
  · refine rc_sub_first_or (typeIs_int s a t) rfl (by decide) F.sub_bool_int F.slot_bool_lt_refl (wpAny_call_entry F.slot_bool_lt_refl rfl F.entry_int_lt ?_ (F.args_int_lt_2 _ _)) (.inl rfl)
    wp_walk
    refine ⟨_, rfl, nofun, ?_⟩
    have e : decide ((if b = true then (1 : Int) else 0) < a) = verdict .Gt (sgn (a - b2n b)) := by
      simp only [verdict]; rw [decide_eq_decide, sgn_pos]; cases b <;> simp [b2n] <;> omega
    show Q (.bool (decide ((if b = true then (1 : Int) else 0) < a))) _
    rw [e]; exact h

theorem ord_of {A : Around} {s : Shared} {op : CmpOp} (hop : op = .Lt ∨ op = .Gt) {h1 : Heap} {lo lo' : Addr} {n m : Nat} {Q E : Value → Shared → Prop} :
    ∀ {ps qs : List Plan} {vs us : List Value}, TAll h1 lo false vs ps → TAll s.heap lo' true us qs →
      (∀ p q v u, p ∈ ps → TAt h1 lo false v p → TAt s.heap lo' true u q → EqAt A s v u (peq p q)) →
      (∀ p q v u, p ∈ ps → TAt h1 lo false v p → TAt s.heap lo' true u q → RcSays prog w op A s v u (cmpP p q)) →
      (n : Int) - m = ps.length - qs.length →
      (∀ c, cmpL ps qs = some c → Q (.bool (verdict op c)) s) →
      (cmpL ps qs = none → ∀ h' tk e, Heap.NewExc s.heap h' e "TypeError" → E (.ref e) { s with heap := h', toks := tk }) →
      Ord (model prog w) A op s (wants (fun v s' => v ≠ .notImplemented ∧ Q v s') E) n m vs us
  | [], qs, _, us, .nil, hu, _, _, hnm, hq, _ => by
    refine .done (.inl rfl) ⟨nofun, ?_⟩
    have := hq _ (by rw [cmpL])
    have e : verdict op (sgn (0 - (qs.length : Int))) = sizesBy op n m := by
      rcases hop with rfl | rfl
      · simp only [verdict, sizesBy]; rw [decide_eq_decide, sgn_neg]; simp only [List.length_nil] at hnm; omega
      · simp only [verdict, sizesBy]; rw [decide_eq_decide, sgn_pos]; simp only [List.length_nil] at hnm; omega
    rw [← e]; exact this
  | p :: ps, [], _, _, .cons hv hvs, .nil, _, _, hnm, hq, _ => by
    refine .done (.inr rfl) ⟨nofun, ?_⟩
    have := hq _ (by rw [cmpL])
    have e : verdict op (sgn ((p :: ps).length : Int)) = sizesBy op n m := by
      rcases hop with rfl | rfl
      · simp only [verdict, sizesBy]; rw [decide_eq_decide, sgn_neg]; simp only [List.length_nil] at hnm; omega
      · simp only [verdict, sizesBy]; rw [decide_eq_decide, sgn_pos]; simp only [List.length_nil] at hnm; omega
    rw [← e]; exact this
  | p :: ps, q :: qs, _, _, .cons hv hvs, .cons hu hus, heq, hrc, hnm, hq, he => by
    have h1 := heq p q _ _ (List.mem_cons_self ..) hv hu
    cases hpq : peq p q with
    | true =>
      rw [hpq] at h1
      refine .eq h1 (ord_of hop hvs hus (fun p' q' v' u' hm => heq p' q' v' u' (List.mem_cons_of_mem _ hm)) (fun p' q' v' u' hm => hrc p' q' v' u' (List.mem_cons_of_mem _ hm)) ?_ (fun c hc => hq c (by rw [cmpL, if_pos hpq]; exact hc)) (fun hc => he (by rw [cmpL, if_pos hpq]; exact hc)))
      simp only [List.length_cons] at hnm; omega
    | false =>
      rw [hpq] at h1
      have e : cmpL (p :: ps) (q :: qs) = cmpP p q := by rw [cmpL, if_neg (by rw [hpq]; decide)]
      refine .ne h1 (hrc p q _ _ (List.mem_cons_self ..) hv hu _ _ (fun c hc => ⟨nofun, hq c (by rw [e]; exact hc)⟩) (fun hc => he (by rw [e]; exact hc)))

theorem rc_thing : ∀ (n : Nat) (p q : Plan), sizeOf p < n → ∀ {op : CmpOp} (_ : op = .Lt ∨ op = .Gt) {A : Around} {s : Shared} {h1 : Heap} {v u : Value} {lo lo' : Addr}, TAt h1 lo false v p → TAt s.heap lo' true u q → Keep h1 s.heap → h1.objs.size ≤ lo' →
    sysModules < lo → sysModules < lo' → A.units + deep p < cLine → A.handled = none → RcSays prog w op A s v u (cmpP p q) := by
  intro n
  induction n with
  | zero => intro p q h; exact absurd h (Nat.not_lt_zero _)
  | succ n ih =>
    intro p q hn op hop A s h1 v u lo lo' hv hu hk hlo hs1 hs2 hr hh Q E hq he
    have hroom : A.units < cLine := by omega
    by_cases hf : p.fam ≠ q.fam ∨ p.fam = 3 ∨ p.fam = 4
    case pos =>
      obtain ⟨k, hk1, hk2, hk3, hk4⟩ := (hv.keeps hk).kind
      obtain ⟨k', hk1', hk2', hk3', hk4'⟩ := hu.kind
      have hf' : k.fam ≠ k'.fam ∨ (k = .none ∧ k' = .none) ∨ (k = .dict ∧ k' = .dict) := by
        rcases hf with h | h | h
        · exact .inl (by rw [hk2, hk2']; exact h)
        · by_cases hq' : q.fam = 3
          · exact .inr (.inl ⟨hk3 h, hk3' hq'⟩)
          · exact .inl (by rw [hk2, hk2', h]; exact Ne.symm hq')
        · by_cases hq' : q.fam = 4
          · exact .inr (.inr ⟨hk4 h, hk4' hq'⟩)
          · exact .inl (by rw [hk2, hk2', h]; exact Ne.symm hq')
      have he' := he (cmpP_fam p q hf)
      rcases hop with rfl | rfl
      · exact rc_lt_raise hh hroom hk1 hk1' hf' he'
      · exact rc_gt_raise hh hroom hk1 hk1' hf' he'
    case neg =>
      have hf0 : p.fam = q.fam := by
        by_cases h : p.fam = q.fam
        · exact h
        · exact absurd (.inl h) hf
      cases hv with
      | num1 e => cases e
      | numB e => cases e
      | @num0 a t _ =>
        cases hu with
        | num0 e => cases e
        | @num1 b t' _ =>
          have h := hq _ rfl
          rcases hop with rfl | rfl
          · refine P.lt_int ?_
            have e : decide (a < b) = verdict .Lt (sgn (a - b)) := by simp only [verdict]; rw [decide_eq_decide, sgn_neg]; omega
            rw [e]; exact h
          · refine P.gt_int ?_
            have e : decide (a > b) = verdict .Gt (sgn (a - b)) := by simp only [verdict]; rw [decide_eq_decide, sgn_pos]; omega
            rw [e]; exact h
        | @numB b _ => exact rc_num_bool hop (hq _ rfl)
        | _ => cases hf0
      | @text x t =>
        cases hu with
        | @text y t' =>
          have h := hq _ rfl
          rcases hop with rfl | rfl
          · refine P.lt_str ?_
            rw [cmpText_lt]; exact h
          · refine P.gt_str ?_
            rw [cmpText_gt]; exact h
        | _ => cases hf0
      | none => exact absurd (.inr (.inl rfl)) hf
      | @table a b1 b2 v ha hs => exact absurd (.inr (.inr rfl)) hf
      | @set a b1 b2 b3 b4 ha hs =>
        cases hu with
        | @set b c1 c2 c3 c4 hb hs' =>
          have h := hq _ rfl
          rcases hop with rfl | rfl
          · exact set_lt_at (hs.keeps fun o ho => hk _ _ ho) hs' hroom (by rw [setLtB]; exact h)
          · exact set_gt_at (hs.keeps fun o ho => hk _ _ ho) hs' hroom (by rw [setGtB]; exact h)
        | _ => cases hf0
      | @list a vs ps ha hl hall =>
        cases hu with
        | @list b us qs hb hl' hall' =>
          have hl1 : s.heap.IsList a vs := IsList.keep hl fun o ho => hk _ _ ho
          have e1 : vs.size = ps.length := by simpa using hall.length
          have e2 : us.size = qs.length := by simpa using hall'.length
          have hsz : ∀ p ∈ ps, sizeOf p < n ∧ A.in1.units + deep p < cLine := fun p hm => by
            have hd := deep_le_deeps hm
            have hsz : sizeOf p < sizeOf ps := List.sizeOf_lt_of_mem hm
            simp only [Plan.list.sizeOf_spec] at hn
            simp only [deep] at hr
            exact ⟨by omega, by show A.units + 1 + _ < _; omega⟩
          exact list_ord_at hop hl1 hl' hroom (ord_of hop hall hall' (fun p q v u hm h1 h2 => eq_thing n p q (hsz p hm).1 h1 h2 hk hlo hs1 hs2 (hsz p hm).2)
            (fun p q v u hm h1 h2 => ih p q (hsz p hm).1 hop h1 h2 hk hlo hs1 hs2 (hsz p hm).2 hh) (by rw [e1, e2]) hq he)
        | _ => cases hf0
      | @tup a vs ps ha hl hall =>
        cases hu with
        | @tup b us qs hb hl' hall' =>
          have hl1 : s.heap.IsTuple a vs := IsTuple.keep hl fun o ho => hk _ _ ho
          have e1 : vs.size = ps.length := by simpa using hall.length
          have e2 : us.size = qs.length := by simpa using hall'.length
          have hsz : ∀ p ∈ ps, sizeOf p < n ∧ A.in1.units + deep p < cLine := fun p hm => by
            have hd := deep_le_deeps hm
            have hsz : sizeOf p < sizeOf ps := List.sizeOf_lt_of_mem hm
            simp only [Plan.tup.sizeOf_spec] at hn
            simp only [deep] at hr
            exact ⟨by omega, by show A.units + 1 + _ < _; omega⟩
          exact tuple_ord_at hop hl1 hl' hroom (ord_of hop hall hall' (fun p q v u hm h1 h2 => eq_thing n p q (hsz p hm).1 h1 h2 hk hlo hs1 hs2 (hsz p hm).2)
            (fun p q v u hm h1 h2 => ih p q (hsz p hm).1 hop h1 h2 hk hlo hs1 hs2 (hsz p hm).2 hh) (by rw [e1, e2]) hq he)
        | _ => cases hf0
end
end Mine

namespace Mine
open PySem.Calls

noncomputable abbrev KF (w : World) : Frag := Mine.hd.heap_39 w.params

structure Amb (w : World) (h : Heap) : Prop where
  K : (KF w).In h
  T : ∃ p loose mg mb, TopRead p loose mg mb h
  seer : h.NoSeer
theorem Amb.keep {w : World} {h h' : Heap} (a : Amb w h) (hk : Keep h h') : Amb w h' :=
  ⟨a.K.keeps hk, let ⟨p, l, mg, mb, t⟩ := a.T; ⟨p, l, mg, mb, t.keeps hk⟩, a.seer.keeps hk⟩

structure EnvOk (env : Env) (sc : Scope) : Prop where
  sc : env.scope = sc
  gl : env.globals = mainGlobals
  bl : env.builtins = builtinsNs

/-- what can be read in a frame -/
structure Rd (env : Env) (m cm : Str → Option Value) (h : Heap) : Prop where
  ns : h.Ns env.locals m
  cell : ∀ n c, env.cells.lookup n = some c → h.IsCell c (cm n)
theorem Rd.keep {env : Env} {m cm : Str → Option Value} {h h' : Heap} (x : Rd env m cm h) (hk : Keep h h') : Rd env m cm h' := ⟨x.ns.keeps hk, fun n c e => (x.cell n c e).keeps hk⟩

section
variable {prog : Program} {w : World} {A : Around} {E : Value → Shared → Prop} {s : Shared} {env : Env} {sc : Scope} {m cm : Str → Option Value} {x : Str} {pos : Pos} {v : Value} {Q : Value → Shared → Prop}
theorem ev_local (X : Rd env m cm s.heap) (hE : EnvOk env sc) (hv : m x = some v) (h : Q v s) (hk : sc.kind = .function := by rfl) (hl : sc.names.lookup x = some .local := by rfl) (hd : (x == ("__debug__" : Str)) = false := by decide) :
    wpAny (model prog w) A (eval (.Name x pos) env) Q E s :=
  wpAny_Name (wpAny_loadName_local (by rw [hE.sc]; exact hk) (by rw [Env.kindOf, hE.sc]; exact hl) X.ns hv h) hd
theorem ev_cell {c : Addr} (X : Rd env m cm s.heap) (hE : EnvOk env sc) (hc : env.cells.lookup x = some c) (hv : cm x = some v) (h : Q v s) (hk : sc.kind = .function := by rfl) (hl : sc.names.lookup x = some .cell := by rfl) (hd : (x == ("__debug__" : Str)) = false := by decide) :
    wpAny (model prog w) A (eval (.Name x pos) env) Q E s :=
  wpAny_Name (wpAny_loadName_cell (by rw [hE.sc]; exact hk) (by rw [Env.kindOf, hE.sc]; exact hl) hc (hv ▸ X.cell x c hc) h) hd
theorem ev_global (am : Amb w s.heap) (hE : EnvOk env sc) (e : nsIn (KF w) mainGlobals x = some (some v)) (h : Q v s) (hk : sc.kind = .function := by rfl) (hl : sc.names.lookup x = some .globalImplicit := by rfl) (hd : (x == ("__debug__" : Str)) = false := by decide) :
    wpAny (model prog w) A (eval (.Name x pos) env) Q E s := by
  obtain ⟨p, l, mg, mb, T⟩ := am.T
  exact Name_function_global (by rw [hE.sc]; exact hk) (by rw [Env.kindOf, hE.sc]; exact hl) (loadGlobal_global (by rw [hE.gl]; exact T.g) (mg_of am.K T.g e) h) hd
theorem ev_builtin (am : Amb w s.heap) (hE : EnvOk env sc) (e : nsIn (KF w) mainGlobals x = some none) (hv : bootBuiltins x = some v) (h : Q v s) (hn : x ≠ "__name__" := by decide) (hk : sc.kind = .function := by rfl) (hl : sc.names.lookup x = some .globalImplicit := by rfl) (hd : (x == ("__debug__" : Str)) = false := by decide) :
    wpAny (model prog w) A (eval (.Name x pos) env) Q E s := by
  obtain ⟨p, l, mg, mb, T⟩ := am.T
  exact Name_function_global (by rw [hE.sc]; exact hk) (by rw [Env.kindOf, hE.sc]; exact hl)
    (loadGlobal_builtin (by rw [hE.gl]; exact T.g) (mg_none_of am.K T.g e) (by rw [hE.bl]; exact T.b) ((T.builtins x hn).trans hv) h) hd
end

theorem g_sign (w : World) : nsIn (KF w) mainGlobals "_law_sign" = some (some (.ref 50)) := by kernel_rfl
theorem g_len (w : World) : nsIn (KF w) mainGlobals "len" = some none := by kernel_rfl
theorem b_len : bootBuiltins "len" = some (.builtin "len") := by kernel_rfl
theorem b_set : bootBuiltins "set" = some (.type "set") := by kernel_rfl

theorem f_sign (w : World) : ∃ fd body, (KF w).lookup 50 = some { cls := .type "function", data := .func fd } ∧ fd.body = .stmts body := ⟨_, _, rfl, rfl⟩
end Mine

namespace Mine
open PySem.Calls

abbrev Inn (s₀ : Shared) (env : Env) (m cm : Str → Option Value) (s : Shared) : Prop := InCallC s₀ env.locals m env.cells cm s
theorem Inn.rd {s₀ s : Shared} {env : Env} {m cm : Str → Option Value} (x : Inn s₀ env m cm s) : Rd env m cm s.heap := ⟨x.toInCall.ns, x.cell⟩
theorem Inn.kept {s₀ s s' : Shared} {env : Env} {m cm : Str → Option Value} (x : Inn s₀ env m cm s) (hk : Keeps s s') : Inn s₀ env m cm s' := by
  obtain ⟨h', tk, rfl, hk⟩ := hk
  exact InCallC.kept x hk
theorem Inn.tok {s₀ s : Shared} {env : Env} {m cm : Str → Option Value} (x : Inn s₀ env m cm s) (t : Nat) : Inn s₀ env m cm { s with toks := t } := InCallC.tok x t
theorem Inn.done {s₀ s : Shared} {env : Env} {m cm : Str → Option Value} (x : Inn s₀ env m cm s) : Keeps s₀ s := InCallC.done x
theorem Keeps.refl (s : Shared) : Keeps s s := ⟨s.heap, s.toks, rfl, fun _ _ e => e⟩
theorem Keeps.trans {s s' s'' : Shared} (a : Keeps s s') (b : Keeps s' s'') : Keeps s s'' := by
  obtain ⟨h', tk, rfl, hk⟩ := a
  obtain ⟨h'', tk', rfl, hk'⟩ := b
  exact ⟨h'', tk', rfl, fun b o e => hk' b o (hk b o e)⟩
theorem Keeps.tok (s : Shared) (t : Nat) : Keeps s { s with toks := t } := ⟨s.heap, t, rfl, fun _ _ e => e⟩
theorem Keeps.keep {s s' : Shared} (a : Keeps s s') : Keep s.heap s'.heap := by
  obtain ⟨h', tk, rfl, hk⟩ := a
  exact hk

/-- one parameter -/
structure Bound1 (sc : Scope) (m cm : Str → Option Value) (n : Str) (v : Value) : Prop where
  loc : sc.names.lookup n = some .local → m n = some v
  cel : sc.names.lookup n = some .cell → cm n = some v

section
variable {prog : Program} {w : World} {A : Around} {E : Value → Shared → Prop} {s : Shared} {Q : Value → Shared → Prop}
theorem call_fn1 {a c : Addr} {o oc : Obj} {fd : FuncData} {body : List Stmt} {n : Str} {v : Value} (am : Amb w s.heap) (hK : (KF w).lookup a = some o) (ho : o.data = .func fd) (hbody : fd.body = .stmts body)
    (hc : fd.code = .ref c) (hKc : (KF w).lookup c = some oc) (hoc : ∃ vs t, oc.data = .fields vs ∧ vs[1]? = some (.str fd.qualname t))
    (hbind : bindArgs fd ⟨[v], []⟩ = pure [(n, v)]) (hkind : fd.scope.names.lookup n = some .local ∨ (fd.scope.names.lookup n = some .cell ∧ ((cellsFrom (s.heap.objs.size + 1) fd.scope.names []).lookup n).isSome = true))
    (hd : A.depth < recursionLimit)
    (h : ∀ env s₁ m cm, EnvOk env fd.scope → env.cells = cellsFrom (s.heap.objs.size + 1) fd.scope.names [] → env.locals = s.heap.objs.size → Inn s env m cm s₁ → Bound1 fd.scope m cm n v →
      wpAny (model prog w) (A.deeper env) (execs body env) (fun f s' => Q (match f with | .ret v => v | _ => .none) s') (fun _ _ => False) s₁)
    (hclo : fd.closure = [] := by rfl) (hgl : fd.globals = mainGlobals := by rfl) (hbl : fd.builtins = builtinsNs := by rfl)
    (hco : fd.scope.isCoroutine = false := by rfl) (hgen : fd.scope.isGenerator = false := by rfl) (hk : fd.scope.kind = .function := by rfl) :
    wpAny (model prog w) A (call (.ref a) [v]) Q E s := by
  obtain ⟨p, l, mg, mb, T⟩ := am.T
  have hcd : s.heap.CodeRec fd.code fd.qualname := by
    obtain ⟨vs, t, h1, h2⟩ := hoc
    exact ⟨c, oc, vs, t, hc, am.K c oc hKc, h1, h2⟩
  refine wpAny_call (codeAny_call_cells hd (am.K a o hK) ho T.nolimit hcd hbody hbind hclo (fun x hx => ?_) (fun s₁ X => ?_) hco hgen hk)
  · rw [List.mem_singleton] at hx; subst hx; exact hkind
  · refine wpAny_mono (h (callEnvC fd s.heap.objs.size a) s₁ _ _ ⟨rfl, hgl, hbl⟩ rfl rfl X ⟨fun e => ?_, fun e => ?_⟩) (fun f s' h' => h') fun _ _ x => x.elim
    · have e' : (callEnvC fd s.heap.objs.size a).kindOf n = some .local := e
      simp only [bindL, e', if_true]
    · have e' : ¬ (callEnvC fd s.heap.objs.size a).kindOf n = some .local := fun e2 => by
        have e3 : fd.scope.names.lookup n = some .local := e2
        rw [e] at e3; cases e3
      simp only [bindC, e', if_false, if_true]
end

end Mine

namespace Mine
open PySem.Calls

section
variable {prog : Program} {w : World} {A : Around} {E : Value → Shared → Prop} {s : Shared} {env : Env} {sc : Scope} {m cm : Str → Option Value} {Q : Value → Shared → Prop}

theorem keeps_push (s : Shared) (o : Obj) : Keeps s { s with heap := s.heap.push o } := ⟨_, s.toks, rfl, fun _ _ e => Heap.get?_push_of_some _ e⟩

theorem new_list {vs : List Value} (h : ∀ a s', Keeps s s' → s.heap.objs.size ≤ a → s'.heap.PlainList a vs.toArray → Q (.ref a) s') (hsz : vs.length ≤ sizeLine) : wpAny (model prog w) A (newList vs) Q E s :=
  wpAny_newObj_type (h _ _ (keeps_push s _) (Nat.le_refl _) ⟨_, Heap.get?_push_size _ rfl⟩) (by show vs.toArray.size ≤ sizeLine; rw [List.size_toArray]; exact hsz)
theorem new_tuple {vs : List Value} (h : ∀ a s', Keeps s s' → s.heap.objs.size ≤ a → s'.heap.IsTuple a vs.toArray → Q (.ref a) s') (hsz : vs.length ≤ sizeLine) : wpAny (model prog w) A (newTuple vs) Q E s :=
  wpAny_newObj_type (h _ _ (keeps_push s _) (Nat.le_refl _) ⟨_, Heap.get?_push_size _ rfl, rfl, _, rfl⟩) (by show vs.toArray.size ≤ sizeLine; rw [List.size_toArray]; exact hsz)

theorem sz4 {n : Nat} (h : n ≤ 4000) : n ≤ sizeLine := by rw [sizeLine_eq]; omega

/-- a list's item -/
def ItemAt (items : Array Value) (k : Int) (v : Value) : Prop := (0 ≤ k ∧ k < 2 ^ 63 ∧ items[k.toNat]? = some v) ∨ (k < 0 ∧ -(items.size : Int) ≤ k ∧ -(2 ^ 63) ≤ k ∧ items[(k + items.size).toNat]? = some v)
theorem getItem_at {l : Addr} {items : Array Value} {k : Int} {t : Tok} {v : Value} (hl : s.heap.IsList l items) (hi : ItemAt items k v) (h : Q v s) : wpAny (model prog w) A (getItem (.ref l) (.int k t)) Q E s := by
  rcases hi with ⟨h0, h1, h2⟩ | ⟨h0, h1, h2, h3⟩
  · exact wpAny_getItem_list hl h0 h1 h2 h
  · exact wpAny_getItem_list_neg hl h0 h1 h2 h3 h
theorem sub_item {value slice : Expr} {pos : Pos} (h : wpAny (model prog w) A (eval value env) (fun o s₁ => wpAny (model prog w) A (eval slice env) (fun i s₂ => ∃ l items k t v, o = .ref l ∧ i = .int k t ∧ s₂.heap.IsList l items ∧ ItemAt items k v ∧ Q v s₂) E s₁) E s)
    (hs : ∀ o i, subscripted slice false o i = operate [o, i] (getItem o i) := by intro _ _; with_unfolding_all rfl) : wpAny (model prog w) A (eval (.Subscript value slice pos) env) Q E s := by
  refine Subscript_ (wpAny_mono h (fun o s₁ h₁ => wpAny_mono h₁ (fun i s₂ h₂ => ?_) fun _ _ e => e) fun _ _ e => e)
  obtain ⟨l, items, k, t, v, rfl, rfl, hl, hi, hq⟩ := h₂
  exact tail_any hl.typeIs slot_list_getitem.lookup (getItem_at hl hi hq) (hs _ _)

/-- a list's cut, no step -/
theorem sub_slice {value : Expr} {lower upper : Option Expr} {p pos : Pos} (h : wpAny (model prog w) A (eval value env) (fun o s₁ => wpAny (model prog w) A (evalPart lower env) (fun vl s₂ => wpAny (model prog w) A (evalPart upper env) (fun vu s₃ =>
      ∃ l items lo hi, o = .ref l ∧ s₃.heap.IsList l items ∧ items.size ≤ sizeLine ∧ IsPart vl lo ∧ IsPart vu hi ∧ ∀ a s', Keeps s₃ s' → s₃.heap.objs.size ≤ a → s'.heap.PlainList a (slicePick items lo hi none) → Q (.ref a) s') E s₂) E s₁) E s) :
    wpAny (model prog w) A (eval (.Subscript value (.Slice lower upper none p) pos) env) Q E s := by
  refine Subscript_ (wpAny_mono h (fun o s₁ h₁ => wpAny_Slice (wpAny_mono h₁ (fun vl s₂ h₂ => wpAny_mono h₂ (fun vu s₃ h₃ => ?_) fun _ _ e => e) fun _ _ e => e)) fun _ _ e => e)
  obtain ⟨l, items, lo, hi, rfl, hl, hsz, pl, pu, hq⟩ := h₃
  rw [evalPart_none]
  refine wpAny_pure ?_
  have hl' : ({ s₃ with heap := s₃.heap.push { cls := .type "slice", data := .fields #[vl, vu, .none] } } : Shared).heap.IsList l items := hl.push _
  refine tail_any (Heap.IsList.typeIs hl') slot_list_getitem.lookup (wpAny_getItem_list_slice hl' (Heap.IsSliceOf.new ..) pl pu .none (by simp) ?_ hsz) (by with_unfolding_all rfl)
  exact hq _ _ (Keeps.trans (keeps_push _ _) (keeps_push _ _)) (by show s₃.heap.objs.size ≤ (s₃.heap.push _).objs.size; rw [Heap.size_push]; omega) ⟨_, Heap.get?_push_size _ rfl⟩

/-- a list's cut by a step -/
theorem sub_step {value st : Expr} {lower upper : Option Expr} {p pos : Pos} (h : wpAny (model prog w) A (eval value env) (fun o s₁ => wpAny (model prog w) A (evalPart lower env) (fun vl s₂ => wpAny (model prog w) A (evalPart upper env) (fun vu s₃ => wpAny (model prog w) A (eval st env) (fun vk s₄ =>
      ∃ l items lo hi k, o = .ref l ∧ s₄.heap.IsList l items ∧ items.size ≤ sizeLine ∧ IsPart vl lo ∧ IsPart vu hi ∧ IsPart vk (some k) ∧ k ≠ 0 ∧ ∀ a s', Keeps s₄ s' → s₄.heap.objs.size ≤ a → s'.heap.PlainList a (slicePick items lo hi (some k)) → Q (.ref a) s') E s₃) E s₂) E s₁) E s) :
    wpAny (model prog w) A (eval (.Subscript value (.Slice lower upper (some st) p) pos) env) Q E s := by
  refine Subscript_ (wpAny_mono h (fun o s₁ h₁ => wpAny_Slice (wpAny_mono h₁ (fun vl s₂ h₂ => wpAny_mono h₂ (fun vu s₃ h₃ => ?_) fun _ _ e => e) fun _ _ e => e)) fun _ _ e => e)
  rw [evalPart_some]
  refine wpAny_mono h₃ (fun vk s₄ h₄ => ?_) fun _ _ e => e
  obtain ⟨l, items, lo, hi, k, rfl, hl, hsz, pl, pu, pk, h0, hq⟩ := h₄
  have hl' : ({ s₄ with heap := s₄.heap.push { cls := .type "slice", data := .fields #[vl, vu, vk] } } : Shared).heap.IsList l items := hl.push _
  refine tail_any (Heap.IsList.typeIs hl') slot_list_getitem.lookup (wpAny_getItem_list_slice hl' (Heap.IsSliceOf.new ..) pl pu pk (by simpa using h0) ?_ hsz) (by with_unfolding_all rfl)
  exact hq _ _ (Keeps.trans (keeps_push _ _) (keeps_push _ _)) (by show s₄.heap.objs.size ≤ (s₄.heap.push _).objs.size; rw [Heap.size_push]; omega) ⟨_, Heap.get?_push_size _ rfl⟩

/-- a call of a def of the text, one and two arguments -/
theorem ev_call1 {x : Str} {p pos : Pos} {e : Expr} {f : Addr} {o : Obj} {fd : FuncData} (am : Amb w s.heap) (hE : EnvOk env sc) (hg : nsIn (KF w) mainGlobals x = some (some (.ref f))) (hK : (KF w).lookup f = some o) (ho : o.data = .func fd)
    (h : wpAny (model prog w) A (eval e env) (fun v s₁ => Amb w s₁.heap ∧ wpAny (model prog w) A (call (.ref f) [v]) Q E s₁) E s)
    (he : starEach [e] env = [(false, eval e env)] := by rfl) (hk : sc.kind = .function := by rfl) (hl : sc.names.lookup x = some .globalImplicit := by rfl) (hd : (x == ("__debug__" : Str)) = false := by decide) :
    wpAny (model prog w) A (eval (.Call (.Name x p) [e] [] pos) env) Q E s := by
  refine Call_ (ev_global am hE hg (callWith_def ho (args_cons (wpAny_mono h (fun v s₁ h₁ => args_nil ⟨h₁.1.K f o hK, h₁.2⟩) fun _ _ x => x) ?_) ?_) hk hl hd)
  · exact he
  · exact he
theorem ev_call2 {x : Str} {p pos : Pos} {e e' : Expr} {f : Addr} {o : Obj} {fd : FuncData} (am : Amb w s.heap) (hE : EnvOk env sc) (hg : nsIn (KF w) mainGlobals x = some (some (.ref f))) (hK : (KF w).lookup f = some o) (ho : o.data = .func fd)
    (h : wpAny (model prog w) A (eval e env) (fun v s₁ => wpAny (model prog w) A (eval e' env) (fun v' s₂ => Amb w s₂.heap ∧ wpAny (model prog w) A (call (.ref f) [v, v']) Q E s₂) E s₁) E s)
    (he : starEach [e, e'] env = [(false, eval e env), (false, eval e' env)] := by rfl) (he' : starEach [e'] env = [(false, eval e' env)] := by rfl)
    (hk : sc.kind = .function := by rfl) (hl : sc.names.lookup x = some .globalImplicit := by rfl) (hd : (x == ("__debug__" : Str)) = false := by decide) :
    wpAny (model prog w) A (eval (.Call (.Name x p) [e, e'] [] pos) env) Q E s := by
  have h2 : starEach [e, e'] env = (false, eval e env) :: starEach [e'] env := by rw [he, he']
  refine Call_ (ev_global am hE hg (callWith_def ho (args_cons (wpAny_mono h (fun v s₁ h₁ => args_cons (wpAny_mono h₁ (fun v' s₂ h₂ => args_nil ⟨h₂.1.K f o hK, h₂.2⟩) fun _ _ x => x) he') fun _ _ x => x) h2) h2) hk hl hd)

/-- a call of a built-in function, of a type -/
theorem ev_bi1 {x : Str} {p pos : Pos} {e : Expr} {id : String} (am : Amb w s.heap) (hE : EnvOk env sc) (hg : nsIn (KF w) mainGlobals x = some none) (hb : bootBuiltins x = some (.builtin id))
    (h : wpAny (model prog w) A (eval e env) (fun v s₁ => wpAny (model prog w) A (call (.builtin id) [v]) Q E s₁) E s)
    (he : starEach [e] env = [(false, eval e env)] := by rfl) (hn : x ≠ "__name__" := by decide) (hk : sc.kind = .function := by rfl) (hl : sc.names.lookup x = some .globalImplicit := by rfl) (hd : (x == ("__debug__" : Str)) = false := by decide) :
    wpAny (model prog w) A (eval (.Call (.Name x p) [e] [] pos) env) Q E s :=
  Call_ (ev_builtin am hE hg hb (callWith_builtin1 (args_cons (wpAny_mono h (fun v s₁ h₁ => args_nil h₁) fun _ _ x => x) he) he rfl) hn hk hl hd)
theorem ev_bi2 {x : Str} {p pos : Pos} {e e' : Expr} {id : String} (am : Amb w s.heap) (hE : EnvOk env sc) (hg : nsIn (KF w) mainGlobals x = some none) (hb : bootBuiltins x = some (.builtin id))
    (h : wpAny (model prog w) A (eval e env) (fun v s₁ => wpAny (model prog w) A (eval e' env) (fun v' s₂ => wpAny (model prog w) A (call (.builtin id) [v, v']) Q E s₂) E s₁) E s)
    (he : starEach [e, e'] env = [(false, eval e env), (false, eval e' env)] := by rfl) (he' : starEach [e'] env = [(false, eval e' env)] := by rfl) (hn : x ≠ "__name__" := by decide)
    (hk : sc.kind = .function := by rfl) (hl : sc.names.lookup x = some .globalImplicit := by rfl) (hd : (x == ("__debug__" : Str)) = false := by decide) :
    wpAny (model prog w) A (eval (.Call (.Name x p) [e, e'] [] pos) env) Q E s := by
  have h2 : starEach [e, e'] env = (false, eval e env) :: starEach [e'] env := by rw [he, he']
  exact Call_ (ev_builtin am hE hg hb (callWith_builtin1 (args_cons (wpAny_mono h (fun v s₁ h₁ => args_cons (wpAny_mono h₁ (fun v' s₂ h₂ => args_nil h₂) fun _ _ x => x) he') fun _ _ x => x) h2) h2 (by rw [he']; rfl)) hn hk hl hd)
theorem ev_ty1 {x : Str} {p pos : Pos} {e : Expr} {T : String} (am : Amb w s.heap) (hE : EnvOk env sc) (hg : nsIn (KF w) mainGlobals x = some none) (hb : bootBuiltins x = some (.type T))
    (h : wpAny (model prog w) A (eval e env) (fun v s₁ => wpAny (model prog w) A (call (.type T) [v]) Q E s₁) E s)
    (he : starEach [e] env = [(false, eval e env)] := by rfl) (hn : x ≠ "__name__" := by decide) (hk : sc.kind = .function := by rfl) (hl : sc.names.lookup x = some .globalImplicit := by rfl) (hd : (x == ("__debug__" : Str)) = false := by decide) :
    wpAny (model prog w) A (eval (.Call (.Name x p) [e] [] pos) env) Q E s :=
  Call_ (ev_builtin am hE hg hb (callWith_type1 (args_cons (wpAny_mono h (fun v s₁ h₁ => args_nil h₁) fun _ _ x => x) he) he rfl) hn hk hl hd)
end

theorem sign_call {prog : Program} {w : World} {A : Around} {E : Value → Shared → Prop} {s : Shared} {Q : Value → Shared → Prop} {n : Int} {t : Tok} (am : Amb w s.heap) (hd : A.depth < recursionLimit)
    (h : ∀ t' s', Keeps s s' → Q (.int (sgn n) t') s') : wpAny (model prog w) A (call (.ref 50) [.int n t]) Q E s := by
  refine call_fn1 (n := "n") am rfl rfl rfl rfl rfl ⟨_, _, rfl, rfl⟩ rfl (.inl rfl) hd ?_
  intro env s₁ m cm hE hcl hL F hb
  have hm := hb.loc rfl
  refine wpAny_execs_cons (wpAny_Return_some ?_)
  refine IfExp_ (wpAny_isTrue_Compare1 (ev_local F.rd hE hm (wpAny_Constant_int (P.gt_int (wpAny_truthy_bool ?_)))))
  by_cases h1 : n > 0
  · rw [decide_eq_true h1, if_pos rfl]
    refine wpAny_Constant_int ?_
    have e : sgn n = 1 := by unfold sgn; rw [if_pos h1]
    rw [← e]
    exact h _ _ (Keeps.trans F.done (Keeps.tok _ _))
  · rw [decide_eq_false h1, if_neg (by decide)]
    have F1 := F.tok (s₁.toks + 1)
    refine IfExp_ (wpAny_isTrue_Compare1 (ev_local F1.rd hE hm (wpAny_Constant_int (P.lt_int (wpAny_truthy_bool ?_)))))
    by_cases h2 : n < 0
    · rw [decide_eq_true h2, if_pos rfl]
      refine UnaryOp_ (wpAny_Constant_int (P.neg_int ?_))
      have e : sgn n = -1 := by unfold sgn; rw [if_neg h1, if_pos h2]
      rw [← e]
      exact h _ _ (Keeps.trans F.done (Keeps.tok _ _))
    · rw [decide_eq_false h2, if_neg (by decide)]
      refine wpAny_Constant_int ?_
      have e : sgn n = 0 := by unfold sgn; rw [if_neg h1, if_neg h2]
      rw [← e]
      exact h _ _ (Keeps.trans F.done (Keeps.tok _ _))
end Mine

namespace Mine
open PySem.Calls

/-! ## plans on the heap -/
inductive PairsAre (h : Heap) (bad : Addr) : List Value → List (Int × Int) → Prop
  | nil : PairsAre h bad [] []
  | cons {c : Addr} {k v : Int} {t t' : Tok} {vs : List Value} {kvs : List (Int × Int)} : c ≠ bad → h.IsList c #[.int k t, .int v t'] → PairsAre h bad vs kvs → PairsAre h bad (.ref c :: vs) ((k, v) :: kvs)

def TextOk (cs : List Nat) : Prop := cs.length ≤ 100 ∧ ∀ c ∈ cs, c ≤ 1114111
mutual
inductive PAt (h : Heap) (bad : Addr) : Value → Plan → Prop
  | num {a : Addr} {t t' : Tok} {n : Int} : a ≠ bad → h.IsList a #[.str "number" t, .int n t'] → PAt h bad (.ref a) (.num n)
  | text {a b : Addr} {t : Tok} {vs : List Value} {cs : List Nat} : a ≠ bad → b ≠ bad → h.IsList a #[.str "text" t, .ref b] → h.IsList b vs.toArray → IntsAre vs (cs.map fun (c : Nat) => (c : Int)) → TextOk cs → PAt h bad (.ref a) (.text cs)
  | set {a b : Addr} {t : Tok} {vs : List Value} {b1 b2 b3 b4 : Bool} : a ≠ bad → b ≠ bad → h.IsList a #[.str "set" t, .ref b] → h.IsList b vs.toArray → IntsAre vs (setKs b1 b2 b3 b4) → PAt h bad (.ref a) (.set b1 b2 b3 b4)
  | none {a : Addr} {t t' : Tok} : a ≠ bad → h.IsList a #[.str "none" t, .int 0 t'] → PAt h bad (.ref a) .none
  | table {a b : Addr} {t : Tok} {vs : List Value} {b1 b2 v : Bool} : a ≠ bad → b ≠ bad → h.IsList a #[.str "table" t, .ref b] → h.IsList b vs.toArray → PairsAre h bad vs (tabKvs b1 b2 v) → PAt h bad (.ref a) (.table b1 b2 v)
  | list {a b : Addr} {t : Tok} {vs : List Value} {ps : List Plan} : a ≠ bad → b ≠ bad → h.IsList a #[.str "list" t, .ref b] → h.IsList b vs.toArray → PAll h bad vs ps → PAt h bad (.ref a) (.list ps)
  | tup {a b : Addr} {t : Tok} {vs : List Value} {ps : List Plan} : a ≠ bad → b ≠ bad → h.IsList a #[.str "tuple" t, .ref b] → h.IsList b vs.toArray → PAll h bad vs ps → PAt h bad (.ref a) (.tup ps)
inductive PAll (h : Heap) (bad : Addr) : List Value → List Plan → Prop
  | nil : PAll h bad [] []
  | cons {v : Value} {p : Plan} {vs : List Value} {ps : List Plan} : PAt h bad v p → PAll h bad vs ps → PAll h bad (v :: vs) (p :: ps)
end

/-- every list but one is kept -/
def KeepS (bad : Addr) (h h' : Heap) : Prop := ∀ b o, b ≠ bad → h.get? b = some o → (∃ xs n, o.data = .seq xs n) → h'.get? b = some o
theorem Keep.s {bad : Addr} {h h' : Heap} (x : Keep h h') : KeepS bad h h' := fun b o _ e _ => x b o e
theorem KeepS.trans {bad : Addr} {h h' h'' : Heap} (x : KeepS bad h h') (y : KeepS bad h' h'') : KeepS bad h h'' := fun b o hb e d => y b o hb (x b o hb e d) d
theorem KeepS.list {bad : Addr} {h h' : Heap} (x : KeepS bad h h') {a : Addr} {vs : Array Value} (ha : a ≠ bad) (l : h.IsList a vs) : h'.IsList a vs := by
  obtain ⟨o, ho, hc, n, hd⟩ := l
  exact ⟨o, x a o ha ho ⟨_, _, hd⟩, hc, n, hd⟩
theorem PairsAre.keepS {bad : Addr} {h h' : Heap} (x : KeepS bad h h') : ∀ {vs : List Value} {kvs : List (Int × Int)}, PairsAre h bad vs kvs → PairsAre h' bad vs kvs
  | _, _, .nil => .nil
  | _, _, .cons h1 h2 h3 => .cons h1 (x.list h1 h2) (h3.keepS x)
mutual
theorem PAt.keepS {bad : Addr} {h h' : Heap} (x : KeepS bad h h') : ∀ {v : Value} {p : Plan}, PAt h bad v p → PAt h' bad v p
  | _, _, .num h1 h2 => .num h1 (x.list h1 h2)
  | _, _, .text h1 h2 h3 h4 h5 h6 => .text h1 h2 (x.list h1 h3) (x.list h2 h4) h5 h6
  | _, _, .set h1 h2 h3 h4 h5 => .set h1 h2 (x.list h1 h3) (x.list h2 h4) h5
  | _, _, .none h1 h2 => .none h1 (x.list h1 h2)
  | _, _, .table h1 h2 h3 h4 h5 => .table h1 h2 (x.list h1 h3) (x.list h2 h4) (h5.keepS x)
  | _, _, .list h1 h2 h3 h4 h5 => .list h1 h2 (x.list h1 h3) (x.list h2 h4) (PAll.keepS x h5)
  | _, _, .tup h1 h2 h3 h4 h5 => .tup h1 h2 (x.list h1 h3) (x.list h2 h4) (PAll.keepS x h5)
theorem PAll.keepS {bad : Addr} {h h' : Heap} (x : KeepS bad h h') : ∀ {vs : List Value} {ps : List Plan}, PAll h bad vs ps → PAll h' bad vs ps
  | _, _, .nil => .nil
  | _, _, .cons h1 h2 => .cons (PAt.keepS x h1) (PAll.keepS x h2)
end
theorem PAt.keep {bad : Addr} {h h' : Heap} {v : Value} {p : Plan} (y : PAt h bad v p) (x : Keep h h') : PAt h' bad v p := y.keepS x.s
theorem PAll.keep {bad : Addr} {h h' : Heap} {v : List Value} {p : List Plan} (y : PAll h bad v p) (x : Keep h h') : PAll h' bad v p := y.keepS x.s
theorem PAll.length {h : Heap} {bad : Addr} : ∀ {vs : List Value} {ps : List Plan}, PAll h bad vs ps → vs.length = ps.length
  | _, _, .nil => rfl
  | _, _, .cons _ r => by rw [List.length_cons, List.length_cons, r.length]
theorem PAll.get {h : Heap} {bad : Addr} : ∀ {vs : List Value} {ps : List Plan}, PAll h bad vs ps → ∀ (j : Nat) (v : Value), vs[j]? = some v → ∃ p, ps[j]? = some p ∧ PAt h bad v p
  | _, _, .nil, j, v, e => by simp at e
  | _, _, .cons x r, 0, v, e => by simp at e; subst e; exact ⟨_, rfl, x⟩
  | _, _, .cons x r, j + 1, v, e => by simpa using r.get j v (by simpa using e)
theorem PAll.append {h : Heap} {bad : Addr} : ∀ {vs us : List Value} {ps qs : List Plan}, PAll h bad vs ps → PAll h bad us qs → PAll h bad (vs ++ us) (ps ++ qs)
  | _, _, _, _, .nil, y => y
  | _, _, _, _, .cons x r, y => .cons x (r.append y)
theorem PAll.take {h : Heap} {bad : Addr} : ∀ {vs : List Value} {ps : List Plan}, PAll h bad vs ps → ∀ k : Nat, PAll h bad (vs.take k) (ps.take k)
  | _, _, .nil, k => by simp; exact .nil
  | _, _, .cons x r, 0 => by simp; exact .nil
  | _, _, .cons x r, k + 1 => by simp; exact .cons x (r.take k)
theorem PAll.drop {h : Heap} {bad : Addr} : ∀ {vs : List Value} {ps : List Plan}, PAll h bad vs ps → ∀ k : Nat, PAll h bad (vs.drop k) (ps.drop k)
  | _, _, .nil, k => by simp; exact .nil
  | _, _, .cons x r, 0 => by simp; exact .cons x r
  | _, _, .cons x r, k + 1 => by simp; exact r.drop k

/-! ## their data -/
mutual
def pd : Plan → PyData
  | .num n => .list [.str "number", .int n]
  | .text cs => .list [.str "text", .list (cs.map fun (c : Nat) => PyData.int (c : Int))]
  | .set a b c d => .list [.str "set", .list ((setKs a b c d).map PyData.int)]
  | .none => .list [.str "none", .int 0]
  | .table a b v => .list [.str "table", .list ((tabKvs a b v).map fun kv => PyData.list [.int kv.1, .int kv.2])]
  | .list ps => .list [.str "list", .list (pds ps)]
  | .tup ps => .list [.str "tuple", .list (pds ps)]
def pds : List Plan → List PyData
  | [] => []
  | p :: ps => pd p :: pds ps
end

theorem reads_two {h : Heap} {a : Addr} {v1 v2 : Value} {d1 d2 : PyData} {as bs : List Addr} (l : h.IsList a #[v1, v2]) (r1 : Reads h v1 d1 as) (r2 : Reads h v2 d2 bs) : ∃ cs, Reads h (.ref a) (.list [d1, d2]) cs := by
  obtain ⟨o, ho, hc, n, hd⟩ := l
  exact ⟨_, .list ho hc hd (.cons r1 (.cons r2 .nil))⟩
theorem readsAll_ints {h : Heap} : ∀ {vs : List Value} {ns : List Int}, IntsAre vs ns → ∃ as, ReadsAll h vs (ns.map PyData.int) as
  | _, _, .nil => ⟨_, .nil⟩
  | _, _, .cons n t r => let ⟨_, x⟩ := readsAll_ints (h := h) r; ⟨_, .cons (.int n t) x⟩
theorem readsAll_pairs {h : Heap} {bad : Addr} : ∀ {vs : List Value} {kvs : List (Int × Int)}, PairsAre h bad vs kvs → ∃ as, ReadsAll h vs (kvs.map fun kv => PyData.list [.int kv.1, .int kv.2]) as
  | _, _, .nil => ⟨_, .nil⟩
  | _, _, .cons (k := k) (v := v) (t := t) (t' := t') _ h2 h3 => let ⟨_, x⟩ := readsAll_pairs h3; let ⟨_, y⟩ := reads_two h2 (.int k t) (.int v t'); ⟨_, .cons y x⟩
theorem reads_list {h : Heap} {a : Addr} {vs : List Value} {ds : List PyData} {as : List Addr} (l : h.IsList a vs.toArray) (r : ReadsAll h vs ds as) : ∃ cs, Reads h (.ref a) (.list ds) cs := by
  obtain ⟨o, ho, hc, n, hd⟩ := l
  exact ⟨_, .list ho hc hd r⟩
mutual
theorem PAt.reads {h : Heap} {bad : Addr} : ∀ {v : Value} {p : Plan}, PAt h bad v p → ∃ as, Reads h v (pd p) as
  | _, _, .num _ h2 => reads_two h2 (.str _ _) (.int _ _)
  | _, _, .text (cs := cs) _ _ h3 h4 h5 _ => by
    obtain ⟨_, x⟩ := readsAll_ints (h := h) h5
    obtain ⟨_, y⟩ := reads_list h4 x
    obtain ⟨_, z⟩ := reads_two h3 (.str _ _) y
    rw [List.map_map] at z
    exact ⟨_, z⟩
  | _, _, .set _ _ h3 h4 h5 => by
    obtain ⟨_, x⟩ := readsAll_ints (h := h) h5
    obtain ⟨_, y⟩ := reads_list h4 x
    exact reads_two h3 (.str _ _) y
  | _, _, .none _ h2 => reads_two h2 (.str _ _) (.int _ _)
  | _, _, .table _ _ h3 h4 h5 => by
    obtain ⟨_, x⟩ := readsAll_pairs h5
    obtain ⟨_, y⟩ := reads_list h4 x
    exact reads_two h3 (.str _ _) y
  | _, _, .list _ _ h3 h4 h5 => by
    obtain ⟨_, x⟩ := PAll.reads h5
    obtain ⟨_, y⟩ := reads_list h4 x
    exact reads_two h3 (.str _ _) y
  | _, _, .tup _ _ h3 h4 h5 => by
    obtain ⟨_, x⟩ := PAll.reads h5
    obtain ⟨_, y⟩ := reads_list h4 x
    exact reads_two h3 (.str _ _) y
theorem PAll.reads {h : Heap} {bad : Addr} : ∀ {vs : List Value} {ps : List Plan}, PAll h bad vs ps → ∃ as, ReadsAll h vs (pds ps) as
  | _, _, .nil => ⟨_, .nil⟩
  | _, _, .cons h1 h2 => by
    obtain ⟨_, x⟩ := PAt.reads h1
    obtain ⟨_, y⟩ := PAll.reads h2
    exact ⟨_, .cons x y⟩
end

theorem eqvAll_ints : ∀ xs ys : List Int, PyData.eqvAll (xs.map PyData.int) (ys.map PyData.int) = (xs == ys)
  | [], [] => rfl
  | [], _ :: _ => rfl
  | _ :: _, [] => rfl
  | x :: xs, y :: ys => by
    rw [List.map_cons, List.map_cons, PyData.eqvAll, eqvAll_ints xs ys]; rfl
theorem beq_map_cast : ∀ xs ys : List Nat, ((xs.map fun (c : Nat) => (c : Int)) == (ys.map fun (c : Nat) => (c : Int))) = (xs == ys)
  | [], [] => rfl
  | [], _ :: _ => rfl
  | _ :: _, [] => rfl
  | x :: xs, y :: ys => by
    have e : ((x : Int) == (y : Int)) = (x == y) := by rw [Bool.eq_iff_iff, beq_iff_eq, beq_iff_eq]; omega
    show ((x : Int) == (y : Int) && _) = (x == y && _)
    rw [e]
    exact congrArg _ (beq_map_cast xs ys)

mutual
theorem eqv_pd : ∀ p q : Plan, PyData.eqv (pd p) (pd q) = peq p q
  | .num a, q => by
    cases q <;> first | rfl | skip
    show ((Str.ofString "number" == Str.ofString "number") && ((a == _) && true)) = _
    rw [Bool.and_true]; rfl
  | .text a, q => by
    cases q <;> first | rfl | skip
    rename_i b
    show ((Str.ofString "text" == Str.ofString "text") && (PyData.eqvAll (a.map fun (c : Nat) => PyData.int (c : Int)) (b.map fun (c : Nat) => PyData.int (c : Int)) && true)) = (a == b)
    have e : ∀ l : List Nat, (l.map fun (c : Nat) => PyData.int (c : Int)) = (l.map fun (c : Nat) => (c : Int)).map PyData.int := fun l => by rw [List.map_map]; rfl
    rw [Bool.and_true, e, e, eqvAll_ints, beq_map_cast]; rfl
  | .set a b c d, q => by
    cases q <;> first | rfl | skip
    rename_i a' b' c' d'
    show ((Str.ofString "set" == Str.ofString "set") && (PyData.eqvAll ((setKs a b c d).map PyData.int) ((setKs a' b' c' d').map PyData.int) && true)) = _
    rw [Bool.and_true, eqvAll_ints]; rfl
  | .none, q => by
    cases q <;> rfl
  | .table a b v, q => by
    cases q <;> first | rfl | skip
    rename_i a' b' v'
    cases a <;> cases b <;> cases v <;> cases a' <;> cases b' <;> cases v' <;> rfl
  | .list ps, q => by
    cases q <;> first | rfl | skip
    rename_i qs
    show ((Str.ofString "list" == Str.ofString "list") && (PyData.eqvAll (pds ps) (pds qs) && true)) = peqs ps qs
    rw [Bool.and_true, eqvAll_pds ps qs]; rfl
  | .tup ps, q => by
    cases q <;> first | rfl | skip
    rename_i qs
    show ((Str.ofString "tuple" == Str.ofString "tuple") && (PyData.eqvAll (pds ps) (pds qs) && true)) = peqs ps qs
    rw [Bool.and_true, eqvAll_pds ps qs]; rfl
theorem eqvAll_pds : ∀ ps qs : List Plan, PyData.eqvAll (pds ps) (pds qs) = peqs ps qs
  | [], [] => rfl
  | [], _ :: _ => rfl
  | _ :: _, [] => rfl
  | p :: ps, q :: qs => by
    show (PyData.eqv (pd p) (pd q) && PyData.eqvAll (pds ps) (pds qs)) = (peq p q && peqs ps qs)
    rw [eqv_pd p q, eqvAll_pds ps qs]
end
end Mine

namespace Mine
open PySem.Calls

/-! ## a list comprehension with one clause, whatever its element makes -/
def Kp (wr : List Addr) (s s' : Shared) : Prop := ∃ h' tk, s' = { s with heap := h', toks := tk } ∧ ∀ b o, b ∉ wr → s.heap.get? b = some o → h'.get? b = some o
theorem Paired.map {α β : Type} {F F' : α → β → Prop} (hm : ∀ a b, F a b → F' a b) : ∀ {l₁ : List α} {l₂ : List β}, Paired F l₁ l₂ → Paired F' l₁ l₂
  | _, _, .nil => .nil
  | _, _, .cons h r => .cons (hm _ _ h) (Paired.map hm r)

def Fi (F : Nat → Value → Value → Prop) (q : Nat × Value) (y : Value) : Prop := F q.1 q.2 y
def pi (pass : Nat → Value → Bool) (q : Nat × Value) : Bool := pass q.1 q.2
/-- what a turn of it must do -/
structure TurnOk (prog : Program) (w : World) (A : Around) (env : Env) (scope : Scope) (cl : List (Str × Addr)) (target : Expr) (ifs : List Expr) (elt : Expr) (I : Addr) (wr : List Addr) (P : Nat → Value → Prop) (Bd : Value → (Str → Option Value) → Prop)
    (pass : Nat → Value → Bool) (F : Heap → Nat → Value → Value → Prop) (s₂ : Shared) : Prop where
  lets : ∀ v s₃ E' (Q' : Unit → Shared → Prop), s₂.heap.objs.size + 1 < s₃.heap.objs.size → (∃ o, s₃.heap.get? I = some o ∧ (o.cls = .type "list_iterator" ∨ o.cls = .type "range_iterator")) → Q' () s₃ → wpAny (model prog w) A (letOwnedTupleGo target (.ref I) v) Q' E' s₃
  bind : ∀ C i v s₃ m₃ E' (Q' : Unit → Shared → Prop), C = s₂.heap.objs.size + 1 → P i v → s₃.heap.Ns C m₃ → Kp wr s₂ s₃ → (∀ h' m' tk, h'.Ns C m' → Bd v m' → Heap.ExtBut C s₃.heap h' → Q' () { s₃ with heap := h', toks := tk }) →
    wpAny (model prog w) A (assign target (compEnvC scope cl C env) v) Q' E' s₃
  tests : ∀ C i v s₃ m₃ E', C = s₂.heap.objs.size + 1 → P i v → s₃.heap.Ns C m₃ → Bd v m₃ → Kp wr s₂ s₃ →
    wpAny (model prog w) A (forIn ifs true fun c r => if r = true then do let ok ← isTrue c (compEnvC scope cl C env) (eval c (compEnvC scope cl C env)); pure (ForInStep.yield ok) else pure (ForInStep.yield r))
      (fun ok s₄ => ok = pass i v ∧ Keeps s₃ s₄) E' s₃
  elt : ∀ C i v s₃ m₃ E', C = s₂.heap.objs.size + 1 → P i v → pass i v = true → s₃.heap.Ns C m₃ → Bd v m₃ → Kp wr s₂ s₃ →
    wpAny (model prog w) A (eval elt (compEnvC scope cl C env)) (fun y s₄ => F s₄.heap i v y ∧ Keeps s₃ s₄) E' s₃
  stable : ∀ h h' i v y, F h i v y → (∀ b o, s₂.heap.objs.size + 2 ≤ b → h.get? b = some o → h'.get? b = some o) → F h' i v y

section
variable {prog : Program} {w : World} {A : Around} {env : Env}
theorem Kp.step {wr : List Addr} {s₂ s' : Shared} {h : Heap} {tk : Nat} (x : Kp wr s₂ s') (hk : ∀ b o, b ∉ wr → s₂.heap.get? b = some o → s'.heap.get? b = some o → h.get? b = some o) : Kp wr s₂ { s' with heap := h, toks := tk } := by
  obtain ⟨h', tk', rfl, hk'⟩ := x
  exact ⟨h, tk, rfl, fun b o hb e => hk b o hb e (hk' b o hb e)⟩
theorem Kp.keeps {wr : List Addr} {s₂ s' s'' : Shared} (x : Kp wr s₂ s') (y : Keeps s' s'') : Kp wr s₂ s'' := by
  obtain ⟨h, tk, rfl, hk⟩ := y
  exact x.step fun b o _ _ e => hk b o e

theorem comp_loop {elt iter target : Expr} {ifs : List Expr} {scope : Scope} {cl : List (Str × Addr)} {pos : Pos} {I C D : Addr} {fp wr : List Addr} {n : Nat} {P : Nat → Value → Prop} {St : Nat → Heap → Prop} {Bd : Value → (Str → Option Value) → Prop}
    {pass : Nat → Value → Bool} {F : Heap → Nat → Value → Value → Prop} {s₂ s₃ : Shared} {m₃ : Str → Option Value} {R : Result → Shared → Prop}
    (W : Walks prog w A I fp wr n P St) (hsz : n ≤ sizeLine) (T : TurnOk prog w A env scope cl target ifs elt I wr P Bd pass F s₂) (hD : D = s₂.heap.objs.size) (hC : C = s₂.heap.objs.size + 1) (hfp : ∀ b ∈ fp, b < s₂.heap.objs.size)
    (hI : ∀ i h, St i h → ∃ o, h.get? I = some o ∧ (o.cls = .type "list_iterator" ∨ o.cls = .type "range_iterator"))
    (hst : St 0 s₃.heap) (hacc : s₃.heap.PlainList D #[]) (hn : s₃.heap.Ns C m₃) (hk₃ : Kp wr s₂ s₃)
    (hR : ∀ s' m' ys (vs : List (Nat × Value)), s'.heap.Ns C m' → s'.heap.PlainList D ys → vs.length = n → (∀ j q, vs[j]? = some q → q.1 = j ∧ P j q.2) → Paired (Fi (F s'.heap)) (vs.filter (pi pass)) ys.toList → Kp wr s₂ s' → R (.ok .next) s') :
    codeAny (model prog w) A (.compLoop (.ListComp elt [⟨target, iter, ifs, 0⟩] scope pos) 0 (.ref I) (.ref D) (compEnvC scope cl C env)) R s₃ := by
  have big : ∀ b : Addr, s₂.heap.objs.size ≤ b → b ∉ fp := fun b hb hm => Nat.lt_irrefl _ (Nat.lt_of_lt_of_le (hfp b hm) hb)
  have hCge : s₂.heap.objs.size ≤ C := hC ▸ Nat.le_succ _
  have hDge : s₂.heap.objs.size ≤ D := Nat.le_of_eq hD.symm
  have hCf : C ∉ fp := big C hCge
  have hDf : D ∉ fp := big D hDge
  have hCw : C ∉ wr := fun h => hCf (W.sub _ h)
  have hDw : D ∉ wr := fun h => hDf (W.sub _ h)
  have hDC : D ≠ C := fun e => by rw [hC] at e; exact Nat.ne_of_lt (Nat.lt_succ_self _) (hD ▸ e)
  have hbw : ∀ b : Addr, s₂.heap.objs.size + 2 ≤ b → b ∉ wr := fun b hb hm => big b (Nat.le_trans (Nat.le_add_right _ 2) hb) (W.sub _ hm)
  have hbC : ∀ b : Addr, s₂.heap.objs.size + 2 ≤ b → b ≠ C := fun b hb e => by rw [e, hC] at hb; exact Nat.not_succ_le_self _ hb
  have hbD : ∀ b : Addr, s₂.heap.objs.size + 2 ≤ b → b ≠ D := fun b hb e => by rw [e, hD] at hb; exact absurd hb (by omega)
  refine codeAny_loop rfl (fun k s' => ∃ m' ys, ∃ vs : List (Nat × Value), Kp wr s₂ s' ∧ St vs.length s'.heap ∧ s'.heap.PlainList D ys ∧ s'.heap.Ns C m' ∧ (∀ j q, vs[j]? = some q → q.1 = j ∧ P j q.2) ∧
    Paired (Fi (F s'.heap)) (vs.filter (pi pass)) ys.toList ∧ vs.length ≤ n ∧ k = n + 1 - vs.length) ?_ (n + 1) ⟨m₃, #[], [], hk₃, hst, hacc, hn, by simp, by simpa using Paired.nil, Nat.zero_le _, rfl⟩
  rintro k s' ⟨m', ys, vs, hk', hst', hacc', hn', hP, hF, hle, rfl⟩
  show wpAny _ A ((compTurn (.ListComp elt [⟨target, iter, ifs, 0⟩] scope pos) 0 (.ref I) (.ref D) (compEnvC scope cl C env)).onRaise (fun x => do noteFrame x (compEnvC scope cl C env); theTreesLotGoes x)) _ _ s'
  refine wpAny_noted ?_
  rw [compTurn_list]
  refine wpAny_bind (wpAny_standAt ?_)
  have below : ∀ b o, s₂.heap.get? b = some o → b ≠ C ∧ b ≠ D := fun b o e => by
    have hlt := Heap.lt_size e
    exact ⟨fun e1 => Nat.lt_irrefl _ (Nat.lt_of_lt_of_le (e1 ▸ hlt) hCge), fun e1 => Nat.lt_irrefl _ (Nat.lt_of_lt_of_le (e1 ▸ hlt) hDge)⟩
  by_cases hlt : vs.length < n
  · refine wpAny_bind (W.item vs.length _ _ _ hlt hst' fun v h₁ tk₁ hPv hst₁ hk₁ => ?_)
    have hn₁ : h₁.Ns C m' := hn'.at' fun o e => hk₁ C o hCw e
    have hKp₁ : Kp wr s₂ { s' with heap := h₁, toks := tk₁ } := hk'.step fun b o hb _ e => hk₁ b o hb e
    have hF₁ : Paired (Fi (F h₁)) (vs.filter (pi pass)) ys.toList := Paired.map (fun a b hab => T.stable _ _ _ _ _ hab fun c o hc e => hk₁ c o (hbw c hc) e) hF
    refine wpAny_bind (T.lets v _ _ _ (by rw [← hC]; exact hn₁.lt) (hI _ _ hst₁) ?_)
    refine wpAny_bind (T.bind C vs.length v _ m' _ _ hC hPv hn₁ hKp₁ fun h₂ m₂ tk₂ hn₂ hb₂ hs₂ => ?_)
    have hKp₂ : Kp wr s₂ { s' with heap := h₂, toks := tk₂ } := hk'.step fun b o hb e0 e => hs₂ b o (below b o e0).1 (hk₁ b o hb e)
    have hst₂ : St (vs.length + 1) h₂ := W.frame _ _ _ hst₁ fun b hb o e => hs₂ b o (fun e1 => hCf (e1 ▸ hb)) e
    have hF₂ : Paired (Fi (F h₂)) (vs.filter (pi pass)) ys.toList := Paired.map (fun a b hab => T.stable _ _ _ _ _ hab fun c o hc e => hs₂ c o (hbC c hc) e) hF₁
    refine wpAny_bind (wpAny_mono (T.tests C vs.length v _ m₂ _ hC hPv hn₂ hb₂ hKp₂) (fun ok s₃ h₃ => ?_) fun _ _ e => e)
    obtain ⟨rfl, hks⟩ := h₃
    have hKp₃ := hKp₂.keeps hks
    have hk₃' := Keeps.keep hks
    have hst₃ : St (vs.length + 1) s₃.heap := W.frame _ _ _ hst₂ fun b _ o e => hk₃' b o e
    have hacc₃ : s₃.heap.PlainList D ys := hacc'.at fun o e => hk₃' _ o (hs₂ D o hDC (hk₁ D o hDw e))
    have hn₃ : s₃.heap.Ns C m₂ := hn₂.keeps hk₃'
    have hF₃ : Paired (Fi (F s₃.heap)) (vs.filter (pi pass)) ys.toList := Paired.map (fun a b hab => T.stable _ _ _ _ _ hab fun c o _ e => hk₃' c o e) hF₂
    have hP' : ∀ j u, (vs ++ [(vs.length, v)])[j]? = some u → u.1 = j ∧ P j u.2 := fun j u hj => by
      rcases Nat.lt_trichotomy j vs.length with h | h | h
      · exact hP j u (by rwa [List.getElem?_append_left h] at hj)
      · subst h; simp at hj; subst hj; exact ⟨rfl, hPv⟩
      · have hnone : (vs ++ [(vs.length, v)])[j]? = none := List.getElem?_eq_none (by rw [List.length_append, List.length_singleton]; omega)
        rw [hnone] at hj; cases hj
    have hlen : (vs ++ [(vs.length, v)]).length = vs.length + 1 := by rw [List.length_append, List.length_singleton]
    cases hpv : pass vs.length v with
    | false =>
      rw [if_neg Bool.false_ne_true]
      refine wpAny_pure ⟨rfl, n + 1 - (vs.length + 1), by omega, m₂, ys, vs ++ [(vs.length, v)], hKp₃, by rw [hlen]; exact hst₃, hacc₃, hn₃, hP', ?_, by rw [hlen]; exact hlt, by rw [hlen]⟩
      rw [List.filter_append]; simpa [pi, hpv] using hF₃
    | true =>
      rw [if_pos rfl]
      refine wpAny_bind (wpAny_bind (wpAny_mono (T.elt C vs.length v _ m₂ _ hC hPv hpv hn₃ hb₂ hKp₃) (fun y s₄ h₄ => ?_) fun _ _ e => e))
      obtain ⟨hFy, hks₄⟩ := h₄
      have hk₄ := Keeps.keep hks₄
      have hys : ys.size ≤ sizeLine := by
        have e1 := hF.length
        have e2 : (vs.filter (pi pass)).length ≤ vs.length := List.length_filter_le _ _
        have e4 : ys.toList.length = ys.size := by simp
        omega
      refine wpAny_bind (wpAny_list_append_plain (hsz := hys) (hacc₃.at fun o e => hk₄ _ o e) fun h₅ hl₅ hs₅ => ?_)
      have hF₄ : Paired (Fi (F s₄.heap)) (vs.filter (pi pass)) ys.toList := Paired.map (fun a b hab => T.stable _ _ _ _ _ hab fun c o _ e => hk₄ c o e) hF₃
      have hF₅ : ∀ a b, Fi (F s₄.heap) a b → Fi (F h₅) a b := fun a b hab => T.stable _ _ _ _ _ hab fun c o hc e => hs₅.extBut c o (hbD c hc) e
      refine wpAny_pure (wpAny_pure ⟨rfl, n + 1 - (vs.length + 1), by omega, m₂, ys.push y, vs ++ [(vs.length, v)], ?_, ?_, hl₅, (hn₃.keeps hk₄).sameBut hs₅ (Ne.symm hDC), hP', ?_, by rw [hlen]; exact hlt, by rw [hlen]⟩)
      · have := (hKp₃.keeps hks₄).step (h := h₅) (tk := s₄.toks) fun b o hb e0 e => hs₅.extBut b o (below b o e0).2 e
        exact this
      · rw [hlen]
        exact W.frame _ _ h₅ hst₃ fun b hb o e => hs₅.extBut b o (fun h => hDf (h ▸ hb)) (hk₄ b o e)
      · rw [List.filter_append]
        simpa [pi, hpv] using Paired.snoc (Paired.map hF₅ hF₄) (hF₅ (vs.length, v) _ hFy)
  · have hin : vs.length = n := by omega
    refine wpAny_bind (W.done _ _ _ (hin ▸ hst') fun h₁ tk₁ hk₁ => ?_)
    refine wpAny_pure ?_
    exact hR _ m' ys vs (hn'.at' fun o e => hk₁ C o hCw e) (hacc'.at fun o e => hk₁ D o hDw e) hin hP (Paired.map (fun a b hab => T.stable _ _ _ _ _ hab fun c o hc e => hk₁ c o (hbw c hc) e) hF) (hk'.step fun b o hb _ e => hk₁ b o hb e)
end
end Mine

namespace Mine
open PySem.Calls

/-- something that can be walked: pyIter makes an iterator over n values -/
def Itb (prog : Program) (w : World) (A : Around) (s₁ : Shared) (xv : Value) (n : Nat) (P : Nat → Value → Prop) : Prop :=
  ∀ (Q E : Value → Shared → Prop), (∀ I s₂ fp wr St, Keeps s₁ s₂ → s₁.heap.objs.size ≤ s₂.heap.objs.size → Walks prog w A I fp wr n P St → St 0 s₂.heap → (∀ b ∈ fp, b < s₂.heap.objs.size) → (∀ b ∈ wr, s₁.heap.objs.size ≤ b) →
    (∀ i h, St i h → ∃ o, h.get? I = some o ∧ (o.cls = .type "list_iterator" ∨ o.cls = .type "range_iterator")) → Q (.ref I) s₂) → wpAny (model prog w) A (pyIter xv) Q E s₁

section
variable {prog : Program} {w : World} {A : Around} {s₁ : Shared}
theorem itb_list (hh : A.handled = none) {l : Addr} {items : Array Value} (hl : s₁.heap.IsList l items) : Itb prog w A s₁ (.ref l) items.size (fun i v => items[i]? = some v) := by
  intro Q E h
  have hlt : l < s₁.heap.objs.size := by obtain ⟨_, e, _⟩ := hl; exact Heap.lt_size e
  refine wpAny_pyIter_list hl (h _ _ _ _ _ (keeps_push s₁ _) (by show _ ≤ (s₁.heap.push _).objs.size; rw [Heap.size_push]; exact Nat.le_succ _) (Walks.list hh s₁.heap.objs.size l (Nat.ne_of_lt hlt) items) ⟨⟨_, Heap.get?_push_size _ rfl, rfl, rfl⟩, hl.push _⟩ ?_ ?_ ?_)
  · intro b hb
    show b < (s₁.heap.push _).objs.size
    rw [Heap.size_push]
    simp at hb
    rcases hb with rfl | rfl
    · exact Nat.lt_succ_self _
    · exact Nat.lt_succ_of_lt hlt
  · intro b hb; simp at hb; exact Nat.le_of_eq hb.symm
  · rintro i h ⟨⟨o', ho', hc', _⟩, _⟩
    exact ⟨o', ho', .inl hc'⟩
theorem itb_range (hh : A.handled = none) {r : Addr} {n : Nat} {t u v : Tok} (hr : IsRange s₁.heap r 0 n 1 t u v) (hn : n ≤ 4000) : Itb prog w A s₁ (.ref r) n (fun i v => ∃ t, v = .int i t) := by
  intro Q E h
  have hsize : Builtin.Range.rangeSize 0 n 1 = n := by
    unfold Builtin.Range.rangeSize
    by_cases h0 : 0 < n
    · simp; omega
    · simp; omega
  have hsm : Builtin.Range.small 0 n 1 = true := by
    unfold Builtin.Range.small Builtin.Range.rangeFitsLong
    rw [hsize]
    simp; omega
  have W := Walks.range (prog := prog) (w := w) (A := A) hh s₁.heap.objs.size 0 1 n
  have e : (fun (i : Nat) (v : Value) => ∃ t, v = Value.int (0 + (i : Int) * 1) t) = fun (i : Nat) (v : Value) => ∃ t, v = Value.int (i : Int) t := by
    funext i v; simp
  rw [e] at W
  refine wpAny_pyIter_range hr hsm (h _ _ _ _ _ (keeps_push s₁ _) (by show _ ≤ (s₁.heap.push _).objs.size; rw [Heap.size_push]; exact Nat.le_succ _) W ?_ ?_ ?_ ?_)
  · show IsRangeIter _ _ _ _ _
    rw [hsize]
    simpa using Heap.get?_push_size _ rfl
  · intro b hb
    show b < (s₁.heap.push _).objs.size
    rw [Heap.size_push]
    simp at hb
    rw [hb]; exact Nat.lt_succ_self _
  · intro b hb; simp at hb; exact Nat.le_of_eq hb.symm
  · intro i h st
    exact ⟨_, st, .inr rfl⟩
end

/-- what a turn of a comprehension must do, seen from the state ahead of it -/
structure Turn (prog : Program) (w : World) (A : Around) (env : Env) (scope : Scope) (cl : List (Str × Addr)) (target : Expr) (ifs : List Expr) (elt : Expr) (P : Nat → Value → Prop) (Bd : Value → (Str → Option Value) → Prop)
    (pass : Nat → Value → Bool) (F : Addr → Heap → Nat → Value → Value → Prop) (s₁ : Shared) : Prop where
  lets : ∀ I v s₃ E' (Q' : Unit → Shared → Prop), (∃ o, s₃.heap.get? I = some o ∧ (o.cls = .type "list_iterator" ∨ o.cls = .type "range_iterator")) → Q' () s₃ → wpAny (model prog w) A (letOwnedTupleGo target (.ref I) v) Q' E' s₃
  bind : ∀ C i v s₃ m₃ E' (Q' : Unit → Shared → Prop), P i v → s₃.heap.Ns C m₃ → Keeps s₁ s₃ → (∀ h' m' tk, h'.Ns C m' → Bd v m' → Heap.ExtBut C s₃.heap h' → Q' () { s₃ with heap := h', toks := tk }) →
    wpAny (model prog w) A (assign target (compEnvC scope cl C env) v) Q' E' s₃
  tests : ∀ C i v s₃ m₃ E', P i v → s₃.heap.Ns C m₃ → Bd v m₃ → Keeps s₁ s₃ →
    wpAny (model prog w) A (forIn ifs true fun c r => if r = true then do let ok ← isTrue c (compEnvC scope cl C env) (eval c (compEnvC scope cl C env)); pure (ForInStep.yield ok) else pure (ForInStep.yield r))
      (fun ok s₄ => ok = pass i v ∧ Keeps s₃ s₄) E' s₃
  elt : ∀ lo C i v s₃ m₃ E', P i v → pass i v = true → s₃.heap.Ns C m₃ → Bd v m₃ → Keeps s₁ s₃ → s₁.heap.objs.size ≤ lo → lo ≤ s₃.heap.objs.size →
    wpAny (model prog w) A (eval elt (compEnvC scope cl C env)) (fun y s₄ => F lo s₄.heap i v y ∧ Keeps s₃ s₄) E' s₃
  stable : ∀ lo h h' i v y, F lo h i v y → (∀ b o, lo ≤ b → h.get? b = some o → h'.get? b = some o) → F lo h' i v y

section
variable {prog : Program} {w : World} {A : Around} {env : Env} {scope : Scope} {cl : List (Str × Addr)} {target iter elt : Expr} {ifs : List Expr} {P : Nat → Value → Prop} {Bd : Value → (Str → Option Value) → Prop} {pass : Nat → Value → Bool}
  {F : Addr → Heap → Nat → Value → Value → Prop} {s₁ s₂ : Shared} {I : Addr} {wr : List Addr}
theorem kp_keeps (h12 : Keeps s₁ s₂) (hwr : ∀ b ∈ wr, s₁.heap.objs.size ≤ b) {s₃ : Shared} (x : Kp wr s₂ s₃) : Keeps s₁ s₃ := by
  obtain ⟨h, tk, rfl, hk⟩ := h12
  obtain ⟨h', tk', rfl, hk'⟩ := x
  exact ⟨h', tk', rfl, fun b o e => hk' b o (fun hm => Nat.lt_irrefl _ (Nat.lt_of_lt_of_le (Heap.lt_size e) (hwr b hm))) (hk b o e)⟩

theorem Turn.ok (T : Turn prog w A env scope cl target ifs elt P Bd pass F s₁) (h12 : Keeps s₁ s₂) (hwr : ∀ b ∈ wr, s₁.heap.objs.size ≤ b) (hsz : s₁.heap.objs.size ≤ s₂.heap.objs.size) :
    TurnOk prog w A env scope cl target ifs elt I wr P Bd pass (F (s₂.heap.objs.size + 2)) s₂ where
  lets := fun v s₃ E' Q' _ hI hq => T.lets I v s₃ E' Q' hI hq
  bind := fun C i v s₃ m₃ E' Q' _ hP hn hk hq => T.bind C i v s₃ m₃ E' Q' hP hn (kp_keeps h12 hwr hk) hq
  tests := fun C i v s₃ m₃ E' _ hP hn hb hk => T.tests C i v s₃ m₃ E' hP hn hb (kp_keeps h12 hwr hk)
  elt := fun C i v s₃ m₃ E' hC hP hp hn hb hk => T.elt _ C i v s₃ m₃ E' hP hp hn hb (kp_keeps h12 hwr hk) (Nat.le_trans hsz (Nat.le_add_right _ 2)) (by have := hn.lt; rw [hC] at this; exact this)
  stable := fun h h' i v y hF hk => T.stable _ h h' i v y hF hk

variable {E : Value → Shared → Prop} {s : Shared} {pos : Pos} {n : Nat}

/-- the block of a comprehension, up to its end -/
theorem comp_block {RR : Value → Addr → Result → Shared → Prop} {fp : List Addr} {St : Nat → Heap → Prop} (T : Turn prog w A env scope cl target ifs elt P Bd pass F s₁) (h12 : Keeps s₁ s₂) (hsz12 : s₁.heap.objs.size ≤ s₂.heap.objs.size)
    (W : Walks prog w A I fp wr n P St) (hsz : n ≤ sizeLine) (hst : St 0 s₂.heap) (hfp : ∀ b ∈ fp, b < s₂.heap.objs.size) (hwr : ∀ b ∈ wr, s₁.heap.objs.size ≤ b)
    (hI : ∀ i h, St i h → ∃ o, h.get? I = some o ∧ (o.cls = .type "list_iterator" ∨ o.cls = .type "range_iterator")) (hcell : ∀ y ∈ scope.names, y.2 ≠ .cell) (hkind : scope.kind = .function)
    (hR : ∀ C D lo s' m' ys (vs : List (Nat × Value)), D ≠ C → s₁.heap.objs.size ≤ D → s₁.heap.objs.size ≤ C → C < lo → D < lo → s'.heap.Ns C m' → s'.heap.PlainList D ys → vs.length = n → (∀ j q, vs[j]? = some q → q.1 = j ∧ P j q.2) → Paired (Fi (F lo s'.heap)) (vs.filter (pi pass)) ys.toList → Keeps s₁ s' → RR (.ref D) C (.ok .next) s') :
    wpAny (model prog w) A (newList []) (fun acc s₃ => wpAny (model prog w) A (newFunctionEnv scope env.globals cl [] env.qual none .none (some env)) (fun cenv s₄ =>
      codeAny (model prog w) A (.compStart (.ListComp elt [⟨target, iter, ifs, 0⟩] scope pos) 0 (.ref I) acc { cenv with scope := relabel scope env }) (RR acc cenv.locals) s₄) E s₃) E s₂ := by
  refine wpAny_newObj_type (wpAny_newFunctionEnv hcell (by intro y hy; simp at hy) (fun h₁ hns₁ hsb₁ => ?_) hkind)
  dsimp only at hns₁ hsb₁ ⊢
  generalize hH2 : s₂.heap.push { cls := .type "list", dict := none, data := .seq ([] : List Value).toArray } = H2 at hns₁ hsb₁ ⊢
  have hC : H2.objs.size = s₂.heap.objs.size + 1 := by rw [← hH2, Heap.size_push]
  have hDC : s₂.heap.objs.size ≠ H2.objs.size := by rw [hC]; exact Nat.ne_of_lt (Nat.lt_succ_self _)
  have old : ∀ b o, s₂.heap.get? b = some o → h₁.get? b = some o := fun b o e => hsb₁.extBut b o (by have := Heap.lt_size e; rw [hC]; exact Nat.ne_of_lt (Nat.lt_succ_of_lt this)) (Heap.get?_push_of_some _ (hH2 ▸ Heap.get?_push_of_some _ e))
  have hacc : h₁.PlainList s₂.heap.objs.size #[] := ⟨_, hsb₁.extBut _ _ hDC (Heap.get?_push_of_some _ (hH2 ▸ Heap.get?_push_size _ rfl))⟩
  have loop : codeAny (model prog w) A (.compLoop (.ListComp elt [⟨target, iter, ifs, 0⟩] scope pos) 0 (.ref I) (.ref s₂.heap.objs.size) (compEnvC scope cl H2.objs.size env)) (RR (.ref s₂.heap.objs.size) H2.objs.size) { s₂ with heap := h₁, toks := s₂.toks + ([] : List (Str × Value)).length } := by
    refine comp_loop W hsz (T.ok h12 hwr hsz12) rfl hC hfp hI (W.frame _ _ _ hst fun b _ o e => old b o e) hacc hns₁ ⟨_, _, rfl, fun b o _ e => old b o e⟩ ?_
    intro s' m' ys vs hn hpl hlen hP hF hk
    refine hR _ _ (s₂.heap.objs.size + 2) s' m' ys vs hDC hsz12 (by rw [hC]; exact Nat.le_succ_of_le hsz12) (by rw [hC]; exact Nat.lt_succ_self _) (Nat.lt_add_of_pos_right (by decide)) hn hpl hlen hP hF (kp_keeps h12 hwr hk)
  exact codeAny_compStart_list loop (W.self 0 _ _ _ (W.frame _ _ _ hst fun b _ o e => old b o e) loop)

theorem comp_ev {Q : Value → Shared → Prop} (hclos : closureFor scope env = pure cl) (hcell : ∀ y ∈ scope.names, y.2 ≠ .cell) (hkind : scope.kind = .function)
    (hnames : ∀ y ∈ scope.names, y.2 = .local → scope.names.lookup y.1 = some .local)
    (h : wpAny (model prog w) A (eval iter env) (fun xv s₁ => ∃ n P Bd pass F, n ≤ sizeLine ∧ Itb prog w A s₁ xv n P ∧ Turn prog w A env scope cl target ifs elt P Bd pass F s₁ ∧
      ∀ D lo s' ys (vs : List (Nat × Value)), s₁.heap.objs.size ≤ D → D < lo → Keeps s₁ s' → s'.heap.PlainList D ys → vs.length = n → (∀ j q, vs[j]? = some q → q.1 = j ∧ P j q.2) → Paired (Fi (F lo s'.heap)) (vs.filter (pi pass)) ys.toList → Q (.ref D) s') E s)
    (hs : ∀ x, foldedSetIterable iter env x = pure x := by intro _; rfl) :
    wpAny (model prog w) A (eval (.ListComp elt [⟨target, iter, ifs, 0⟩] scope pos) env) Q E s := by
  rw [eval_ListComp]
  refine wpAny_comprehension_free (use := none) rfl hs hclos hkind hnames (wpAny_mono h (fun xv s₁ h₁ => ?_) fun _ _ e => e)
  obtain ⟨n, P, Bd, pass, F, hsz, hI, T, hQ⟩ := h₁
  refine hI _ _ fun I s₂ fp wr St h12 hsz12 W hst hfp hwr hcls => ?_
  refine comp_block (RR := fun acc C => compPost (model prog w) A E none Q acc C) T h12 hsz12 W hsz hst hfp hwr hcls hcell hkind ?_
  intro C D lo s' m' ys vs hDC hD hC hClo hDlo hn hpl hlen hP hF hk
  refine ⟨m', hn, fun h'' hs'' => hQ D lo _ ys vs hD hDlo ?_ (hpl.extBut hs''.extBut hDC) hlen hP (Paired.map (fun a b hab => T.stable _ _ _ _ _ _ hab fun c o hc e => hs''.extBut c o (fun e1 => Nat.lt_irrefl _ (Nat.lt_of_lt_of_le hClo (e1 ▸ hc))) e) hF)⟩
  obtain ⟨h', tk', rfl, hk⟩ := hk
  exact ⟨h'', tk', rfl, fun b o e => hs''.extBut b o (fun e1 => Nat.lt_irrefl _ (Nat.lt_of_lt_of_le (Heap.lt_size e) (e1 ▸ hC))) (hk b o e)⟩

/-- y = [..] -/
theorem comp_assign {Q : Flow → Shared → Prop} {y : Str} {py spos : Pos} (hclos : closureFor scope env = pure cl) (hcell : ∀ y ∈ scope.names, y.2 ≠ .cell) (hkind : scope.kind = .function)
    (hnames : ∀ y ∈ scope.names, y.2 = .local → scope.names.lookup y.1 = some .local)
    (hsw : swapsWith (.ListComp elt [⟨target, iter, ifs, 0⟩] scope pos) (some (.Name y py)) spos.line env = pure true) (hy : env.kindOf y = some .local)
    (hp : (env.scope.kind == .class || (env.scope.kind == .module && env.locals != env.globals)) = false)
    (h : wpAny (model prog w) A (eval iter env) (fun xv s₁ => ∃ n P Bd pass F m, n ≤ sizeLine ∧ s₁.heap.Ns env.locals m ∧ Itb prog w A s₁ xv n P ∧ Turn prog w A env scope cl target ifs elt P Bd pass F s₁ ∧
      ∀ D lo s' ys (vs : List (Nat × Value)), s₁.heap.objs.size ≤ D → D < lo → (∃ h' tk, s' = { s₁ with heap := h', toks := tk } ∧ ∀ b o, b ≠ env.locals → s₁.heap.get? b = some o → h'.get? b = some o) →
        s'.heap.Ns env.locals (fun z => if z = y then some (.ref D) else m z) → s'.heap.PlainList D ys → vs.length = n → (∀ j q, vs[j]? = some q → q.1 = j ∧ P j q.2) → Paired (Fi (F lo s'.heap)) (vs.filter (pi pass)) ys.toList → Q .next s') E s)
    (hs : ∀ x, foldedSetIterable iter env x = pure x := by intro _; rfl) :
    wpAny (model prog w) A (exec (.Assign [.Name y py] (.ListComp elt [⟨target, iter, ifs, 0⟩] scope pos) spos) env) Q E s := by
  rw [exec_Assign_Name_used _ _ _ _ hsw]
  refine wpAny_bind (wpAny_standAt (wpAny_bind ?_))
  show wpAny _ A (do let _ ← comprehension (.ListComp elt [⟨target, iter, ifs, 0⟩] scope pos) scope env _ (newList []) false (eval iter env) (some (assign (.Name y py) env))) _ _ s
  refine wpAny_bind (wpAny_mono (wpAny_comprehension_free (use := some (assign (.Name y py) env)) (Q := fun _ s' => Q .next s') rfl hs hclos hkind hnames
    (wpAny_mono h (fun xv s₁ h₁ => ?_) fun _ _ e => e)) (fun _ s' hq => wpAny_pure (wpAny_pure hq)) fun _ _ e => e)
  obtain ⟨n, P, Bd, pass, F, m, hsz, hnL, hI, T, hQ⟩ := h₁
  refine hI _ _ fun I s₂ fp wr St h12 hsz12 W hst hfp hwr hcls => ?_
  refine comp_block (RR := fun acc C => compPost (model prog w) A E (some (assign (.Name y py) env)) (fun _ s' => Q .next s') acc C) T h12 hsz12 W hsz hst hfp hwr hcls hcell hkind ?_
  intro C D lo s' m' ys vs hDC hD hC hClo hDlo hn hpl hlen hP hF hk
  have hLlt := hnL.lt
  have hLC : env.locals ≠ C := fun e => Nat.lt_irrefl _ (Nat.lt_of_lt_of_le (e ▸ hLlt) hC)
  have hLD : env.locals ≠ D := fun e => Nat.lt_irrefl _ (Nat.lt_of_lt_of_le (e ▸ hLlt) hD)
  show wpAny _ A (assign (.Name y py) env (.ref D)) _ _ _
  refine wpAny_assign_Name (wpAny_storeName_local hy (hnL.keeps (Keeps.keep hk)) (fun h₂ hn₂ hs₂ => ?_) hp)
  refine ⟨m', hn.sameBut hs₂ (Ne.symm hLC), fun h₃ hs₃ => ?_⟩
  refine hQ D lo _ ys vs hD hDlo ?_ (hn₂.sameBut hs₃ hLC) ((hpl.extBut hs₂.extBut (Ne.symm hLD)).extBut hs₃.extBut hDC) hlen hP (Paired.map (fun a b hab => ?_) hF)
  · obtain ⟨h', tk', rfl, hk⟩ := hk
    exact ⟨h₃, _, rfl, fun b o hb e => hs₃.extBut b o (fun e1 => Nat.lt_irrefl _ (Nat.lt_of_lt_of_le (Heap.lt_size e) (e1 ▸ hC))) (hs₂.extBut b o hb (hk b o e))⟩
  · refine T.stable _ _ _ _ _ _ hab fun c o hc e => hs₃.extBut c o (fun e1 => Nat.lt_irrefl _ (Nat.lt_of_lt_of_le hClo (e1 ▸ hc))) (hs₂.extBut c o (fun e1 => ?_) e)
    have h1 : s₁.heap.objs.size < c := Nat.lt_of_le_of_lt hD (Nat.lt_of_lt_of_le hDlo hc)
    exact Nat.lt_irrefl _ (Nat.lt_trans (e1 ▸ hLlt) h1)
end
end Mine

namespace Mine
open PySem.Calls

def kindOf : Plan → Str
  | .num _ => "number" | .text _ => "text" | .set .. => "set" | .none => "none" | .table .. => "table" | .list _ => "list" | .tup _ => "tuple"
def Content (h : Heap) (bad : Addr) (c : Value) : Plan → Prop
  | .num n => ∃ t, c = .int n t
  | .text cs => ∃ b vs, c = .ref b ∧ b ≠ bad ∧ h.IsList b (vs : List Value).toArray ∧ IntsAre vs (cs.map fun (c : Nat) => (c : Int)) ∧ TextOk cs
  | .set b1 b2 b3 b4 => ∃ b vs, c = .ref b ∧ b ≠ bad ∧ h.IsList b (vs : List Value).toArray ∧ IntsAre vs (setKs b1 b2 b3 b4)
  | .none => ∃ t, c = .int 0 t
  | .table b1 b2 v => ∃ b vs, c = .ref b ∧ b ≠ bad ∧ h.IsList b (vs : List Value).toArray ∧ PairsAre h bad vs (tabKvs b1 b2 v)
  | .list ps => ∃ b vs, c = .ref b ∧ b ≠ bad ∧ h.IsList b (vs : List Value).toArray ∧ PAll h bad vs ps
  | .tup ps => ∃ b vs, c = .ref b ∧ b ≠ bad ∧ h.IsList b (vs : List Value).toArray ∧ PAll h bad vs ps
theorem PAt.shape {h : Heap} {bad : Addr} {v : Value} {p : Plan} (x : PAt h bad v p) : ∃ a t c, v = .ref a ∧ a ≠ bad ∧ h.IsList a #[.str (kindOf p) t, c] ∧ Content h bad c p := by
  cases x with
  | num h1 h2 => exact ⟨_, _, _, rfl, h1, h2, _, rfl⟩
  | text h1 h2 h3 h4 h5 h6 => exact ⟨_, _, _, rfl, h1, h3, _, _, rfl, h2, h4, h5, h6⟩
  | set h1 h2 h3 h4 h5 => exact ⟨_, _, _, rfl, h1, h3, _, _, rfl, h2, h4, h5⟩
  | none h1 h2 => exact ⟨_, _, _, rfl, h1, h2, _, rfl⟩
  | table h1 h2 h3 h4 h5 => exact ⟨_, _, _, rfl, h1, h3, _, _, rfl, h2, h4, h5⟩
  | list h1 h2 h3 h4 h5 => exact ⟨_, _, _, rfl, h1, h3, _, _, rfl, h2, h4, h5⟩
  | tup h1 h2 h3 h4 h5 => exact ⟨_, _, _, rfl, h1, h3, _, _, rfl, h2, h4, h5⟩

mutual
def wt : Plan → Nat
  | .list ps => wts ps + 1
  | .tup ps => wts ps + 1
  | _ => 1
def wts : List Plan → Nat
  | [] => 0
  | p :: ps => wt p + wts ps
end
mutual
theorem deep_le_wt : ∀ p : Plan, deep p ≤ wt p
  | .num _ => by simp [deep, wt]
  | .text _ => by simp [deep, wt]
  | .set .. => by simp [deep, wt]
  | .none => by simp [deep, wt]
  | .table .. => by simp [deep, wt]
  | .list ps => Nat.succ_le_succ (deeps_le_wts ps)
  | .tup ps => Nat.succ_le_succ (deeps_le_wts ps)
theorem deeps_le_wts : ∀ ps : List Plan, deeps ps ≤ wts ps
  | [] => by simp [deeps, wts]
  | p :: ps => by have := deep_le_wt p; have := deeps_le_wts ps; simp only [deeps, wts]; omega
end

theorem preSum_getD (ns : List Int) : ∀ j, preSum (fun i => ns.getD i 0) j = (ns.take j).sum
  | 0 => by simp [preSum]
  | j + 1 => by
    rw [preSum, preSum_getD ns j, List.take_add_one, List.sum_append, List.getD_eq_getElem?_getD]
    cases ns[j]? <;> simp
section
variable {prog : Program} {w : World} {A : Around} {E : Value → Shared → Prop} {s : Shared} {Q : Value → Shared → Prop}
theorem keeps_of_kp {s₁ s₂ : Shared} {wr : List Addr} {h' : Heap} {tk : Nat} (h12 : Keeps s₁ s₂) (hwr : ∀ b ∈ wr, s₁.heap.objs.size ≤ b) (hk : ∀ b o, b ∉ wr → s₂.heap.get? b = some o → h'.get? b = some o) : Keeps s₁ { s₂ with heap := h', toks := tk } :=
  kp_keeps h12 hwr ⟨h', tk, rfl, hk⟩
theorem call_sum {l : Addr} {vs : List Value} {ns : List Int} (hh : A.handled = none) (hl : s.heap.IsList l vs.toArray) (hi : IntsAre vs ns) (h : ∀ t s', Keeps s s' → Q (.int ns.sum t) s') :
    wpAny (model prog w) A (call (.builtin "sum") [.ref l]) Q E s := by
  refine call_sum_walkG (itb_list (A := A.in1) hh hl _ _ fun I s₂ fp wr St h12 _ W hst hfp hwr _ => ?_)
  refine ⟨I, fp, wr, _, _, St, fun i => ns.getD i 0, rfl, W, hst, hfp, fun i v hv => ?_, fun h' tk t' hk => ?_⟩
  · exact IntsAre.int_at hi i v (by simpa using hv)
  · have e : preSum (fun i => ns.getD i 0) vs.toArray.size = ns.sum := by
      rw [preSum_getD, List.size_toArray, hi.length, List.take_length]
    rw [e]
    exact h _ _ (keeps_of_kp h12 hwr hk)
end

theorem g_weight (w : World) : nsIn (KF w) mainGlobals "_law_weight" = some (some (.ref 33)) := by kernel_rfl
theorem g_sum (w : World) : nsIn (KF w) mainGlobals "sum" = some none := by kernel_rfl
theorem b_sum : bootBuiltins "sum" = some (.builtin "sum") := by kernel_rfl

theorem item0 {x y : Value} : ItemAt #[x, y] 0 x := .inl ⟨by decide, by decide, rfl⟩
theorem item1 {x y : Value} : ItemAt #[x, y] 1 y := .inl ⟨by decide, by decide, rfl⟩

theorem paired_get {α β : Type} {R : α → β → Prop} : ∀ {l₁ : List α} {l₂ : List β}, Paired R l₁ l₂ → ∀ (j : Nat) (b : β), l₂[j]? = some b → ∃ a, l₁[j]? = some a ∧ R a b
  | _, _, .nil, j, b, e => by simp at e
  | _, _, .cons h r, 0, b, e => by simp at e; subst e; exact ⟨_, rfl, h⟩
  | _, _, .cons h r, j + 1, b, e => by simpa using paired_get r j b (by simpa using e)
theorem outs_all {n : Nat} {P : Nat → Value → Prop} {G : Nat → Value → Value → Prop} {vs : List (Nat × Value)} {ys : List Value} (hlen : vs.length = n) (hP : ∀ j q, vs[j]? = some q → q.1 = j ∧ P j q.2) (hF : Paired (Fi G) (vs.filter (pi fun _ _ => true)) ys) :
    ys.length = n ∧ ∀ j y, ys[j]? = some y → ∃ v, P j v ∧ G j v y := by
  have e : vs.filter (pi fun _ _ => true) = vs := List.filter_eq_self.mpr fun _ _ => rfl
  rw [e] at hF
  refine ⟨by rw [← hF.length, hlen], fun j y hy => ?_⟩
  obtain ⟨q, hq, h⟩ := paired_get hF j y hy
  obtain ⟨h1, h2⟩ := hP j q hq
  refine ⟨q.2, h2, ?_⟩
  have h' : G q.1 q.2 y := h
  rw [h1] at h'; exact h'
theorem ints_of : ∀ {ys : List Value} {ns : List Int}, ys.length = ns.length → (∀ (j : Nat) (y : Value), ys[j]? = some y → ∃ (n : Int) (t : Tok), ns[j]? = some n ∧ y = Value.int n t) → IntsAre ys ns
  | [], [], _, _ => .nil
  | [], _ :: _, h, _ => by cases h
  | _ :: _, [], h, _ => by cases h
  | y :: ys, n :: ns, hl, h => by
    obtain ⟨n', t, h1, rfl⟩ := h 0 y rfl
    simp at h1; subst h1
    exact .cons _ _ (ints_of (by simpa using hl) fun j y hy => by simpa using h (j + 1) y (by simpa using hy))
theorem length_le_wts : ∀ ps : List Plan, ps.length ≤ wts ps
  | [] => Nat.le_refl _
  | p :: ps => by
    have := length_le_wts ps
    have h1 : 1 ≤ wt p := by cases p <;> simp [wt]
    simp only [List.length_cons, wts]; omega
theorem wt_le_wts {ps : List Plan} {p : Plan} (h : p ∈ ps) : wt p ≤ wts ps := by
  induction ps with
  | nil => cases h
  | cons q ps ih =>
    simp only [wts]
    rcases List.mem_cons.mp h with rfl | h
    · omega
    · have := ih h; omega
theorem sum_wts : ∀ ps : List Plan, (ps.map fun p => (wt p : Int)).sum = (wts ps : Int)
  | [] => rfl
  | p :: ps => by rw [List.map_cons, List.sum_cons, sum_wts ps]; simp only [wts]; push_cast; rfl

/-- a name for the whole of a comprehension's clause -/
theorem bind_name {prog : Program} {w : World} {A : Around} {env : Env} {scope : Scope} {cl : List (Str × Addr)} {x : Str} {px : Pos} {C : Addr} {v : Value} {s₃ : Shared} {m₃ : Str → Option Value} {E' : Value → Shared → Prop} {Q' : Unit → Shared → Prop}
    (hn : s₃.heap.Ns C m₃) (hq : ∀ h' m' tk, h'.Ns C m' → m' x = some v → Heap.ExtBut C s₃.heap h' → Q' () { s₃ with heap := h', toks := tk })
    (hk : scope.kind = .function) (hx : scope.names.lookup x = some .local) : wpAny (model prog w) A (assign (.Name x px) (compEnvC scope cl C env) v) Q' E' s₃ := by
  refine wpAny_assign_Name (wpAny_storeName_local (env := compEnvC scope cl C env) (lookup_relabel_local hx) hn (fun h' hn' hs' => hq h' _ _ hn' (by simp) hs'.extBut) ?_)
  simp [compEnvC, relabel, hk]
theorem lets_name {prog : Program} {w : World} {A : Around} {x : Str} {px : Pos} {I : Addr} {v : Value} {s₃ : Shared} {E' : Value → Shared → Prop} {Q' : Unit → Shared → Prop} (hq : Q' () s₃) : wpAny (model prog w) A (letOwnedTupleGo (.Name x px) (.ref I) v) Q' E' s₃ := wpAny_pure hq
/-- reading within a comprehension -/
theorem comp_rd {env : Env} {scope : Scope} {cl : List (Str × Addr)} {C : Addr} {m cm m₃ : Str → Option Value} {h h₃ : Heap} (X : Rd env m cm h) (hk : Keep h h₃) (hn : h₃.Ns C m₃) (hcl : ∀ n c, cl.lookup n = some c → env.cells.lookup n = some c) : Rd (compEnvC scope cl C env) m₃ cm h₃ :=
  ⟨hn, fun n c e => (X.cell n c (hcl n c e)).keeps hk⟩
theorem comp_ok {env : Env} {sc scope : Scope} {cl : List (Str × Addr)} {C : Addr} (hE : EnvOk env sc) : EnvOk (compEnvC scope cl C env) (relabel scope env) := ⟨rfl, hE.gl, hE.bl⟩


/-! which kind -/
def is_num : Plan → Bool
  | .num _ => true
  | _ => false
theorem k_num (p : Plan) : (kindOf p == ("number" : Str)) = is_num p := by
  cases p <;> rfl
def is_text : Plan → Bool
  | .text _ => true
  | _ => false
theorem k_text (p : Plan) : (kindOf p == ("text" : Str)) = is_text p := by
  cases p <;> rfl
def is_set : Plan → Bool
  | .set .. => true
  | _ => false
theorem k_set (p : Plan) : (kindOf p == ("set" : Str)) = is_set p := by
  cases p <;> rfl
def is_none : Plan → Bool
  | .none => true
  | _ => false
theorem k_none (p : Plan) : (kindOf p == ("none" : Str)) = is_none p := by
  cases p <;> rfl
def is_table : Plan → Bool
  | .table .. => true
  | _ => false
theorem k_table (p : Plan) : (kindOf p == ("table" : Str)) = is_table p := by
  cases p <;> rfl
def is_list : Plan → Bool
  | .list _ => true
  | _ => false
theorem k_list (p : Plan) : (kindOf p == ("list" : Str)) = is_list p := by
  cases p <;> rfl
def is_tup : Plan → Bool
  | .tup _ => true
  | _ => false
theorem k_tup (p : Plan) : (kindOf p == ("tuple" : Str)) = is_tup p := by
  cases p <;> rfl

theorem weight_call {prog : Program} {w : World} : ∀ (n : Nat) (p : Plan), sizeOf p < n → ∀ {A : Around} {E : Value → Shared → Prop} {s : Shared} {Q : Value → Shared → Prop} {bad : Addr} {v : Value}, Amb w s.heap → PAt s.heap bad v p → A.handled = none →
    A.depth + deep p < recursionLimit → wt p ≤ 1000 → (∀ t s', Keeps s s' → Q (.int (wt p) t) s') → wpAny (model prog w) A (call (.ref 33) [v]) Q E s := by
  intro n
  induction n with
  | zero => intro p h; exact absurd h (Nat.not_lt_zero _)
  | succ n ih =>
    intro p hn A E s Q bad v am hp hh hd hw h
    refine call_fn1 (n := "plan") am rfl rfl rfl rfl rfl ⟨_, _, rfl, rfl⟩ rfl (.inl rfl) (by omega) ?_
    intro env s₁ m cm hE hcl hL F hb
    have hm := hb.loc rfl
    obtain ⟨a, t, c, rfl, _, hl, hc⟩ := hp.shape
    have hk1 : Keep s.heap s₁.heap := Keeps.keep F.done
    have hl1 : s₁.heap.IsList a #[.str (kindOf p) t, c] := IsList.keep hl fun o ho => hk1 _ o ho
    refine wpAny_execs_cons (wpAny_If ?_)
    have am1 := am.keep hk1
    have F2 : ∀ t, Inn s env m cm { s₁ with toks := t } := fun t => F.tok t
    refine isTrue_or (wpAny_isTrue_Compare1 (sub_item (ev_local F.rd hE hm (wpAny_Constant_int ⟨_, _, _, _, _, rfl, rfl, hl1, item0, Constant_str (PyProof.Rows.eq_str (wpAny_truthy_bool ?_))⟩))))
    rw [k_list]
    cases p
    case list ps =>
      rw [if_pos (by simp [is_list]), if_pos rfl]
      (
      obtain ⟨b, vs, rfl, _, hlb, hall⟩ := hc
      have hlb1 : s₁.heap.IsList b vs.toArray := IsList.keep hlb fun o ho => hk1 _ o ho
      have hlen := hall.length
      refine wpAny_execs_cons (wpAny_Return_some (wpAny_BinOp (wpAny_Constant_int ?_)))
      refine ev_bi1 am1 hE (g_sum w) b_sum (comp_ev rfl (by decide) rfl (by decide) (sub_item (ev_local (F2 _).rd hE hm (wpAny_Constant_int ⟨_, _, _, _, _, rfl, rfl, hl1, item1, ?_⟩))))
      refine ⟨_, _, fun v mm => mm "item" = some v, fun _ _ => true, fun _ _ i v y => ∃ p t, ps[i]? = some p ∧ y = Value.int (wt p) t, ?_, itb_list (A := A.deeper env) hh hlb1, ?_, ?_⟩
      · have := length_le_wts ps
        rw [List.size_toArray, hlen]
        simp only [wt] at hw
        exact sz4 (by omega)
      · refine ⟨fun I v s₃ E' Q' _ hq => lets_name hq, fun C i v s₃ m₃ E' Q' _ hn₃ _ hq => bind_name hn₃ hq rfl rfl, fun C i v s₃ m₃ E' _ _ _ _ => wpAny_tests_nil ⟨rfl, Keeps.refl _⟩, fun lo C i v s₃ m₃ E' hP _ hn₃ hb₃ hk₃ _ _ => ?_, fun lo h h' i v y hF _ => hF⟩
        have hk3 : Keep s.heap s₃.heap := Keep.trans hk1 (Keeps.keep hk₃)
        obtain ⟨p', hp1, hp2⟩ := hall.get i v (by simpa using hP)
        have hmem : p' ∈ ps := List.mem_of_getElem? hp1
        have hsz : sizeOf p' < sizeOf ps := List.sizeOf_lt_of_mem hmem
        have hdp := deep_le_deeps hmem
        have hwp := wt_le_wts hmem
        have am3 := am.keep hk3
        refine ev_call1 am3 (comp_ok hE) (g_weight w) rfl rfl (ev_local (comp_rd F.rd (Keeps.keep hk₃) hn₃ (fun _ _ e => by cases e)) (comp_ok hE) hb₃ ⟨am3, ?_⟩)
        refine ih p' (by simp only [Plan.list.sizeOf_spec] at hn; omega) am3 (hp2.keep hk3) hh (by simp only [deep] at hd; show A.depth + 1 + deep p' < _; omega) (by simp only [wt] at hw; omega) ?_
        exact fun t s' hs' => ⟨⟨p', t, hp1, rfl⟩, hs'⟩
      · intro D lo s' ys vs' hD _ hk' hpl hlen' hP' hF'
        obtain ⟨h1, h2⟩ := outs_all (P := fun i v => vs.toArray[i]? = some v) hlen' hP' hF'
        have hints : IntsAre ys.toList (ps.map fun p => (wt p : Int)) := by
          refine ints_of (by rw [h1, List.size_toArray, hlen, List.length_map]) fun j y hy => ?_
          obtain ⟨v, _, p, t, hp, rfl⟩ := h2 j y hy
          exact ⟨_, t, by rw [List.getElem?_map, hp]; rfl, rfl⟩
        refine call_sum (A := A.deeper env) hh (by simpa using hpl.isList) hints fun t' s'' hk'' => ?_
        refine P.add_int ?_
        rw [sum_wts]
        have e : (1 : Int) + (wts ps : Int) = ((wt (Plan.list ps) : Nat) : Int) := by simp only [wt]; push_cast; omega
        rw [e]
        exact h _ _ (Keeps.trans F.done (Keeps.trans (Keeps.tok _ _) (Keeps.trans hk' (Keeps.trans hk'' (Keeps.tok _ _))))))
    case tup ps =>
      rw [if_neg (by simp [is_list])]
      refine isTrue_or (wpAny_isTrue_Compare1 (sub_item (ev_local (F2 _).rd hE hm (wpAny_Constant_int ⟨_, _, _, _, _, rfl, rfl, hl1, item0, Constant_str (PyProof.Rows.eq_str (wpAny_truthy_bool ?_))⟩))))
      rw [k_tup, if_pos (by simp [is_tup]), if_pos rfl]
      (
      obtain ⟨b, vs, rfl, _, hlb, hall⟩ := hc
      have hlb1 : s₁.heap.IsList b vs.toArray := IsList.keep hlb fun o ho => hk1 _ o ho
      have hlen := hall.length
      refine wpAny_execs_cons (wpAny_Return_some (wpAny_BinOp (wpAny_Constant_int ?_)))
      refine ev_bi1 am1 hE (g_sum w) b_sum (comp_ev rfl (by decide) rfl (by decide) (sub_item (ev_local (F2 _).rd hE hm (wpAny_Constant_int ⟨_, _, _, _, _, rfl, rfl, hl1, item1, ?_⟩))))
      refine ⟨_, _, fun v mm => mm "item" = some v, fun _ _ => true, fun _ _ i v y => ∃ p t, ps[i]? = some p ∧ y = Value.int (wt p) t, ?_, itb_list (A := A.deeper env) hh hlb1, ?_, ?_⟩
      · have := length_le_wts ps
        rw [List.size_toArray, hlen]
        simp only [wt] at hw
        exact sz4 (by omega)
      · refine ⟨fun I v s₃ E' Q' _ hq => lets_name hq, fun C i v s₃ m₃ E' Q' _ hn₃ _ hq => bind_name hn₃ hq rfl rfl, fun C i v s₃ m₃ E' _ _ _ _ => wpAny_tests_nil ⟨rfl, Keeps.refl _⟩, fun lo C i v s₃ m₃ E' hP _ hn₃ hb₃ hk₃ _ _ => ?_, fun lo h h' i v y hF _ => hF⟩
        have hk3 : Keep s.heap s₃.heap := Keep.trans hk1 (Keeps.keep hk₃)
        obtain ⟨p', hp1, hp2⟩ := hall.get i v (by simpa using hP)
        have hmem : p' ∈ ps := List.mem_of_getElem? hp1
        have hsz : sizeOf p' < sizeOf ps := List.sizeOf_lt_of_mem hmem
        have hdp := deep_le_deeps hmem
        have hwp := wt_le_wts hmem
        have am3 := am.keep hk3
        refine ev_call1 am3 (comp_ok hE) (g_weight w) rfl rfl (ev_local (comp_rd F.rd (Keeps.keep hk₃) hn₃ (fun _ _ e => by cases e)) (comp_ok hE) hb₃ ⟨am3, ?_⟩)
        refine ih p' (by simp only [Plan.tup.sizeOf_spec] at hn; omega) am3 (hp2.keep hk3) hh (by simp only [deep] at hd; show A.depth + 1 + deep p' < _; omega) (by simp only [wt] at hw; omega) ?_
        exact fun t s' hs' => ⟨⟨p', t, hp1, rfl⟩, hs'⟩
      · intro D lo s' ys vs' hD _ hk' hpl hlen' hP' hF'
        obtain ⟨h1, h2⟩ := outs_all (P := fun i v => vs.toArray[i]? = some v) hlen' hP' hF'
        have hints : IntsAre ys.toList (ps.map fun p => (wt p : Int)) := by
          refine ints_of (by rw [h1, List.size_toArray, hlen, List.length_map]) fun j y hy => ?_
          obtain ⟨v, _, p, t, hp, rfl⟩ := h2 j y hy
          exact ⟨_, t, by rw [List.getElem?_map, hp]; rfl, rfl⟩
        refine call_sum (A := A.deeper env) hh (by simpa using hpl.isList) hints fun t' s'' hk'' => ?_
        refine P.add_int ?_
        rw [sum_wts]
        have e : (1 : Int) + (wts ps : Int) = ((wt (Plan.tup ps) : Nat) : Int) := by simp only [wt]; push_cast; omega
        rw [e]
        exact h _ _ (Keeps.trans F.done (Keeps.trans (Keeps.tok _ _) (Keeps.trans hk' (Keeps.trans hk'' (Keeps.tok _ _))))))
    all_goals (
      rw [if_neg (by simp [is_list])]
      refine isTrue_or (wpAny_isTrue_Compare1 (sub_item (ev_local (F2 _).rd hE hm (wpAny_Constant_int ⟨_, _, _, _, _, rfl, rfl, hl1, item0, Constant_str (PyProof.Rows.eq_str (wpAny_truthy_bool ?_))⟩))))
      rw [k_tup, if_neg (by simp [is_tup])]
      refine isTrue_or_nil ?_
      rw [if_neg (by decide)]
      refine wpAny_execs_nil (wpAny_execs_cons (wpAny_Return_some (wpAny_Constant_int ?_)))
      exact h _ _ (Keeps.trans F.done (Keeps.tok _ _)))
end Mine

namespace Mine
open PySem.Calls
open PySem.AutoSeq1 (wpAny_loadPart')

theorem miss_keys : typeLookup (.type "list") "keys" = pure none := by rw [typeLookup_type, builtinLookup_eq_fast]; kernel_rfl

section
variable {prog : Program} {w : World} {A : Around} {E : Value → Shared → Prop} {s : Shared}
theorem keys_miss {a : Addr} {xs : Array Value} {Q : Option Value → Shared → Prop} (hl : s.heap.PlainList a xs) (hA : A.handled = none) (h : ∀ s', Keeps s s' → Q none s') : wpAny (model prog w) A (getAttr? (.ref a) "keys") Q E s := by
  obtain ⟨k, hx⟩ := hl
  have hT : ∀ tk', ({ s with toks := tk' } : Shared).TypeIs (.ref a) "list" := fun _ => ⟨_, hx, rfl⟩
  unfold getAttr? getAttrBy?
  refine wpAny_bind (wpAny_mkText (wpAny_bind (wpAny_attempt ?_)))
  unfold getAttrBy
  refine wpAny_holding (wpAny_bind (wpAny_typeOf (hT _) (wpAny_bind (wpAny_of_eq F.slot_list_getattribute.lookup ?_))))
  show wpAny _ _ (if (onTheHeap (Value.type "list") && _) = true then _ else _) _ _ _
  rw [if_neg (by decide)]
  unfold getAttrByItsOwn hookBefore
  rw [if_neg (by decide)]
  refine wpAny_bind (wpAny_pure (wpAny_bind (wpAny_attempt (wpAny_holding ?_))))
  unfold callGetattribute
  rw [if_neg (by decide)]
  unfold boundAndCalled
  refine wpAny_bind (wpAny_of_eq (F.slot_list_getattribute.bind (.ref a)) ?_)
  refine call_meets F.slot_list_getattribute (hT _) am_entry_list_getattribute (F.args_list_getattribute_2 _ _) (meets_getattribute_miss_list a xs k #[] "keys" _ miss_keys (by decide)) ⟨hx, hA, fun h' tk' e hx' => ?_⟩
  obtain ⟨t', u', he⟩ := hx'.there
  have hTe : ∀ tk, ({ s with heap := h', toks := tk } : Shared).TypeIs (.ref e) "AttributeError" := fun _ => ⟨_, he, rfl⟩
  show wpAny _ _ (getattributeRaised _ _ _ _ _ _ _) _ _ _
  unfold getattributeRaised
  refine wpAny_bind (wpAny_isInstance (hTe _) sub_AttributeError ?_)
  rw [if_pos rfl]
  unfold hookBehind
  rw [if_neg (by decide)]
  refine wpAny_bind (wpAny_of_eq am_list_getattr_none ?_)
  show wpAny _ _ (attributeErrorLeaves _ _ _ false false) _ _ _
  unfold attributeErrorLeaves
  rw [if_pos (by decide)]
  refine wpAny_throw ?_
  show wpAny _ _ (isInstance _ _ >>= _) _ _ _
  refine wpAny_bind (wpAny_isInstance (hTe _) sub_AttributeError ?_)
  rw [if_pos rfl]
  exact wpAny_pure (h _ ⟨h', tk', rfl, hx'.keeps⟩)

/-- a list of pairs, each a tuple -/
inductive TupsAre (h : Heap) : List Value → List (Int × Value) → Prop
  | nil : TupsAre h [] []
  | cons {c : Addr} {k : Int} {t : Tok} {v : Value} {vs : List Value} {kvs : List (Int × Value)} : h.IsTuple c #[.int k t, v] → TupsAre h vs kvs → TupsAre h (.ref c :: vs) ((k, v) :: kvs)
theorem TupsAre.keep {h h' : Heap} (hk : ∀ b o, h.get? b = some o → (∃ xs n, o.data = .seq xs n) → h'.get? b = some o) : ∀ {vs : List Value} {kvs : List (Int × Value)}, TupsAre h vs kvs → TupsAre h' vs kvs
  | _, _, .nil => .nil
  | _, _, .cons h1 h2 => .cons (by obtain ⟨o, ho, hc, n, hd⟩ := h1; exact ⟨o, hk _ o ho ⟨_, _, hd⟩, hc, n, hd⟩) (h2.keep hk)
theorem TupsAre.get {h : Heap} : ∀ {vs : List Value} {kvs : List (Int × Value)}, TupsAre h vs kvs → ∀ (j : Nat) (v : Value), vs[j]? = some v → ∃ c k t x, v = .ref c ∧ kvs[j]? = some (k, x) ∧ h.IsTuple c #[.int k t, x]
  | _, _, .nil, j, v, e => by simp at e
  | _, _, .cons x r, 0, v, e => by simp at e; subst e; exact ⟨_, _, _, _, rfl, rfl, x⟩
  | _, _, .cons x r, j + 1, v, e => by simpa using r.get j v (by simpa using e)
theorem TupsAre.length {h : Heap} : ∀ {vs : List Value} {kvs : List (Int × Value)}, TupsAre h vs kvs → vs.length = kvs.length
  | _, _, .nil => rfl
  | _, _, .cons _ r => by rw [List.length_cons, List.length_cons, r.length]

theorem entry_dict_loop : entryFor table "dict.update.loop" = some Builtin.«dict.update.loop» := entryFor_of_tree (by kernel_rfl)
theorem plain_dict_loop : plainId "dict.update.loop" = true := by decide +kernel

theorem stored_new {kvs : List (Int × Value)} {k : Int} {v : Value} (h : k ∉ kvs.map (·.1)) : stored kvs k v = kvs ++ [(k, v)] := by
  unfold stored
  rw [if_neg]
  intro h'
  obtain ⟨p, hp, e⟩ := List.any_eq_true.mp h'
  exact h (List.mem_map.mpr ⟨p, hp, by simpa using e⟩)

theorem dict_loop {R : Result → Shared → Prop} {I d : Addr} {fp wr : List Addr} {n : Nat} {St : Nat → Heap → Prop} {vs : List Value} {kvs : List (Int × Value)} (W : Walks prog w A.in1 I fp wr n (fun i v => vs[i]? = some v) St) (hn : n = kvs.length) (hd : d ∉ fp)
    (hsz : n ≤ 4000) (hd0 : s.heap.DictOf (intKind prog w) d []) (hnd : (kvs.map (·.1)).Nodup) (htw : ∀ b o, s.heap.get? b = some o → (∃ xs n, o.data = .seq xs n) → b ∉ wr)
    (ht : TupsAre s.heap vs kvs)
    (hR : ∀ s', (∃ h' tk, s' = { s with heap := h', toks := tk } ∧ ∀ b o, b ≠ d → b ∉ wr → s.heap.get? b = some o → h'.get? b = some o) → s'.heap.DictOf (intKind prog w) d kvs → R (.ok (.ret .none)) s') :
    ∀ (k i : Nat) (s₁ : Shared), n - i = k → i ≤ n → St i s₁.heap → s₁.heap.DictOf (intKind prog w) d (kvs.take i) → (∃ h' tk, s₁ = { s with heap := h', toks := tk } ∧ ∀ b o, b ≠ d → b ∉ wr → s.heap.get? b = some o → h'.get? b = some o) →
      codeAny (model prog w) A (.builtin "dict.update.loop" ⟨[.ref d, .ref I, rawInt i, .none], []⟩) R s₁ := by
  have hdw : d ∉ wr := fun h => hd (W.sub _ h)
  intro k
  induction k with
  | zero =>
    intro i s₁ hk hi hst hdo hs
    have hin : i = n := by omega
    subst hin
    refine codeAny_builtin entry_dict_loop ?_
    rw [Around.under_plainId plain_dict_loop _]
    unfold Builtin.«dict.update.loop»
    refine wpAny_bind (W.done _ _ _ hst fun h' tk hk' => ?_)
    show wpAny _ _ (Builtin.Dict.addKeywords d [] >>= _) _ _ _
    refine wpAny_bind (wpAny_pure (wpAny_pure ?_))
    obtain ⟨h₁, tk₁, rfl, hk₁⟩ := hs
    refine hR _ ⟨h', tk, rfl, fun b o hbd hb e => hk' b o hb (hk₁ b o hbd hb e)⟩ ?_
    rw [hn, List.take_length] at hdo
    exact Mine.DictOf.keep hdo fun o e => hk' d o hdw e
  | succ k ih =>
    intro i s₁ hk hi hst hdo hs
    have hlt : i < n := by omega
    refine codeAny_builtin entry_dict_loop ?_
    rw [Around.under_plainId plain_dict_loop _]
    unfold Builtin.«dict.update.loop»
    refine wpAny_bind (W.item i _ _ _ hlt hst fun v h' tk hPv hst' hk' => ?_)
    obtain ⟨c, key, t, x, rfl, hkv, htup⟩ := ht.get i v hPv
    obtain ⟨h₁, tk₁, rfl, hk₁⟩ := hs
    have hcd : c ≠ d := by
      rintro rfl
      obtain ⟨o, es, ep, ho, _, hdt, _⟩ := hd0
      obtain ⟨o', ho', _, n', hd'⟩ := htup
      rw [ho] at ho'; cases ho'
      rw [hdt] at hd'; cases hd'
    obtain ⟨o', ho', hc', n', hd'⟩ := htup
    have hcw : c ∉ wr := htw c o' ho' ⟨_, _, hd'⟩
    have ho₂ : h'.get? c = some o' := hk' c o' hcw (hk₁ c o' hcd hcw ho')
    show wpAny _ _ (holding [Value.ref c] _ >>= _) _ _ _
    refine wpAny_bind (wpAny_holding (wpAny_bind (wpAny_tryCatch ?_)))
    unfold Builtin.Dict.pairItems
    refine wpAny_bind (wpAny_typeOf (T := "tuple") ⟨o', ho₂, hc'⟩ ?_)
    rw [if_pos (by decide)]
    unfold seqItems?
    refine wpAny_bind (wpAny_bind (wpAny_load ho₂ ?_))
    rw [hd']
    refine wpAny_pure (wpAny_pure ?_)
    show wpAny _ _ (holding [Value.int key t, x] (dictSet d (Value.int key t) x)) _ _ _
    unfold dictSet
    refine wpAny_holding (wpAny_holding (wpAny_bind ((intKind prog w).pyHash (k := key) (isInt_self key t) ?_)))
    have hkey : key ∉ (kvs.take i).map (·.1) := by
      have h1 : ((kvs.take (i + 1)).map (·.1)).Nodup := hnd.sublist ((List.take_sublist _ _).map _)
      rw [List.take_add_one, hkv, List.map_append] at h1
      intro hm
      exact (List.nodup_append.mp h1).2.2 key hm key (by simp) rfl
    refine wpAny_dictSetHashed_pairs (knd := intKind prog w) (isInt_self key t) (Mine.DictOf.keep hdo fun o e => hk' d o hdw e) (fun h₂ hdo₂ hs₂ => ?_) (sz4 (by rw [List.length_take]; omega))
    rw [stored_new hkey] at hdo₂
    refine wpAny_pure ⟨plainId_quiet plain_dict_loop _, ?_⟩
    have e1 : ((i : Int) + 1) = ((i + 1 : Nat) : Int) := by push_cast; rfl
    show codeAny _ _ (.builtin "dict.update.loop" ⟨[.ref d, .ref I, rawInt ((i : Int) + 1), .none], []⟩) _ _
    rw [e1]
    refine ih (i + 1) _ (by omega) (by omega) (W.frame _ _ _ hst' fun b hb o e => hs₂.extBut b o (fun e1 => hd (e1 ▸ hb)) e) ?_ ⟨h₂, _, rfl, fun b o hbd hb e => hs₂.extBut b o hbd (hk' b o hb (hk₁ b o hbd hb e))⟩
    rw [List.take_add_one, hkv]
    exact hdo₂

theorem dict_pairs {l : Addr} {vs : List Value} {kvs : List (Int × Value)} {Q : Value → Shared → Prop} (hh : A.handled = none) (hl : s.heap.PlainList l vs.toArray) (ht : TupsAre s.heap vs kvs) (hnd : (kvs.map (·.1)).Nodup) (hsz : kvs.length ≤ 4000)
    (h : ∀ a s', s.heap.objs.size ≤ a → Keeps s s' → s'.heap.DictOf (intKind prog w) a kvs → Q (.ref a) s') : wpAny (model prog w) A (call (.type "dict") [.ref l]) Q E s := by
  refine callType_codes (Q₁ := fun obj s₁ => obj = .ref s.heap.objs.size ∧ s₁ = { s with heap := s.heap.push { cls := .type "dict", data := .dict #[] } }) F.kt_called_dict (F.kt_typeCall_dict_1 _) F.entry_dict_init (kt_code_dict_new _ ⟨rfl, rfl⟩) ?_
  rintro obj s₁ ⟨rfl, rfl⟩
  have hnew : (s.heap.push { cls := .type "dict", data := .dict #[] }).DictOf (intKind prog w) s.heap.objs.size [] := Heap.DictOf.new s.heap
  have hl1 : (s.heap.push { cls := .type "dict", data := .dict #[] }).PlainList l vs.toArray := hl.at fun o e => Heap.get?_push_of_some _ e
  refine ⟨hnew.typeIs, F.args_dict_init_2 _ _, ?_⟩
  unfold Builtin.«dict.__init__»
  refine wpAny_bind ?_
  unfold Builtin.Dict.selfAndRest
  refine wpAny_bind (wpAny_notOrdered_dict hnew.typeIs ?_)
  show wpAny _ _ (pure (s.heap.objs.size, [Value.ref l])) _ _ _
  refine wpAny_pure ?_
  show wpAny _ _ (Builtin.Dict.updateFrom "dict.__init__" s.heap.objs.size (.ref l) [] .none) _ _ _
  unfold Builtin.Dict.updateFrom
  refine wpAny_bind (wpAny_typeOf (Heap.IsList.typeIs (s := { s with heap := s.heap.push { cls := .type "dict", data := .dict #[] } }) hl1.isList) ?_)
  rw [if_pos (by decide)]
  refine wpAny_bind (keys_miss (s := { s with heap := s.heap.push { cls := .type "dict", data := .dict #[] } }) hl1 hh fun s₂ hk₂ => ?_)
  rw [if_pos (by decide)]
  have hk2 := Keeps.keep hk₂
  have hl2 : s₂.heap.PlainList l vs.toArray := hl1.at fun o e => hk2 _ o e
  have hd2 : s₂.heap.DictOf (intKind prog w) s.heap.objs.size [] := Mine.DictOf.keep hnew fun o e => hk2 _ o e
  have ht2 : TupsAre s₂.heap vs kvs := ht.keep fun b o e _ => hk2 b o (Heap.get?_push_of_some _ e)
  refine wpAny_bind (wpAny_rule (wpAny_bind (wpAny_pyIter_list hl2.isList ?_)))
  refine wpAny_pure ⟨plainId_quiet plain_dict_loop _, ?_⟩
  have hllt : l < s₂.heap.objs.size := by obtain ⟨_, e⟩ := hl2; exact Heap.lt_size e
  have hdlt : s.heap.objs.size < s₂.heap.objs.size := by obtain ⟨_, _, _, e, _⟩ := hd2; exact Heap.lt_size e
  have W : Walks prog w A.in1.in1 s₂.heap.objs.size [s₂.heap.objs.size, l] [s₂.heap.objs.size] kvs.length (fun i v => vs[i]? = some v) (fun i h => h.IsListIter s₂.heap.objs.size l i ∧ h.IsList l vs.toArray) := by
    have W := Walks.list (prog := prog) (w := w) (A := A.in1.in1) hh s₂.heap.objs.size l (Nat.ne_of_lt hllt) vs.toArray
    have e : vs.toArray.size = kvs.length := by rw [List.size_toArray, ht.length]
    rw [e] at W
    simpa using W
  have hl0 : l ≠ s.heap.objs.size := by
    obtain ⟨_, e⟩ := hl
    exact Nat.ne_of_lt (Heap.lt_size e)
  have up : ∀ {b : Addr} {o : Obj}, s₂.heap.get? b = some o → (s₂.heap.push { cls := .type "list_iterator", data := .fields #[.ref l, .int 0 0] }).get? b = some o := fun e => Heap.get?_push_of_some _ e
  refine dict_loop (A := A.in1) (s := { s₂ with heap := s₂.heap.push { cls := .type "list_iterator", data := .fields #[.ref l, .int 0 0] } }) W rfl ?_ hsz (Mine.DictOf.keep hd2 fun o e => up e) hnd ?_ (ht2.keep fun b o e _ => up e) ?_ _ 0 _ rfl (Nat.zero_le _)
    ⟨⟨_, Heap.get?_push_size _ rfl, rfl, rfl⟩, hl2.isList.push _⟩ (Mine.DictOf.keep hd2 fun o e => up e) ⟨_, _, rfl, fun _ _ _ _ e => e⟩
  · intro hm
    simp at hm
    rcases hm with e | e
    · exact Nat.lt_irrefl _ (e ▸ hdlt)
    · exact hl0 e.symm
  · rintro b o e ⟨xs, n, hd⟩ hm
    simp at hm
    subst hm
    have e' : (s₂.heap.push { cls := .type "list_iterator", data := .fields #[.ref l, .int 0 0] }).get? s₂.heap.objs.size = some o := e
    rw [Heap.get?_push_size _ rfl] at e'
    cases e'
    cases hd
  · rintro s' ⟨h', tk, rfl, hk'⟩ hdo
    refine ⟨rfl, h _ _ (Nat.le_refl _) ?_ hdo⟩
    obtain ⟨h₂, tk₂, rfl, hk₂'⟩ := hk₂
    refine ⟨h', tk, rfl, fun b o e => hk' b o (Nat.ne_of_lt (Heap.lt_size e)) ?_ (up (hk₂' b o (Heap.get?_push_of_some _ e)))⟩
    simp
    exact Nat.ne_of_lt (Nat.lt_trans (Heap.lt_size e) hdlt)
end
end Mine

namespace Mine
open PySem.Calls

theorem ElemsI.perm {l l' : List (Int × Value)} (h : ElemsI l) (p : List.Perm l' l) : ElemsI l' := fun e he => h e (p.mem_iff.mp he)

section
variable {prog : Program} {w : World} {A : Around} {E : Value → Shared → Prop} {s : Shared}

/-- an object that bears these entries -/
theorem setAt_store {h : Heap} {cls : String} {a : Addr} {o : Obj} {es : Array (Int × Value)} {ep : Nat} {t : SetTable} (ho : h.get? a = some o) (hc : o.cls = .type cls) (hd : o.data = .set es ep t)
    {es' : Array (Int × Value)} {t' : SetTable} {ks : List Int} (hel : ElemsI es'.toList) (hmem : ∀ k, k ∈ ks ↔ ∃ e ∈ es'.toList, Value.isInt k e.2 = true) (hb : es'.size < scanBound) (hf : t'.fits es'.size = true) (hn : es'.size = ks.length) :
    (h.update a (Obj.putSet es' t')).get? a = some { o with data := .set es' (ep + 1) t' } ∧ SetAt (h.update a (Obj.putSet es' t')) cls a ks := by
  have hg : (h.update a (Obj.putSet es' t')).get? a = some { o with data := .set es' (ep + 1) t' } := by
    have := Heap.get?_update_self (Obj.putSet es' t') ho (by rw [putSet_of es' t' hd]; rfl)
    rw [putSet_of es' t' hd] at this; exact this
  exact ⟨hg, _, es', ep + 1, t', hg, hc, rfl, hel, hmem, hb, hf, hn⟩

theorem add_at {cls : String} {a : Addr} {ks : List Int} {k : Int} {t : Tok} {Q : Bool → Shared → Prop} (hS : SetAt s.heap cls a ks) (hk : k ∉ ks) (hroom : ks.length + 1 < scanBound)
    (h : ∀ h', Heap.SameBut a s.heap h' → SetAt h' cls a (ks ++ [k]) → Q true { s with heap := h' }) : wpAny (model prog w) A (setAddHashed a (.int k t) (hashInt k)) Q E s := by
  obtain ⟨o, es, ep, tb, ho, hc, hd, hel', hmem, hb, hf, hn⟩ := hS
  have hel := hel'.of prog w
  have hkey : (intKind prog w).is k (.int k t) = true := isInt_self k t
  unfold setAddHashed setAddHashedIn
  refine wpAny_holding (wpAny_bind (wpAny_setState_of ho hd hf ?_))
  dsimp only
  rw [byScan_of (knd := intKind prog w) rfl hb hel]
  simp only [↓reduceIte]
  unfold setAddByScan
  refine wpAny_bind ?_
  refine wpAny_bind (wpAny_rule ?_)
  refine wpAny_bind (wpAny_setScan_of (knd := intKind prog w) hkey ho hd hf hel ?_)
  have hnone : List.findIdx? (fun e => (intKind prog w).is k e.2) es.toList = none := by
    rw [List.findIdx?_eq_none_iff]
    intro e he
    cases hx : (intKind prog w).is k e.2 with
    | false => rfl
    | true => exact absurd ((hmem k).mpr ⟨e, he, hx⟩) hk
  rw [hnone]
  dsimp only
  have hgw : ∀ (b : Bool) {s₁ : Shared} {Q' : Unit → Shared → Prop}, Q' () s₁ → wpAny (model prog w) A (match b with | true => rule "set.scan.the-table-gave-way" | false => pure ()) Q' E s₁ :=
    fun b s₁ Q' hq => by cases b <;> first | exact wpAny_pure hq | exact wpAny_rule hq
  have hperm := layNew_perm tb es (hashInt k) (.int k t)
  have hfits := layNew_fits tb es (hashInt k) (.int k t)
  generalize hL : layNew tb es (hashInt k) (.int k t) = L at hperm hfits ⊢
  obtain ⟨es1, t1, wasDummy, gave⟩ := L
  dsimp only at hperm hfits ⊢
  rw [Array.toList_push] at hperm
  have hel1 : ElemsI es1.toList := by
    intro e he
    rcases List.mem_append.mp (hperm.mem_iff.mp he) with he | he
    · exact hel' e he
    · rw [List.mem_singleton] at he; exact ⟨k, t, he⟩
  have hmem1 : ∀ k', k' ∈ ks ++ [k] ↔ ∃ e ∈ es1.toList, Value.isInt k' e.2 = true := by
    intro k'
    rw [List.mem_append, List.mem_singleton, hmem k']
    constructor
    · rintro (⟨e, he, hi⟩ | rfl)
      · exact ⟨e, hperm.mem_iff.mpr (List.mem_append_left _ he), hi⟩
      · exact ⟨(hashInt k', .int k' t), hperm.mem_iff.mpr (List.mem_append_right _ (List.mem_singleton.mpr rfl)), isInt_self k' t⟩
    · rintro ⟨e, he, hi⟩
      rcases List.mem_append.mp (hperm.mem_iff.mp he) with he | he
      · exact .inl ⟨e, he, hi⟩
      · rw [List.mem_singleton] at he; subst he
        exact .inr (Value.isInt_inj _ _ _ hi (isInt_self k t))
  have hsz1 : es1.size = (ks ++ [k]).length := by rw [← Array.length_toList, hperm.length_eq, List.length_append, Array.length_toList, hn, List.length_append]; rfl
  have hb1 : es1.size < scanBound := by rw [hsz1, List.length_append]; exact hroom
  refine wpAny_bind (hgw _ ?_)
  have tail : ∀ t2 : SetTable, t2.fits es1.size = true → wpAny (model prog w) A (do
        storeSet a es1 t2
        if (!wasDummy && t2.tooFull) = true then do
            (match (relayAll t2 es1 (SetTable.grown es1.size)).2.2 with | true => rule "set.scan.the-table-gave-way" | false => pure ())
            storeSet a (relayAll t2 es1 (SetTable.grown es1.size)).1 (relayAll t2 es1 (SetTable.grown es1.size)).2.1
            pure (some true)
          else pure (some true)) (fun r s' => r = some true ∧ ∃ h', s' = { s with heap := h' } ∧ Heap.SameBut a s.heap h' ∧ SetAt h' cls a (ks ++ [k])) E s := by
    intro t2 hf2
    refine wpAny_bind (wpAny_storeSet_of ho hd ?_ (fits_of_scanBound hb1))
    obtain ⟨ho1, hS1⟩ := setAt_store ho hc hd hel1 hmem1 hb1 hf2 hsz1
    have hsb1 := Heap.SameBut.update s.heap a (Obj.putSet es1 t2)
    split
    · have hp := relayAll_perm t2 es1 (SetTable.grown es1.size)
      have hfr := relayAll_fits t2 es1 (SetTable.grown es1.size)
      generalize hRl : relayAll t2 es1 (SetTable.grown es1.size) = Rl at hp hfr ⊢
      obtain ⟨es2, t3, gave2⟩ := Rl
      dsimp only at hp hfr ⊢
      have hsz : es2.size = es1.size := by rw [← Array.length_toList, hp.length_eq, Array.length_toList]
      refine wpAny_bind (hgw _ ?_)
      refine wpAny_bind (wpAny_storeSet_of ho1 rfl ?_ (fits_of_scanBound (by rw [hsz]; exact hb1)))
      obtain ⟨_, hS2⟩ := setAt_store (o := { o with data := .set es1 (ep + 1) t2 }) ho1 hc rfl (hel1.perm hp) (fun k' => (hmem1 k').trans ⟨fun ⟨e, he, q⟩ => ⟨e, hp.mem_iff.mpr he, q⟩, fun ⟨e, he, q⟩ => ⟨e, hp.mem_iff.mp he, q⟩⟩) (by rw [hsz]; exact hb1) hfr (hsz.trans hsz1)
      exact wpAny_pure ⟨rfl, _, rfl, hsb1.trans (Heap.SameBut.update _ a _), hS2⟩
    · exact wpAny_pure ⟨rfl, _, rfl, hsb1, hS1⟩
  have fin : ∀ (r : Option Bool) (s' : Shared), (r = some true ∧ ∃ h', s' = { s with heap := h' } ∧ Heap.SameBut a s.heap h' ∧ SetAt h' cls a (ks ++ [k])) → wpAny (model prog w) A (match r with | some added => pure added | none => setAddHashedIn a (.int k t) (hashInt k) 99999) Q E s' := by
    rintro r s' ⟨rfl, h', rfl, hsb, hS'⟩
    exact wpAny_pure (h h' hsb hS')
  split
  · refine wpAny_bind ?_
    rw [hashByValue_scannable 8 (x := .int k t) rfl]
    refine wpAny_pure ?_
    exact wpAny_mono (tail _ hfits) (fun r s' hr => fin r s' hr) fun _ _ e => e
  · refine wpAny_bind (wpAny_pure ?_)
    simp only [↓reduceIte]
    exact wpAny_mono (tail _ hfits) (fun r s' hr => fin r s' hr) fun _ _ e => e

theorem set_loop {R : Result → Shared → Prop} {I S : Addr} {fp wr : List Addr} {n : Nat} {St : Nat → Heap → Prop} {cls : String} {ns : List Int} (W : Walks prog w A.in1 I fp wr n (fun i v => ∃ t k, ns[i]? = some k ∧ v = Value.int k t) St) (hn : n = ns.length) (hS : S ∉ fp)
    (hsz : n ≤ 4000) (hnd : ns.Nodup)
    (hR : ∀ s', (∃ h' tk, s' = { s with heap := h', toks := tk } ∧ ∀ b o, b ≠ S → b ∉ wr → s.heap.get? b = some o → h'.get? b = some o) → SetAt s'.heap cls S ns → R (.ok (.ret .none)) s') :
    ∀ (k i : Nat) (s₁ : Shared), n - i = k → i ≤ n → St i s₁.heap → SetAt s₁.heap cls S (ns.take i) → (∃ h' tk, s₁ = { s with heap := h', toks := tk } ∧ ∀ b o, b ≠ S → b ∉ wr → s.heap.get? b = some o → h'.get? b = some o) →
      codeAny (model prog w) A (.builtin "set.update.loop" ⟨[.ref S, .ref I], []⟩) R s₁ := by
  have hSw : S ∉ wr := fun h => hS (W.sub _ h)
  intro k
  induction k with
  | zero =>
    intro i s₁ hk hi hst hdo hs
    have hin : i = n := by omega
    subst hin
    refine codeAny_builtin F.entry_set_update_loop ?_
    rw [Around.under_plainId F.plain_set_update_loop _]
    show wpAny _ A.in1 (pyNext (.ref I) >>= _) _ _ s₁
    refine wpAny_bind (W.done _ _ _ hst fun h' tk hk' => ?_)
    refine wpAny_pure ?_
    obtain ⟨h₁, tk₁, rfl, hk₁⟩ := hs
    refine hR _ ⟨h', tk, rfl, fun b o hbd hb e => hk' b o hb (hk₁ b o hbd hb e)⟩ ?_
    rw [hn, List.take_length] at hdo
    exact hdo.keeps fun o e => hk' S o hSw e
  | succ k ih =>
    intro i s₁ hk hi hst hdo hs
    have hlt : i < n := by omega
    refine codeAny_builtin F.entry_set_update_loop ?_
    rw [Around.under_plainId F.plain_set_update_loop _]
    show wpAny _ A.in1 (pyNext (.ref I) >>= _) _ _ s₁
    refine wpAny_bind (W.item i _ _ _ hlt hst fun v h' tk hPv hst' hk' => ?_)
    obtain ⟨t, key, hkey, rfl⟩ := hPv
    show wpAny _ A.in1 (holding [Value.int key t] (setAdd S (.int key t)) >>= _) _ _ _
    refine wpAny_bind (wpAny_holding ?_)
    unfold setAdd
    refine wpAny_holding (wpAny_bind ((intKind prog w).pyHash (k := key) (isInt_self key t) ?_))
    have hnot : key ∉ ns.take i := by
      have h1 : (ns.take (i + 1)).Nodup := hnd.sublist (List.take_sublist _ _)
      rw [List.take_add_one, hkey] at h1
      intro hm
      exact (List.nodup_append.mp h1).2.2 key hm key (by simp) rfl
    have hroom : (ns.take i).length + 1 < scanBound := by
      have e : scanBound = 4096 := rfl
      rw [e, List.length_take]; omega
    refine add_at (s := { s₁ with heap := h', toks := tk + 1 }) (hdo.keeps fun o e => hk' S o hSw e) hnot hroom fun h₂ hs₂ hS₂ => ?_
    refine wpAny_pure ⟨plainId_quiet F.plain_set_update_loop _, ?_⟩
    obtain ⟨h₁, tk₁, rfl, hk₁⟩ := hs
    refine ih (i + 1) _ (by omega) (by omega) (W.frame _ _ _ hst' fun b hb o e => hs₂.extBut b o (fun e1 => hS (e1 ▸ hb)) e) ?_ ⟨h₂, _, rfl, fun b o hbd hb e => hs₂.extBut b o hbd (hk' b o hb (hk₁ b o hbd hb e))⟩
    rw [List.take_add_one, hkey]
    exact hS₂
end

theorem mro_fset : mroOf (.type "frozenset") = pure [.type "frozenset", .type "object"] := by rw [mroOf_type]; kernel_rfl
theorem lookup_fset_new : typeLookup (.type "frozenset") "__new__" = pure (some (.builtin "frozenset.__new__")) := by rw [typeLookup_type, builtinLookup_eq_fast]; kernel_rfl
theorem slot_fset_init : Slot "frozenset" "__init__" "object.__init__" :=
  .of (owner := "object") (n := "__init__") (by rw [typeLookup_type, builtinLookup_eq_fast]; kernel_rfl) (by decide +kernel) (by decide +kernel) (by decide +kernel)
    (by first | exact .inl (by decide +kernel) | exact .inr (by decide +kernel)) (by rw [isSubtype_type]; kernel_rfl)
theorem called_fset : TypeCalled "frozenset" "frozenset.__new__" "object.__init__" :=
  ⟨by decide +kernel, by decide +kernel, ⟨_, _, mro_fset⟩, madeBy_type mro_fset lookup_fset_new (by decide +kernel), by decide +kernel, by rw [isSubtype_type]; kernel_rfl, slot_fset_init⟩
theorem typeCall_fset_1 (a : Value) : checkTypeCall "frozenset" ⟨[a], []⟩ = pure () := by kernel_rfl
theorem newCall_fset_1 (a : Value) : checkBuiltinCall "frozenset.__new__" ⟨[.type "frozenset", a], []⟩ = pure () := by kernel_rfl
theorem entry_fset_new : entryFor table "frozenset.__new__" = some Builtin.«frozenset.__new__» := entryFor_of_tree (by kernel_rfl)

section
variable {prog : Program} {w : World} {A : Around} {E : Value → Shared → Prop} {s : Shared}
theorem orM_false {M : Model} {x y : Sem Bool} {Q : Bool → Shared → Prop} (hx : wpAny M A x (fun b s' => b = false ∧ s' = s) E s) (hy : wpAny M A y (fun b s' => b = false ∧ s' = s) E s) (h : Q false s) : wpAny M A (x <||> y) Q E s := by
  unfold orM
  refine wpAny_bind (wpAny_mono hx (fun b s' hb => ?_) fun _ _ e => e)
  obtain ⟨rfl, rfl⟩ := hb
  refine wpAny_mono hy (fun b s' hb => ?_) fun _ _ e => e
  obtain ⟨rfl, rfl⟩ := hb
  exact h
theorem fset_new {l : Addr} {vs : List Value} {ns : List Int} (hnd : ns.Nodup) (hsz : ns.length ≤ 4000) (hi : IntsAre vs ns) :
    MeetsIn prog w (Builtin.«frozenset.__new__» ⟨[.type "frozenset", .ref l], []⟩) (fun A R s => A.handled = none ∧ s.heap.IsList l vs.toArray ∧ ∀ a s', s.heap.objs.size ≤ a → Keeps s s' → SetAt s'.heap "frozenset" a ns → R (.ok (.ret (.ref a))) s') := by
  rintro A R s ⟨hh, hl, h⟩
  have hT := hl.typeIs
  have hsub := called_fset.sub
  have hlk := slot_fset_init.lookup
  have f1 := F.sub_list_set
  have f2 := F.sub_list_frozenset
  wp_walk using isInst_of hT f1, isInst_of hT f2
  refine wpAny_askSetting (wpAny_pure ?_)
  dsimp only
  simp only [newObj]
  refine wpAny_bind (wpAny_alloc (wpAny_pure ?_))
  refine wpAny_bind (wpAny_pure ?_)
  generalize hst : (SetTable.fresh 0 0 (!(model prog w).w.params.followText "set-order")) = st0
  have hfit : st0.fits 0 = true := by rw [← hst]; rfl
  generalize hob : ({ cls := .type "frozenset", dict := none, data := .set #[] 0 st0 } : Obj) = ob
  have hset : SetAt (s.heap.push ob) "frozenset" s.heap.objs.size [] := by
    subst hob
    exact ⟨_, #[], 0, st0, Heap.get?_push_size _ rfl, rfl, rfl, fun e he => by simp at he, fun k => by simp, by decide, hfit, rfl⟩
  have hl1 : (s.heap.push ob).IsList l vs.toArray := hl.push _
  have hT1 : ({ s with heap := s.heap.push ob } : Shared).TypeIs (.ref l) "list" := Heap.IsList.typeIs (s := { s with heap := s.heap.push ob }) hl1
  have hllt : l < s.heap.objs.size := by obtain ⟨_, e, _⟩ := hl; exact Heap.lt_size e
  have hkp : Keeps s { s with heap := s.heap.push ob } := keeps_push s ob
  refine wpAny_bind (wpAny_holding ?_)
  unfold Builtin.Frozenset.updateFrom Builtin.Frozenset.isAnySet
  refine wpAny_bind (orM_false (isInst_of hT1 f1 ⟨rfl, rfl⟩) (isInst_of hT1 f2 ⟨rfl, rfl⟩) ?_)
  rw [if_neg Bool.false_ne_true]
  refine wpAny_bind (wpAny_typeOf hT1 ?_)
  rw [if_neg (by decide)]
  refine wpAny_bind (wpAny_pyIter_list hl1 ?_)
  have hsz1 : (s.heap.push ob).objs.size = s.heap.objs.size + 1 := Heap.size_push _ _
  have W : Walks prog w A.in1.in1 (s.heap.push ob).objs.size [(s.heap.push ob).objs.size, l] [(s.heap.push ob).objs.size] ns.length (fun i v => ∃ t k, ns[i]? = some k ∧ v = Value.int k t) (fun i h => h.IsListIter (s.heap.push ob).objs.size l i ∧ h.IsList l vs.toArray) := by
    have W := Walks.list (prog := prog) (w := w) (A := A.in1.in1) hh (s.heap.push ob).objs.size l (by rw [hsz1]; exact Nat.ne_of_lt (Nat.lt_succ_of_lt hllt)) vs.toArray
    have e : vs.toArray.size = ns.length := by rw [List.size_toArray, hi.length]
    rw [e] at W
    refine ⟨W.sub, W.frame, fun i s Q E hlt st hQ => W.item i s Q E hlt st fun v h' tk hv => ?_, W.done, W.self⟩
    obtain ⟨t, rfl⟩ := IntsAre.int_at hi i v (by simpa using hv)
    exact hQ _ h' tk ⟨t, _, by rw [List.getD_eq_getElem?_getD, List.getElem?_eq_getElem hlt]; rfl, rfl⟩
  have hgoal : codeAny (model prog w) A.in1 (.builtin "set.update.loop" ⟨[.ref s.heap.objs.size, .ref (s.heap.push ob).objs.size], []⟩)
      (fun r s' => match r with | .ok (.ret _) => R (.ok (.ret (.ref s.heap.objs.size))) s' | .ok _ => False | .error e => R (.error e) s') { s with heap := (s.heap.push ob).push { cls := .type "list_iterator", data := .fields #[.ref l, .int 0 0] } } := by
    refine set_loop (A := A.in1) (s := { s with heap := (s.heap.push ob).push { cls := .type "list_iterator", data := .fields #[.ref l, .int 0 0] } }) (cls := "frozenset") W rfl ?_ hsz hnd ?_ _ 0 _ rfl (Nat.zero_le _)
      ⟨⟨_, Heap.get?_push_size _ rfl, rfl, rfl⟩, hl1.push _⟩ (hset.keeps fun o e => Heap.get?_push_of_some _ e) ⟨_, _, rfl, fun _ _ _ _ e => e⟩
    · intro hm
      simp [hsz1] at hm
      exact Nat.ne_of_gt hllt hm
    · rintro s' ⟨h', tk, rfl, hk'⟩ hS'
      refine h _ _ (Nat.le_refl _) ⟨h', tk, rfl, fun b o e => hk' b o (Nat.ne_of_lt (Heap.lt_size e)) (by have h1 := Heap.lt_size e; simp [hsz1]; exact Nat.ne_of_lt (Nat.lt_succ_of_lt h1)) (Heap.get?_push_of_some _ (Heap.get?_push_of_some _ e))⟩ hS'
  refine wpAny_bind (wpAny_runValue (codeAny_mono hgoal fun r s' hr => ?_))
  cases r with
  | error e => exact hr
  | ok f =>
    cases f with
    | ret v => exact wpAny_pure (wpAny_pure (wpAny_pure hr))
    | _ => exact hr.elim

theorem call_fset {l : Addr} {vs : List Value} {ns : List Int} {Q : Value → Shared → Prop} (hh : A.handled = none) (hl : s.heap.IsList l vs.toArray) (hi : IntsAre vs ns) (hnd : ns.Nodup) (hsz : ns.length ≤ 4000)
    (h : ∀ a s', s.heap.objs.size ≤ a → Keeps s s' → SetAt s'.heap "frozenset" a ns → Q (.ref a) s') : wpAny (model prog w) A (call (.type "frozenset") [.ref l]) Q E s :=
  callType_newIn called_fset (by decide) (typeCall_fset_1 _) (newCall_fset_1 _) (fun obj => F.args_object_init_2 obj _) entry_fset_new (fset_new hnd hsz hi) ⟨hh, hl, fun a s' ha hk hS => ⟨hS.ref.ty, h a s' ha hk hS⟩⟩

theorem setAt_of {h : Heap} {a : Addr} {S : Int → Bool} {n : Nat} {ks : List Int} (x : h.SetOf (intKind prog w) a S n) (hS : ∀ k, S k = true ↔ k ∈ ks) (hn : n = ks.length) : SetAt h "set" a ks := by
  obtain ⟨o, es, ep, t, ho, hex, hd, hel, hmem, hb, hf, hsz⟩ := x
  refine ⟨o, es, ep, t, ho, hex.1, hd, fun e he => ?_, fun k => ?_, hb, hf, hsz.trans hn⟩
  · obtain ⟨⟨k, hk, hh⟩, _⟩ := hel e he
    obtain ⟨t, e2⟩ := Value.isInt_shape hk
    exact ⟨k, t, Prod.ext hh e2⟩
  · rw [← hS k, hmem k]; rfl
theorem call_set {l : Addr} {vs : List Value} {b1 b2 b3 b4 : Bool} {Q : Value → Shared → Prop} (hh : A.handled = none) (hl : s.heap.IsList l vs.toArray) (hi : IntsAre vs (setKs b1 b2 b3 b4))
    (h : ∀ a s', s.heap.objs.size ≤ a → Keeps s s' → SetAt s'.heap "set" a (setKs b1 b2 b3 b4) → Q (.ref a) s') : wpAny (model prog w) A (call (.type "set") [.ref l]) Q E s := by
  have hlen : vs.length = (setKs b1 b2 b3 b4).length := hi.length
  have h4 : (setKs b1 b2 b3 b4).length ≤ 4 := by cases b1 <;> cases b2 <;> cases b3 <;> cases b4 <;> decide
  refine PySem.call_set_list hh hl (by simpa using hi) (by rw [List.size_toArray, hlen]; have e : scanBound = 4096 := rfl; omega) fun h' tk hS hk => ?_
  have e : firstMet (fun i => (setKs b1 b2 b3 b4).getD i 0) vs.toArray.size = setKs b1 b2 b3 b4 := by
    rw [List.size_toArray, hlen]
    cases b1 <;> cases b2 <;> cases b3 <;> cases b4 <;> rfl
  rw [e] at hS
  refine h _ _ (Nat.le_refl _) ⟨h', tk, rfl, fun b o e => hk b o (Heap.lt_size e) e⟩ (setAt_of hS (fun k => ?_) rfl)
  simp
end
end Mine

namespace Mine
open PySem.Calls

/-- a step that changes the frame's own names alone -/
def KeepL (env : Env) (h h' : Heap) : Prop := ∀ b o, b ≠ env.locals → (∀ n c, env.cells.lookup n = some c → b ≠ c) → h.get? b = some o → h'.get? b = some o
theorem Keep.l {env : Env} {h h' : Heap} (x : Keep h h') : KeepL env h h' := fun b o _ _ e => x b o e
theorem KeepL.trans {env : Env} {h h' h'' : Heap} (x : KeepL env h h') (y : KeepL env h' h'') : KeepL env h h'' := fun b o h1 h2 e => y b o h1 h2 (x b o h1 h2 e)

section
variable {prog : Program} {w : World} {A : Around} {E : Value → Shared → Prop} {s₀ s : Shared} {env : Env} {sc : Scope} {m cm : Str → Option Value}
theorem Inn.notSeq (F : Inn s₀ env m cm s) {b : Addr} {o : Obj} (ho : s.heap.get? b = some o) (hd : ∃ xs n, o.data = .seq xs n) : b ≠ env.locals ∧ ∀ n c, env.cells.lookup n = some c → b ≠ c := by
  obtain ⟨xs, n, hd⟩ := hd
  constructor
  · rintro rfl
    obtain ⟨o', es, ep, ho', hd', _⟩ := F.toInCall.ns
    rw [ho] at ho'; cases ho'; rw [hd] at hd'; cases hd'
  · rintro nm c hm rfl
    obtain ⟨o', ho', hd'⟩ := F.cell nm b hm
    rw [ho] at ho'; cases ho'; rw [hd] at hd'; cases hd'
theorem Inn.keepS (F : Inn s₀ env m cm s) {h' : Heap} (hk : KeepL env s.heap h') (bad : Addr) : KeepS bad s.heap h' := fun b o _ e d => hk b o (F.notSeq e d).1 (F.notSeq e d).2 e
theorem Inn.keepList (F : Inn s₀ env m cm s) {h' : Heap} (hk : KeepL env s.heap h') {a : Addr} {vs : Array Value} (l : s.heap.IsList a vs) : h'.IsList a vs := by
  obtain ⟨o, ho, hc, n, hd⟩ := l
  have := F.notSeq ho ⟨_, _, hd⟩
  exact ⟨o, hk a o this.1 this.2 ho, hc, n, hd⟩
theorem Inn.keepPlain (F : Inn s₀ env m cm s) {h' : Heap} (hk : KeepL env s.heap h') {a : Addr} {vs : Array Value} (l : s.heap.PlainList a vs) : h'.PlainList a vs := by
  obtain ⟨n, ho⟩ := l
  have := F.notSeq ho ⟨_, _, rfl⟩
  exact ⟨n, hk a _ this.1 this.2 ho⟩

theorem st_local {x : Str} {v : Value} {Q : Unit → Shared → Prop} (F : Inn s₀ env m cm s) (hE : EnvOk env sc)
    (h : ∀ s' m', Inn s₀ env m' cm s' → m' x = some v → (∀ y, y ≠ x → m' y = m y) → KeepL env s.heap s'.heap → Q () s')
    (hk : sc.kind = .function := by rfl) (hl : sc.names.lookup x = some .local := by rfl) : wpAny (model prog w) A (storeName env x v) Q E s := by
  refine wpAny_storeName_local (by rw [Env.kindOf, hE.sc]; exact hl) F.toInCall.ns (fun h' hn' hs' => h _ _ ⟨⟨?_, hn', fun b o e => ?_, F.toInCall.fresh⟩, fun k c hc => ?_, F.apart, F.above⟩ (by simp) (fun y hy => by simp [hy]) fun b o hb _ e => hs'.extBut b o hb e) (by rw [hE.sc, hk]; rfl)
  · obtain ⟨h₁, tk, rfl⟩ := F.toInCall.same
    exact ⟨h', _, rfl⟩
  · exact hs'.extBut b o (Nat.ne_of_lt (Nat.lt_of_lt_of_le (Heap.lt_size e) F.toInCall.fresh)) (F.toInCall.keep b o e)
  · exact (F.cell k c hc).sameBut hs' (Nat.ne_of_gt (F.above k c (mem_of_lookup hc)))

theorem st_cell {x : Str} {c : Addr} {v : Value} {Q : Unit → Shared → Prop} (F : Inn s₀ env m cm s) (hE : EnvOk env sc) (hc : env.cells.lookup x = some c)
    (h : ∀ s' cm', Inn s₀ env m cm' s' → cm' x = some v → (∀ y, y ≠ x → cm' y = cm y) → KeepL env s.heap s'.heap → Q () s')
    (hk : sc.kind = .function := by rfl) (hl : sc.names.lookup x = some .cell := by rfl) : wpAny (model prog w) A (storeName env x v) Q E s := by
  have hLc := F.above x c (mem_of_lookup hc)
  refine wpAny_storeName_cell (by rw [hE.sc]; exact hk) (by rw [Env.kindOf, hE.sc]; exact hl) hc (F.cell x c hc) fun h' hc' hs' => h _ (fun y => if y = x then some v else cm y) ⟨⟨?_, F.toInCall.ns.sameBut hs' (Nat.ne_of_lt hLc), fun b o e => ?_, F.toInCall.fresh⟩, fun k c' hk' => ?_, F.apart, F.above⟩ (by simp) (fun y hy => by simp [hy]) fun b o _ hb e => hs'.extBut b o (hb x c hc) e
  · obtain ⟨h₁, tk, rfl⟩ := F.toInCall.same
    exact ⟨h', _, rfl⟩
  · exact hs'.extBut b o (Nat.ne_of_lt (Nat.lt_trans (Nat.lt_of_lt_of_le (Heap.lt_size e) F.toInCall.fresh) hLc)) (F.toInCall.keep b o e)
  · by_cases hkn : k = x
    · subst hkn
      rw [hc] at hk'; cases hk'
      simpa using hc'
    · rw [if_neg hkn]
      exact (F.cell k c' hk').sameBut hs' fun e => hkn (name_of_addr F.apart (mem_of_lookup hk') (e ▸ mem_of_lookup hc))

/-- x, y = a list of two -/
theorem unpack2 {x y : Str} {px py pos : Pos} {k : Nat} {l : Addr} {a b : Value} {Q : Unit → Shared → Prop} (hh : A.handled = none) (hl : s.heap.IsList l #[a, b])
    (h : ∀ s', Keeps s s' → wpAny (model prog w) A (storeName env x a) (fun _ s₂ => wpAny (model prog w) A (storeName env y b) Q E s₂) E s') :
    wpAny (model prog w) A (assign (.Tuple [.Name x px, .Name y py] k pos) env (.ref l)) Q E s := by
  rw [arm_assign_Tuple]
  refine wpAny_bind (wpAny_standAt ?_)
  unfold unpack
  refine wpAny_bind (wpAny_holding ?_)
  show wpAny _ _ (unpackItems (.ref l) (#[a, b] : Array Value).size none) _ _ _
  refine kun_itemsOf hh hl fun h' hk' => ?_
  show wpAny _ _ (do holding [b] (assign (.Name x px) env a); assignInOrder [assign (.Name y py) env] [b]) _ _ _
  refine wpAny_bind (wpAny_holding (PyProof.Rows.assign_Name (wpAny_mono (h _ ⟨h', s.toks, rfl, fun c o e => hk' c o (Nat.ne_of_lt (Heap.lt_size e)) e⟩) (fun _ s₂ h₂ => ?_) fun _ _ e => e)))
  show wpAny _ _ (do holding [] (assign (.Name y py) env b); pure ()) _ _ _
  exact wpAny_bind (wpAny_holding (PyProof.Rows.assign_Name (wpAny_mono h₂ (fun _ _ q => wpAny_pure q) fun _ _ e => e)))
end

section
variable {prog : Program} {w : World} {A : Around} {E : Value → Shared → Prop} {s : Shared} {Q : Value → Shared → Prop}
theorem call_fn2 {a c : Addr} {o oc : Obj} {fd : FuncData} {body : List Stmt} {n n' : Str} {v v' : Value} (am : Amb w s.heap) (hK : (KF w).lookup a = some o) (ho : o.data = .func fd) (hbody : fd.body = .stmts body)
    (hc : fd.code = .ref c) (hKc : (KF w).lookup c = some oc) (hoc : ∃ vs t, oc.data = .fields vs ∧ vs[1]? = some (.str fd.qualname t))
    (hbind : bindArgs fd ⟨[v, v'], []⟩ = pure [(n, v), (n', v')]) (hne : n ≠ n')
    (hkind : fd.scope.names.lookup n = some .local ∨ (fd.scope.names.lookup n = some .cell ∧ ((cellsFrom (s.heap.objs.size + 1) fd.scope.names []).lookup n).isSome = true))
    (hkind' : fd.scope.names.lookup n' = some .local ∨ (fd.scope.names.lookup n' = some .cell ∧ ((cellsFrom (s.heap.objs.size + 1) fd.scope.names []).lookup n').isSome = true))
    (hd : A.depth < recursionLimit)
    (h : ∀ env s₁ m cm, EnvOk env fd.scope → env.cells = cellsFrom (s.heap.objs.size + 1) fd.scope.names [] → env.locals = s.heap.objs.size → Inn s env m cm s₁ → Bound1 fd.scope m cm n v → Bound1 fd.scope m cm n' v' →
      wpAny (model prog w) (A.deeper env) (execs body env) (fun f s' => Q (match f with | .ret v => v | _ => .none) s') (fun _ _ => False) s₁)
    (hclo : fd.closure = [] := by rfl) (hgl : fd.globals = mainGlobals := by rfl) (hbl : fd.builtins = builtinsNs := by rfl)
    (hco : fd.scope.isCoroutine = false := by rfl) (hgen : fd.scope.isGenerator = false := by rfl) (hk : fd.scope.kind = .function := by rfl) :
    wpAny (model prog w) A (call (.ref a) [v, v']) Q E s := by
  obtain ⟨p, l, mg, mb, T⟩ := am.T
  have hcd : s.heap.CodeRec fd.code fd.qualname := by
    obtain ⟨vs, t, h1, h2⟩ := hoc
    exact ⟨c, oc, vs, t, hc, am.K c oc hKc, h1, h2⟩
  refine wpAny_call (codeAny_call_cells hd (am.K a o hK) ho T.nolimit hcd hbody hbind hclo (fun x hx => ?_) (fun s₁ X => ?_) hco hgen hk)
  · simp only [List.mem_cons, List.mem_nil_iff, or_false] at hx
    rcases hx with rfl | rfl
    · exact hkind
    · exact hkind'
  · have key : ∀ (k : Str → Option NameKind) (x : Str), k x = fd.scope.names.lookup x → (fd.scope.names.lookup x = some .local → k x = some .local) ∧ (fd.scope.names.lookup x = some .cell → ¬ k x = some .local) := fun k x e => ⟨fun h => e.trans h, fun h => by rw [e, h]; decide⟩
    refine wpAny_mono (h (callEnvC fd s.heap.objs.size a) s₁ _ _ ⟨rfl, hgl, hbl⟩ rfl rfl X ⟨fun e => ?_, fun e => ?_⟩ ⟨fun e => ?_, fun e => ?_⟩) (fun f s' h' => h') fun _ _ x => x.elim
    · have e1 := (key (callEnvC fd s.heap.objs.size a).kindOf n rfl).1 e
      simp only [bindL, e1, if_true]
      split
      · simp [hne]
      · simp
    · have e1 := (key (callEnvC fd s.heap.objs.size a).kindOf n rfl).2 e
      simp only [bindC, e1, if_false]
      split
      · simp
      · simp [hne]
    · have e1 := (key (callEnvC fd s.heap.objs.size a).kindOf n' rfl).1 e
      simp only [bindL, e1, if_true]
    · have e1 := (key (callEnvC fd s.heap.objs.size a).kindOf n' rfl).2 e
      simp only [bindC, e1, if_false, if_true]
end

theorem g_thing (w : World) : nsIn (KF w) mainGlobals "_law_thing" = some (some (.ref 43)) := by kernel_rfl
theorem g_set (w : World) : nsIn (KF w) mainGlobals "set" = some none := by kernel_rfl
theorem g_fset (w : World) : nsIn (KF w) mainGlobals "frozenset" = some none := by kernel_rfl
theorem b_fset : bootBuiltins "frozenset" = some (.type "frozenset") := by kernel_rfl
theorem g_dict (w : World) : nsIn (KF w) mainGlobals "dict" = some none := by kernel_rfl
theorem b_dict : bootBuiltins "dict" = some (.type "dict") := by kernel_rfl
theorem g_tuple (w : World) : nsIn (KF w) mainGlobals "tuple" = some none := by kernel_rfl
theorem b_tuple : bootBuiltins "tuple" = some (.type "tuple") := by kernel_rfl
theorem g_chr (w : World) : nsIn (KF w) mainGlobals "chr" = some none := by kernel_rfl
theorem b_chr : bootBuiltins "chr" = some (.builtin "chr") := by kernel_rfl

theorem strs_of : ∀ {ys : List Value} {xs : List Str}, ys.length = xs.length → (∀ (j : Nat) (y : Value), ys[j]? = some y → ∃ (x : Str) (t : Tok), xs[j]? = some x ∧ y = Value.str x t) → StrsAre ys xs
  | [], [], _, _ => .nil
  | [], _ :: _, h, _ => by cases h
  | _ :: _, [], h, _ => by cases h
  | y :: ys, n :: ns, hl, h => by
    obtain ⟨n', t, h1, rfl⟩ := h 0 y rfl
    simp at h1; subst h1
    exact .cons _ _ (strs_of (by simpa using hl) fun j y hy => by simpa using h (j + 1) y (by simpa using hy))
theorem join_signs (cs : List Nat) : (Txt.join (Str.ofString "") (cs.map fun c => (⟨#[c]⟩ : Str))).cps.toList = cs := by
  show (Builtin.Str.glued _ _).cps.toList = cs
  unfold Builtin.Str.glued
  have key : ∀ (l : List Nat) (acc : Array Nat), (List.foldl (fun acc (p : Str) => acc ++ (Str.ofString "").cps ++ p.cps) acc (l.map fun c => (⟨#[c]⟩ : Str))).toList = acc.toList ++ l := by
    intro l
    induction l with
    | nil => intro acc; simp
    | cons c l ih =>
      intro acc
      rw [List.map_cons, List.foldl_cons, ih]
      have e : (Str.ofString "").cps = #[] := rfl
      rw [e]; simp
  cases cs with
  | nil => rfl
  | cons c cs =>
    show (List.foldl _ #[c] (cs.map _)).toList = _
    rw [key]; rfl

/-- if kind == k: .. -/
theorem if_kind {prog : Program} {w : World} {A : Around} {E : Value → Shared → Prop} {s : Shared} {env : Env} {sc : Scope} {m cm : Str → Option Value} {x k : Str} {y : Str} {t : Tok} {b : Bool} {i : Nat} {p1 p2 p3 pos : Pos} {body rest : List Stmt} {Q : Flow → Shared → Prop}
    (X : Rd env m cm s.heap) (hE : EnvOk env sc) (hm : m x = some (.str y t)) (hb : (y == k) = b)
    (h : ∀ s', Keeps s s' → if b then wpAny (model prog w) A (execs body env) (fun f s' => match f with | .next => wpAny (model prog w) A (execs rest env) Q E s' | f => Q f s') E s' else wpAny (model prog w) A (execs rest env) Q E s')
    (hk : sc.kind = .function := by rfl) (hl : sc.names.lookup x = some .local := by rfl) (hd : (x == ("__debug__" : Str)) = false := by decide) :
    wpAny (model prog w) A (execs (.If (.Compare (.Name x p1) [.Eq] [.Constant (.str k) i p2] p3) body [] pos :: rest) env) Q E s := by
  refine wpAny_execs_cons (wpAny_If (wpAny_isTrue_Compare1 (ev_local X hE hm (Constant_str (PyProof.Rows.eq_str (wpAny_truthy_bool ?_))) hk hl hd)))
  rw [hb]
  have := h _ (Keeps.tok s (s.toks + 1))
  cases b with
  | true => exact this
  | false => exact wpAny_execs_nil this

end Mine

namespace Mine
open PySem.Calls

section
variable {prog : Program} {w : World} {A : Around} {E : Value → Shared → Prop} {s : Shared} {env : Env} {Q : Value → Shared → Prop}
theorem lets_tuple {elts : List Expr} {k : Nat} {pos : Pos} {I : Addr} {v : Value} {Q' : Unit → Shared → Prop} (hI : ∃ o, s.heap.get? I = some o ∧ (o.cls = .type "list_iterator" ∨ o.cls = .type "range_iterator")) (hq : Q' () s) :
    wpAny (model prog w) A (letOwnedTupleGo (.Tuple elts k pos) (.ref I) v) Q' E s := by
  obtain ⟨o, ho, hc⟩ := hI
  unfold letOwnedTupleGo
  cases v
  case ref a =>
    refine wpAny_bind (wpAny_load ho ?_)
    have key : ∀ n : String, (n = "list_iterator" ∨ n = "range_iterator") → (["enumerate", "zip", "dict_itemiterator", "dict_reverseitemiterator", "odict_iterator", "itertools.zip_longest", "itertools.pairwise"].contains n) = false := by
      rintro n (rfl | rfl) <;> decide
    have hc' : ∃ n, o.cls = .type n ∧ (n = "list_iterator" ∨ n = "range_iterator") := by
      rcases hc with h | h
      · exact ⟨_, h, .inl rfl⟩
      · exact ⟨_, h, .inr rfl⟩
    obtain ⟨n, hn, hn'⟩ := hc'
    rw [hn]
    cases o.data
    case fields vs =>
      dsimp only
      rw [key n hn', Bool.false_and, if_neg (by decide)]
      exact wpAny_pure hq
    all_goals exact wpAny_pure hq
  all_goals exact wpAny_pure hq
end

theorem SetAt.rev {h : Heap} {cls : String} {a : Addr} {ks : List Int} (x : SetAt h cls a ks.reverse) : SetAt h cls a ks := by
  obtain ⟨o, es, ep, t, ho, hc, hd, hel, hm, h1, h2, h3⟩ := x
  exact ⟨o, es, ep, t, ho, hc, hd, hel, fun k => by rw [← hm k, List.mem_reverse], h1, h2, by rw [h3, List.length_reverse]⟩
theorem IntsAre.rev : ∀ {vs : List Value} {ns : List Int}, IntsAre vs ns → IntsAre vs.reverse ns.reverse
  | _, _, .nil => .nil
  | _, _, .cons n t r => by
    rw [List.reverse_cons, List.reverse_cons]
    exact IntsAre.append (IntsAre.rev r) (.cons n t .nil)
theorem setKs_nodup (a b c d : Bool) : (setKs a b c d).reverse.Nodup := by cases a <;> cases b <;> cases c <;> cases d <;> decide
theorem setKs_len (a b c d : Bool) : (setKs a b c d).length ≤ 4 := by cases a <;> cases b <;> cases c <;> cases d <;> decide
theorem tabKs_nodup (a b : Bool) : (tabKs a b).Nodup := by cases a <;> cases b <;> decide
theorem tabKs_len (a b : Bool) : (tabKs a b).length ≤ 2 := by cases a <;> cases b <;> decide

theorem TAll.of {h : Heap} {lo : Addr} {way : Bool} : ∀ {vs : List Value} {ps : List Plan}, vs.length = ps.length → (∀ (j : Nat) (v : Value), vs[j]? = some v → ∃ p, ps[j]? = some p ∧ TAt h lo way v p) → TAll h lo way vs ps
  | [], [], _, _ => .nil
  | [], _ :: _, h, _ => by cases h
  | _ :: _, [], h, _ => by cases h
  | v :: vs, p :: ps, hl, h => by
    obtain ⟨p', h1, h2⟩ := h 0 v rfl
    simp at h1; subst h1
    exact .cons h2 (TAll.of (by simpa using hl) fun j y hy => by simpa using h (j + 1) y (by simpa using hy))

theorem ints_get : ∀ {vs : List Value} {ns : List Int}, IntsAre vs ns → ∀ (j : Nat) (v : Value), vs[j]? = some v → ∃ (n : Int) (t : Tok), ns[j]? = some n ∧ v = Value.int n t
  | _, _, .nil, j, v, e => by simp at e
  | _, _, .cons n t r, 0, v, e => by simp at e; subst e; exact ⟨_, _, rfl, rfl⟩
  | _, _, .cons n t r, j + 1, v, e => by simpa using ints_get r j v (by simpa using e)
theorem PairsAre.get {h : Heap} {bad : Addr} : ∀ {vs : List Value} {kvs : List (Int × Int)}, PairsAre h bad vs kvs → ∀ (j : Nat) (v : Value), vs[j]? = some v → ∃ c k x t t', v = .ref c ∧ kvs[j]? = some (k, x) ∧ h.IsList c #[.int k t, .int x t']
  | _, _, .nil, j, v, e => by simp at e
  | _, _, .cons _ x r, 0, v, e => by simp at e; subst e; exact ⟨_, _, _, _, _, rfl, rfl, x⟩
  | _, _, .cons _ x r, j + 1, v, e => by simpa using r.get j v (by simpa using e)
theorem PairsAre.length {h : Heap} {bad : Addr} : ∀ {vs : List Value} {kvs : List (Int × Int)}, PairsAre h bad vs kvs → vs.length = kvs.length
  | _, _, .nil => rfl
  | _, _, .cons _ _ r => by rw [List.length_cons, List.length_cons, r.length]
theorem PairsAre.append {h : Heap} {bad : Addr} : ∀ {vs us : List Value} {ks ls : List (Int × Int)}, PairsAre h bad vs ks → PairsAre h bad us ls → PairsAre h bad (vs ++ us) (ks ++ ls)
  | _, _, _, _, .nil, y => y
  | _, _, _, _, .cons h1 h2 r, y => .cons h1 h2 (r.append y)
theorem PairsAre.rev {h : Heap} {bad : Addr} : ∀ {vs : List Value} {kvs : List (Int × Int)}, PairsAre h bad vs kvs → PairsAre h bad vs.reverse kvs.reverse
  | _, _, .nil => .nil
  | _, _, .cons h1 h2 r => by
    rw [List.reverse_cons, List.reverse_cons]
    exact r.rev.append (.cons h1 h2 .nil)

theorem bind_pair {prog : Program} {w : World} {A : Around} {env : Env} {scope : Scope} {cl : List (Str × Addr)} {x y : Str} {px py pos : Pos} {k : Nat} {C l : Addr} {a b : Value} {s₃ : Shared} {m₃ : Str → Option Value} {E' : Value → Shared → Prop} {Q' : Unit → Shared → Prop}
    (hh : A.handled = none) (hl : s₃.heap.IsList l #[a, b]) (hn : s₃.heap.Ns C m₃) (hne : x ≠ y) (hq : ∀ h' m' tk, h'.Ns C m' → m' x = some a → m' y = some b → Heap.ExtBut C s₃.heap h' → Q' () { s₃ with heap := h', toks := tk })
    (hk : scope.kind = .function) (hx : scope.names.lookup x = some .local) (hy : scope.names.lookup y = some .local) : wpAny (model prog w) A (assign (.Tuple [.Name x px, .Name y py] k pos) (compEnvC scope cl C env) (.ref l)) Q' E' s₃ := by
  refine unpack2 hh hl fun s' hk' => ?_
  obtain ⟨h', tk, rfl, hk'⟩ := hk'
  refine wpAny_storeName_local (env := compEnvC scope cl C env) (lookup_relabel_local hx) (Heap.Ns.keeps hn hk') (fun h₁ hn₁ hs₁ => ?_) (by simp [compEnvC, relabel, hk])
  exact wpAny_storeName_local (env := compEnvC scope cl C env) (lookup_relabel_local hy) hn₁ (fun h₂ hn₂ hs₂ => hq h₂ _ _ hn₂ (by simp [hne]) (by simp) fun b o hb e => hs₂.extBut b o hb (hs₁.extBut b o hb (hk' b o e))) (by simp [compEnvC, relabel, hk])

theorem tups_of {h : Heap} {G : Int → Value → Prop} : ∀ {ys : List Value} {kvs : List (Int × Int)}, ys.length = kvs.length → (∀ (j : Nat) (y : Value), ys[j]? = some y → ∃ c k x t val, y = Value.ref c ∧ kvs[j]? = some (k, x) ∧ h.IsTuple c #[.int k t, val] ∧ G x val) →
    ∃ kvs' : List (Int × Value), TupsAre h ys kvs' ∧ kvs'.map (·.1) = kvs.map (·.1) ∧ ∀ p ∈ kvs', ∃ q ∈ kvs, G q.2 p.2
  | [], [], _, _ => ⟨[], .nil, rfl, nofun⟩
  | [], _ :: _, h, _ => by cases h
  | _ :: _, [], h, _ => by cases h
  | y :: ys, q :: kvs, hl, h => by
    obtain ⟨c, k, x, t, val, rfl, h1, h2, h3⟩ := h 0 y rfl
    simp at h1; subst h1
    obtain ⟨kvs', a1, a2, a3⟩ := tups_of (kvs := kvs) (ys := ys) (by simpa using hl) fun j y hy => by simpa using h (j + 1) y (by simpa using hy)
    refine ⟨(k, val) :: kvs', .cons h2 a1, by simp [a2], fun p hp => ?_⟩
    rcases List.mem_cons.mp hp with rfl | hp
    · exact ⟨_, List.mem_cons_self, h3⟩
    · obtain ⟨q, hq, hg⟩ := a3 p hp
      exact ⟨q, List.mem_cons_of_mem _ hq, hg⟩
theorem isList_inj {h : Heap} {c : Addr} {xs ys : Array Value} (a : h.IsList c xs) (b : h.IsList c ys) : xs = ys := by
  obtain ⟨o, ho, _, n, hd⟩ := a
  obtain ⟨o', ho', _, n', hd'⟩ := b
  rw [ho] at ho'; cases ho'; rw [hd] at hd'; cases hd'; rfl
theorem dict_ref {prog : Program} {w : World} {h : Heap} {a : Addr} {kvs : List (Int × Value)} (x : h.DictOf (intKind prog w) a kvs) : IsRefOf h "dict" (.ref a) := by
  obtain ⟨o, es, ep, ho, hex, hd, _⟩ := x
  exact ⟨a, o, rfl, ho, hex.1, fun p e => by rw [hd] at e; cases e⟩
theorem pairs_any {prog prog' : Program} {w w' : World} : ∀ {es : List DictEntry} {kvs : List (Int × Value)}, Pairs (intKind prog w) es kvs → Pairs (intKind prog' w') es kvs
  | _, _, .nil => .nil
  | _, _, .cons h1 h2 r => .cons h1 h2 (pairs_any r)
theorem dict_any {prog : Program} {w : World} {h : Heap} {a : Addr} {kvs : List (Int × Value)} (x : h.DictOf (intKind prog w) a kvs) (prog' : Program) (w' : World) : h.DictOf (intKind prog' w') a kvs := by
  obtain ⟨o, es, ep, ho, hex, hd, hk, hp, hn⟩ := x
  exact ⟨o, es, ep, ho, hex, hd, hk, pairs_any hp, hn⟩
theorem clos_of {scope : Scope} {env : Env} {cs cl : List (Str × Addr)} (hcl : env.cells = cs) (h : ∀ e : Env, closureFor scope { e with cells := cs } = pure cl) : closureFor scope env = pure cl := by
  subst hcl; exact h env
theorem comp_okc {env : Env} {sc scope : Scope} {cl : List (Str × Addr)} {C : Addr} (hE : EnvOk env sc) : EnvOk (compEnvC scope cl C env) (relabel scope { env with scope := sc }) := by
  obtain ⟨rfl, h2, h3⟩ := hE
  exact ⟨rfl, h2, h3⟩
theorem look_one {x n : Str} {c c' : Addr} (h : [(x, c)].lookup n = some c') : n = x ∧ c' = c := by
  by_cases e : n = x
  · subst e; simp at h; exact ⟨rfl, h.symm⟩
  · have e' : (n == x) = false := by simpa using e
    simp [List.lookup, e'] at h

theorem keeps_but {s s₉ s' : Shared} {L : Addr} (a : Keeps s s₉) (hL : s.heap.objs.size ≤ L) (b : ∃ h' tk, s' = { s₉ with heap := h', toks := tk } ∧ ∀ b o, b ≠ L → s₉.heap.get? b = some o → h'.get? b = some o) : Keeps s s' := by
  obtain ⟨h, tk, rfl, hk⟩ := a
  obtain ⟨h', tk', rfl, hk'⟩ := b
  exact ⟨h', tk', rfl, fun b o e => hk' b o (Nat.ne_of_lt (Nat.lt_of_lt_of_le (Heap.lt_size e) hL)) (hk b o e)⟩
theorem Inn.rd_but {s₀ s s' : Shared} {env : Env} {m m' cm : Str → Option Value} (F : Inn s₀ env m cm s) (hn : s'.heap.Ns env.locals m') (b : ∃ h' tk, s' = { s with heap := h', toks := tk } ∧ ∀ b o, b ≠ env.locals → s.heap.get? b = some o → h'.get? b = some o) : Rd env m' cm s'.heap := by
  obtain ⟨h', tk', rfl, hk'⟩ := b
  refine ⟨hn, fun n c e => ?_⟩
  obtain ⟨o, ho, hd⟩ := F.cell n c e
  exact ⟨o, hk' _ o (Nat.ne_of_gt (F.above n c (mem_of_lookup e))) ho, hd⟩
def wayTok (way : Bool) : Int := if way then 1 else 0
end Mine

namespace Mine
open PySem.Calls

set_option maxHeartbeats 4000000 in
theorem thing_call {prog : Program} {w : World} : ∀ (n : Nat) (p : Plan), sizeOf p < n → ∀ {A : Around} {E : Value → Shared → Prop} {s : Shared} {Q : Value → Shared → Prop} {bad : Addr} {v : Value} {way : Bool} {tw : Tok}, Amb w s.heap → PAt s.heap bad v p → A.handled = none →
    A.depth + deep p < recursionLimit → wt p ≤ 1000 → (∀ r s', Keeps s s' → TAt s'.heap s.heap.objs.size way r p → Q r s') → wpAny (model prog w) A (call (.ref 43) [v, .int (wayTok way) tw]) Q E s := by
  intro n
  induction n with
  | zero => intro p h; exact absurd h (Nat.not_lt_zero _)
  | succ n ih =>
    intro p hn A E s Q bad v way tw am hp hh hd hw h
    refine call_fn2 (n := "plan") (n' := "way") am rfl rfl rfl rfl rfl ⟨_, _, rfl, rfl⟩ rfl (by decide) (.inl rfl) (.inr ⟨rfl, rfl⟩) (by omega) ?_
    intro env s₁ m cm hE hcl hL F hb hb'
    have hm := hb.loc rfl
    have hcw := hb'.cel rfl
    have hcell : env.cells.lookup (Str.ofString "way") = some (s.heap.objs.size + 1) := by rw [hcl]; rfl
    obtain ⟨a, t, c, rfl, _, hl, hc⟩ := hp.shape
    have hk1 : Keep s.heap s₁.heap := Keeps.keep F.done
    have hl1 : s₁.heap.IsList a #[.str (kindOf p) t, c] := IsList.keep hl fun o ho => hk1 _ o ho
    refine wpAny_execs_cons (Assign_Tuple (ev_local F.rd hE hm (unpack2 (A := A.deeper env) hh hl1 fun s₂ hk₂ => ?_)))
    refine st_local (F.kept hk₂) hE fun s₃ m₃ F₃ h3a h3b _ => st_local F₃ hE fun s₄ m₄ F₄ h4a h4b _ => ?_
    have hkind : m₄ "kind" = some (.str (kindOf p) t) := (h4b "kind" (by decide)).trans h3a
    have hL0 : s.heap.objs.size < s₄.heap.objs.size := by have := F₄.toInCall.ns.lt; rw [hL] at this; exact this
    clear F₃ h3a h3b h4b hk₂ hm hl1 hk1 hb hb' F
    show wpAny _ _ (execs _ env) _ _ _
    refine if_kind F₄.rd hE hkind (k_num p) fun s₅ hk₅ => ?_
    have F₅ := F₄.kept hk₅
    clear F₄ hL0
    cases p
    case num k =>
      obtain ⟨t', rfl⟩ := hc
      rw [if_pos (by simp [is_num])]
      refine wpAny_execs_cons (wpAny_Return_some (IfExp_ (isTrue_and (wpAny_isTrue_Compare1 (ev_cell F₅.rd hE hcell hcw (wpAny_Constant_int (P.eq_int (wpAny_truthy_bool ?_))))))))
      cases way with
      | false =>
        rw [if_neg (by decide), if_neg (by decide)]
        exact ev_local (F₅.tok _).rd hE h4a (h _ _ (F₅.tok _).done (.num0 rfl))
      | true =>
        rw [if_pos (by decide)]
        refine isTrue_and (isTrue_or (wpAny_isTrue_Compare1 (ev_local (F₅.tok _).rd hE h4a (wpAny_Constant_int (P.eq_int (wpAny_truthy_bool ?_))))))
        by_cases h0 : k = 0
        · subst h0
          rw [if_pos (by decide), if_pos rfl]
          refine isTrue_and_nil ?_
          rw [if_pos rfl]
          refine wpAny_Compare1 (ev_local (F₅.tok _).rd hE h4a (wpAny_Constant_int (P.eq_int ?_)))
          exact h _ _ (F₅.tok _).done (.numB (b := false) rfl)
        · rw [if_neg (by simpa using h0)]
          refine isTrue_or (wpAny_isTrue_Compare1 (ev_local (F₅.tok _).rd hE h4a (wpAny_Constant_int (P.eq_int (wpAny_truthy_bool ?_)))))
          by_cases h1 : k = 1
          · subst h1
            rw [if_pos (by decide), if_pos rfl]
            refine isTrue_and_nil ?_
            rw [if_pos rfl]
            refine wpAny_Compare1 (ev_local (F₅.tok _).rd hE h4a (wpAny_Constant_int (P.eq_int ?_)))
            exact h _ _ (F₅.tok _).done (.numB (b := true) rfl)
          · rw [if_neg (by simpa using h1)]
            refine isTrue_or_nil ?_
            rw [if_neg (by decide), if_neg (by decide)]
            exact ev_local (F₅.tok _).rd hE h4a (h _ _ (F₅.tok _).done (.num1 rfl))
    all_goals rw [if_neg (by simp [is_num])]
    all_goals refine if_kind F₅.rd hE hkind (k_text _) fun s₆ hk₆ => ?_
    all_goals have F₆ := F₅.kept hk₆
    all_goals clear F₅ hk₅
    case text cs =>
      rw [if_pos (by simp [is_text])]
      obtain ⟨b, vs, rfl, _, hlb, hi, hok⟩ := hc
      have am6 := am.keep (Keeps.keep F₆.done)
      have hlb6 : s₆.heap.IsList b vs.toArray := IsList.keep hlb fun o ho => (Keeps.keep F₆.done) _ o ho
      have hlen := hi.length
      rw [List.length_map] at hlen
      refine wpAny_execs_cons (wpAny_Return_some (MethodCall_ (Constant_str (GM.join (callWith_method1 (args_cons ?_ rfl) rfl rfl)))))
      refine comp_ev rfl (by decide) rfl (by decide) (ev_local (F₆.tok _).rd hE h4a ?_)
      refine ⟨_, _, fun v mm => mm "code" = some v, fun _ _ => true, fun _ _ i v y => ∃ (c : Nat) (t : Tok), cs[i]? = some c ∧ y = Value.str ⟨#[c]⟩ t, ?_, itb_list (A := A.deeper env) hh hlb6, ?_, ?_⟩
      · rw [List.size_toArray, hlen]; exact sz4 (Nat.le_trans hok.1 (by decide))
      · refine ⟨fun I v s₃ E' Q' _ hq => lets_name hq, fun C i v s₃ m₃ E' Q' _ hn₃ _ hq => bind_name hn₃ hq rfl rfl, fun C i v s₃ m₃ E' _ _ _ _ => wpAny_tests_nil ⟨rfl, Keeps.refl _⟩, fun lo C i v s₃ m₃ E' hP _ hn₃ hb₃ hk₃ _ _ => ?_, fun lo h h' i v y hF _ => hF⟩
        have am3 := am6.keep (Keeps.keep hk₃)
        obtain ⟨k, t, hk, rfl⟩ := ints_get hi i v (by simpa using hP)
        rw [List.getElem?_map] at hk
        obtain ⟨c, hc1, hc2⟩ : ∃ c, cs[i]? = some c ∧ (c : Int) = k := by
          cases e : cs[i]? with
          | none => rw [e] at hk; cases hk
          | some c => rw [e] at hk; exact ⟨c, rfl, by simpa using hk⟩
        subst hc2
        have hcm := hok.2 c (List.mem_of_getElem? hc1)
        refine ev_bi1 am3 (comp_ok hE) (g_chr w) b_chr (ev_local (comp_rd F₆.rd (Keeps.keep hk₃) hn₃ (fun _ _ e => by cases e)) (comp_ok hE) hb₃ ?_)
        refine chr_of_range (by omega) (by omega) ⟨⟨c, s₃.toks, hc1, by rw [Int.toNat_natCast]⟩, Keeps.tok _ _⟩
      · intro D lo s' ys vs' hD _ hk' hpl hlen' hP' hF'
        obtain ⟨h1, h2⟩ := outs_all (P := fun i v => vs.toArray[i]? = some v) hlen' hP' hF'
        have hstr : StrsAre ys.toList (cs.map fun c => (⟨#[c]⟩ : Str)) := by
          refine strs_of (by rw [h1, List.size_toArray, hlen, List.length_map]) fun j y hy => ?_
          obtain ⟨v, _, c, t, hc, rfl⟩ := h2 j y hy
          exact ⟨_, t, by rw [List.getElem?_map, hc]; rfl, rfl⟩
        refine args_nil (join_list hpl.isList hstr ?_ fun t' k => ?_)
        · have e1 : ∀ l : List Nat, ((l.map fun c => (⟨#[c]⟩ : Str)).map (·.length)).sum = l.length := by
            intro l
            induction l with
            | nil => rfl
            | cons c l ih => rw [List.map_cons, List.map_cons, List.sum_cons, ih, List.length_cons]; show 1 + _ = _; omega
          rw [e1, List.length_map]
          have e2 : (Str.ofString "").length = 0 := rfl
          have := hok.1
          show cs.length + cs.length * (Str.ofString "").length ≤ _
          rw [e2]; omega
        · have e := join_signs cs
          have := h (.str (Txt.join (Str.ofString "") (cs.map fun c => (⟨#[c]⟩ : Str))) t') { s' with toks := k } (Keeps.trans (F₆.tok _).done (Keeps.trans hk' (Keeps.tok _ _)))
          refine this ?_
          have hT := TAt.text (h := s'.heap) (lo := s.heap.objs.size) (way := way) (x := Txt.join (Str.ofString "") (cs.map fun c => (⟨#[c]⟩ : Str))) (t := t')
          rw [e] at hT
          exact hT
    all_goals rw [if_neg (by simp [is_text])]
    all_goals refine if_kind F₆.rd hE hkind (k_set _) fun s₇ hk₇ => ?_
    all_goals have F₇ := F₆.kept hk₇
    all_goals clear F₆ hk₆
    case set b1 b2 b3 b4 =>
      rw [if_pos (by simp [is_set])]
      obtain ⟨b, vs, rfl, _, hlb, hi⟩ := hc
      have am7 := am.keep (Keeps.keep F₇.done)
      have hlb7 : s₇.heap.IsList b vs.toArray := IsList.keep hlb fun o ho => (Keeps.keep F₇.done) _ o ho
      have hsz7 : s.heap.objs.size ≤ s₇.heap.objs.size := by have := F₇.toInCall.ns.lt; rw [hL] at this; exact Nat.le_of_lt this
      refine wpAny_execs_cons (wpAny_Return_some (IfExp_ (wpAny_isTrue_Compare1 (ev_cell F₇.rd hE hcell hcw (wpAny_Constant_int (P.eq_int (wpAny_truthy_bool ?_)))))))
      cases way with
      | false =>
        rw [if_pos (by decide)]
        refine ev_ty1 am7 hE (g_set w) b_set (ev_local (F₇.tok _).rd hE h4a ?_)
        exact call_set (A := A.deeper env) hh hlb7 hi fun a s' ha hk hS => h _ _ (Keeps.trans (F₇.tok _).done hk) (.set (Nat.le_trans hsz7 ha) hS)
      | true =>
        rw [if_neg (by decide)]
        refine ev_ty1 am7 hE (g_fset w) b_fset (sub_step (ev_local (F₇.tok _).rd hE h4a (evalPart_none_step (evalPart_none_step (UnaryOp_ (wpAny_Constant_int (P.neg_int ?_)))))))
        refine ⟨_, _, none, none, -1, rfl, hlb7, ?_, .none, .none, .int _ _, by decide, fun a s' hk ha hpl => ?_⟩
        · rw [List.size_toArray, hi.length]; exact sz4 (Nat.le_trans (setKs_len b1 b2 b3 b4) (by decide))
        rw [krv_pick] at hpl
        have hsz8 : s₇.heap.objs.size ≤ s'.heap.objs.size := by
          obtain ⟨_, e⟩ := hpl
          exact Nat.le_of_lt (Nat.lt_of_le_of_lt ha (Heap.lt_size e))
        refine call_fset (A := A.deeper env) hh hpl.isList (IntsAre.rev hi) (setKs_nodup b1 b2 b3 b4) (by rw [List.length_reverse]; exact Nat.le_trans (setKs_len b1 b2 b3 b4) (by decide)) fun a' s'' ha' hk' hS => ?_
        exact h _ _ (Keeps.trans (F₇.tok _).done (Keeps.trans hk hk')) (.set (Nat.le_trans hsz7 (Nat.le_trans hsz8 ha')) hS.rev)
    all_goals rw [if_neg (by simp [is_set])]
    all_goals refine if_kind F₇.rd hE hkind (k_none _) fun s₈ hk₈ => ?_
    all_goals have F₈ := F₇.kept hk₈
    all_goals clear F₇ hk₇
    case none =>
      rw [if_pos (by simp [is_none])]
      exact wpAny_execs_cons (wpAny_Return_some (Constant_none (h _ _ F₈.done .none)))
    all_goals rw [if_neg (by simp [is_none])]
    all_goals refine if_kind F₈.rd hE hkind (k_table _) fun s₉ hk₉ => ?_
    all_goals have F₉ := F₈.kept hk₉
    all_goals clear F₈ hk₈
    case table b1 b2 b3 =>
      rw [if_pos (by simp [is_table])]
      obtain ⟨b, vs, rfl, _, hlb, hi⟩ := hc
      have hk9 := Keeps.keep F₉.done
      have am9 := am.keep hk9
      have hlb9 : s₉.heap.IsList b vs.toArray := IsList.keep hlb fun o ho => hk9 _ o ho
      have hi9 := hi.keepS (Keep.s hk9)
      have hsz9 : s.heap.objs.size ≤ s₉.heap.objs.size := by have := F₉.toInCall.ns.lt; rw [hL] at this; exact Nat.le_of_lt this
      have htk : (tabKvs b1 b2 b3).map (·.1) = tabKs b1 b2 := by rw [tabKvs, List.map_map]; exact List.map_id _
      have htl : (tabKvs b1 b2 b3).length ≤ 2 := by rw [tabKvs, List.length_map]; exact tabKs_len b1 b2
      have htv : ∀ q ∈ tabKvs b1 b2 b3, q.2 = b2n b3 := by
        intro q hq
        rw [tabKvs, List.mem_map] at hq
        obtain ⟨k, _, rfl⟩ := hq
        rfl
      refine wpAny_execs_cons (wpAny_If (wpAny_isTrue_Compare1 (ev_cell F₉.rd hE hcell hcw (wpAny_Constant_int (P.eq_int (wpAny_truthy_bool ?_))))))
      cases way with
      | false =>
        rw [if_pos (by decide)]
        refine wpAny_execs_cons (wpAny_Return_some (ev_ty1 am9 hE (g_dict w) b_dict ?_))
        refine comp_ev rfl (by decide) rfl (by decide) (ev_local (F₉.tok _).rd hE h4a ?_)
        refine ⟨_, _, fun v mm => ∃ c k x t t', v = Value.ref c ∧ s₉.heap.IsList c #[.int k t, .int x t'] ∧ mm "key" = some (.int k t) ∧ mm "value" = some (.int x t'), fun _ _ => true,
          fun lo h i v y => ∃ c k x t val, y = Value.ref c ∧ lo ≤ c ∧ (tabKvs b1 b2 b3)[i]? = some (k, x) ∧ h.IsTuple c #[.int k t, val] ∧ ∃ t', val = Value.int x t', ?_, itb_list (A := A.deeper env) hh hlb9, ?_, ?_⟩
        · rw [List.size_toArray, hi.length]; exact sz4 (Nat.le_trans htl (by decide))
        · refine ⟨fun I v s₃ E' Q' hI hq => lets_tuple hI hq, fun C i v s₃ m₃ E' Q' hP hn₃ hk₃ hq => ?_, fun C i v s₃ m₃ E' _ _ _ _ => wpAny_tests_nil ⟨rfl, Keeps.refl _⟩, fun lo C i v s₃ m₃ E' hP _ hn₃ hb₃ hk₃ _ hlo => ?_, ?_⟩
          · obtain ⟨c, k, x, t, t', rfl, h1, h2⟩ := hi9.get i v (by simpa using hP)
            exact bind_pair (A := A.deeper env) hh (IsList.keep h2 fun o e => Keeps.keep hk₃ _ o e) hn₃ (by decide) (fun h' m' tk a1 a2 a3 a4 => hq h' m' tk a1 ⟨c, k, x, t, t', rfl, h2, a2, a3⟩ a4) rfl rfl rfl
          · obtain ⟨c, k, x, t, t', rfl, h2, a2, a3⟩ := hb₃
            obtain ⟨c', k', x', u, u', e1, e2, e3⟩ := hi9.get i _ (by simpa using hP)
            cases e1
            have e4 := isList_inj h2 e3
            simp at e4
            obtain ⟨⟨rfl, rfl⟩, rfl, rfl⟩ := e4
            have X : ∀ sc', Rd (compEnvC sc' [] C env) m₃ cm s₃.heap := fun sc' => comp_rd F₉.rd (Keeps.keep hk₃) hn₃ (fun _ _ e => by cases e)
            refine Tuple_ (args_cons (ev_local (X _) (comp_ok hE) a2 (args_cons (ev_local (X _) (comp_ok hE) a3 (args_nil ?_)) rfl)) rfl)
            exact new_tuple (fun a s' hk ha ht => ⟨⟨a, _, _, _, _, rfl, Nat.le_trans hlo ha, e2, ht, _, rfl⟩, hk⟩) (sz4 (by simp))
          · rintro lo h h' i v y ⟨c, k, x, t, val, r1, r2, r3, r4, r5⟩ hkk
            exact ⟨c, k, x, t, val, r1, r2, r3, IsTuple.keep r4 fun o e => hkk _ o r2 e, r5⟩
        · intro D lo s' ys vs' hD _ hk' hpl hlen' hP' hF'
          obtain ⟨h1, h2⟩ := outs_all (P := fun i v => vs.toArray[i]? = some v) hlen' hP' hF'
          obtain ⟨kvs', a1, a2, a3⟩ := tups_of (h := s'.heap) (G := fun x val => ∃ t', val = Value.int x t') (ys := ys.toList) (kvs := tabKvs b1 b2 b3) (by rw [h1, List.size_toArray, hi.length]) fun j y hy => by
            obtain ⟨v, _, c, k, x, t, val, r1, _, r3, r4, r5⟩ := h2 j y hy
            exact ⟨c, k, x, t, val, r1, r3, r4, r5⟩
          rw [htk] at a2
          have hszD : s₉.heap.objs.size ≤ s'.heap.objs.size := by
            obtain ⟨_, e⟩ := hpl
            exact Nat.le_of_lt (Nat.lt_of_le_of_lt hD (Heap.lt_size e))
          refine dict_pairs (A := A.deeper env) hh (by simpa using hpl) a1 (by rw [a2]; exact tabKs_nodup b1 b2) (by rw [← List.length_map (f := (·.1)), a2]; exact Nat.le_trans (tabKs_len b1 b2) (by decide)) fun a s'' ha hk hdo => ?_
          refine h _ _ (Keeps.trans (F₉.tok _).done (Keeps.trans hk' hk)) (.table (Nat.le_trans hsz9 (Nat.le_trans hszD ha)) ⟨dict_ref hdo, kvs', dict_any hdo, a2, fun p hp => ?_⟩)
          obtain ⟨q, hq, t', e⟩ := a3 p hp
          exact ⟨t', by rw [e, htv q hq]⟩
      | true =>
        rw [if_neg (by decide)]
        refine wpAny_execs_nil (wpAny_execs_cons (wpAny_Return_some (ev_ty1 am9 hE (g_dict w) b_dict ?_)))
        refine comp_ev rfl (by decide) rfl (by decide) (sub_step (ev_local (F₉.tok _).rd hE h4a (evalPart_none_step (evalPart_none_step (UnaryOp_ (wpAny_Constant_int (P.neg_int ?_)))))))
        refine ⟨_, _, none, none, -1, rfl, hlb9, ?_, .none, .none, .int _ _, by decide, fun aR sR hkR haR hplR => ?_⟩
        · rw [List.size_toArray, hi.length]; exact sz4 (Nat.le_trans htl (by decide))
        rw [krv_pick] at hplR
        have hkR' : Keep s₉.heap sR.heap := Keeps.keep hkR
        have hiR := (hi9.rev).keepS (Keep.s hkR')
        have FR : Inn s env m₄ cm sR := (F₉.tok _).kept hkR
        have amR := am9.keep hkR'
        have hszR : s₉.heap.objs.size ≤ sR.heap.objs.size := by
          obtain ⟨_, e⟩ := hplR
          exact Nat.le_of_lt (Nat.lt_of_le_of_lt haR (Heap.lt_size e))
        refine ⟨_, _, fun v mm => ∃ c k x t t', v = Value.ref c ∧ sR.heap.IsList c #[.int k t, .int x t'] ∧ mm "key" = some (.int k t) ∧ mm "value" = some (.int x t'), fun _ _ => true,
          fun lo h i v y => ∃ c k x t val, y = Value.ref c ∧ lo ≤ c ∧ (tabKvs b1 b2 b3).reverse[i]? = some (k, x) ∧ h.IsTuple c #[.int k t, val] ∧ val = Value.bool (x == 1), ?_, itb_list (A := A.deeper env) hh hplR.isList, ?_, ?_⟩
        · simp only [List.size_toArray, List.length_reverse]
          rw [hi.length]; exact sz4 (Nat.le_trans htl (by decide))
        · refine ⟨fun I v s₃ E' Q' hI hq => lets_tuple hI hq, fun C i v s₃ m₃ E' Q' hP hn₃ hk₃ hq => ?_, fun C i v s₃ m₃ E' _ _ _ _ => wpAny_tests_nil ⟨rfl, Keeps.refl _⟩, fun lo C i v s₃ m₃ E' hP _ hn₃ hb₃ hk₃ _ hlo => ?_, ?_⟩
          · obtain ⟨c, k, x, t, t', rfl, h1, h2⟩ := hiR.get i v (by simpa using hP)
            exact bind_pair (A := A.deeper env) hh (IsList.keep h2 fun o e => Keeps.keep hk₃ _ o e) hn₃ (by decide) (fun h' m' tk a1 a2 a3 a4 => hq h' m' tk a1 ⟨c, k, x, t, t', rfl, h2, a2, a3⟩ a4) rfl rfl rfl
          · obtain ⟨c, k, x, t, t', rfl, h2, a2, a3⟩ := hb₃
            obtain ⟨c', k', x', u, u', e1, e2, e3⟩ := hiR.get i _ (by simpa using hP)
            cases e1
            have e4 := isList_inj h2 e3
            simp at e4
            obtain ⟨⟨rfl, rfl⟩, rfl, rfl⟩ := e4
            have X : ∀ sc', Rd (compEnvC sc' [] C env) m₃ cm s₃.heap := fun sc' => comp_rd FR.rd (Keeps.keep hk₃) hn₃ (fun _ _ e => by cases e)
            refine Tuple_ (args_cons (ev_local (X _) (comp_ok hE) a2 (args_cons (wpAny_Compare1 (ev_local (X _) (comp_ok hE) a3 (wpAny_Constant_int (P.eq_int (args_nil ?_))))) rfl)) rfl)
            exact new_tuple (fun a s' hk ha ht => ⟨⟨a, _, _, _, _, rfl, Nat.le_trans hlo ha, e2, ht, rfl⟩, Keeps.trans (Keeps.tok _ _) hk⟩) (sz4 (by simp))
          · rintro lo h h' i v y ⟨c, k, x, t, val, r1, r2, r3, r4, r5⟩ hkk
            exact ⟨c, k, x, t, val, r1, r2, r3, IsTuple.keep r4 fun o e => hkk _ o r2 e, r5⟩
        · intro D lo s' ys vs' hD _ hk' hpl hlen' hP' hF'
          obtain ⟨h1, h2⟩ := outs_all (P := fun i v => vs.toArray.toList.reverse.toArray[i]? = some v) hlen' hP' hF'
          obtain ⟨kvs', a1, a2, a3⟩ := tups_of (h := s'.heap) (G := fun x val => val = Value.bool (x == 1)) (ys := ys.toList) (kvs := (tabKvs b1 b2 b3).reverse) (by rw [h1]; simp [hi.length]) fun j y hy => by
            obtain ⟨v, _, c, k, x, t, val, r1, _, r3, r4, r5⟩ := h2 j y hy
            exact ⟨c, k, x, t, val, r1, r3, r4, r5⟩
          rw [List.map_reverse, htk] at a2
          have hszD : sR.heap.objs.size ≤ s'.heap.objs.size := by
            obtain ⟨_, e⟩ := hpl
            exact Nat.le_of_lt (Nat.lt_of_le_of_lt hD (Heap.lt_size e))
          refine dict_pairs (A := A.deeper env) hh (by simpa using hpl) a1 (by rw [a2]; cases b1 <;> cases b2 <;> decide) (by rw [← List.length_map (f := (·.1)), a2, List.length_reverse]; exact Nat.le_trans (tabKs_len b1 b2) (by decide)) fun a s'' ha hk hdo => ?_
          refine h _ _ (Keeps.trans FR.done (Keeps.trans hk' hk)) (.table (Nat.le_trans hsz9 (Nat.le_trans hszR (Nat.le_trans hszD ha))) ⟨dict_ref hdo, kvs', dict_any hdo, a2, fun p hp => ?_⟩)
          obtain ⟨q, hq, e⟩ := a3 p hp
          show p.2 = Value.bool b3
          rw [e, htv q (List.mem_reverse.mp hq)]
          cases b3 <;> rfl
    all_goals rw [if_neg (by simp [is_table])]
    case list ps =>
      obtain ⟨b, vs, rfl, _, hlb, hall⟩ := hc
      have hk9 := Keeps.keep F₉.done
      have am9 := am.keep hk9
      have hlb9 : s₉.heap.IsList b vs.toArray := IsList.keep hlb fun o ho => hk9 _ o ho
      have hlen := hall.length
      have hsz9 : s.heap.objs.size ≤ s₉.heap.objs.size := by have := F₉.toInCall.ns.lt; rw [hL] at this; exact Nat.le_of_lt this
      have hlsz : ps.length ≤ sizeLine := by
        have := length_le_wts ps
        simp only [wt] at hw
        exact sz4 (by omega)
      refine wpAny_execs_cons (comp_assign (clos_of hcl fun _ => rfl) (by decide) rfl (by decide) ?_ (by rw [Env.kindOf, hE.sc]; rfl) (by rw [hE.sc]; rfl) (ev_local F₉.rd hE h4a ?_))
      · simp only [swapsWith, Env.blockKind, Env.kindOf, hE.sc]; rfl
      refine ⟨_, _, fun v mm => mm "item" = some v, fun _ _ => true, fun lo h i v y => ∃ p, ps[i]? = some p ∧ TAt h lo way y p, m₄, ?_, F₉.toInCall.ns, itb_list (A := A.deeper env) hh hlb9, ?_, ?_⟩
      · rw [List.size_toArray, hlen]; exact hlsz
      · refine ⟨fun I v s₃ E' Q' _ hq => lets_name hq, fun C i v s₃ m₃ E' Q' _ hn₃ _ hq => bind_name hn₃ hq rfl rfl, fun C i v s₃ m₃ E' _ _ _ _ => wpAny_tests_nil ⟨rfl, Keeps.refl _⟩, fun lo C i v s₃ m₃ E' hP _ hn₃ hb₃ hk₃ _ hlo => ?_, ?_⟩
        · have hk3 : Keep s.heap s₃.heap := Keep.trans hk9 (Keeps.keep hk₃)
          obtain ⟨p', hp1, hp2⟩ := hall.get i v (by simpa using hP)
          have hmem : p' ∈ ps := List.mem_of_getElem? hp1
          have hsz : sizeOf p' < sizeOf ps := List.sizeOf_lt_of_mem hmem
          have hdp := deep_le_deeps hmem
          have hwp := wt_le_wts hmem
          have am3 := am.keep hk3
          have X : ∀ sc', Rd (compEnvC sc' [(Str.ofString "way", s.heap.objs.size + 1)] C env) m₃ cm s₃.heap := fun sc' => comp_rd F₉.rd (Keeps.keep hk₃) hn₃ (fun n c e => by obtain ⟨rfl, rfl⟩ := look_one e; exact hcell)
          refine ev_call2 am3 (comp_okc hE) (g_thing w) rfl rfl (ev_local (X _) (comp_okc hE) hb₃ (ev_cell (X _) (comp_okc hE) rfl hcw ⟨am3, ?_⟩))
          refine ih p' (by simp only [Plan.list.sizeOf_spec] at hn; omega) am3 (hp2.keep hk3) hh (by simp only [deep] at hd; show A.depth + 1 + deep p' < _; omega) (by simp only [wt] at hw; omega) ?_
          exact fun r s' hs' hT => ⟨⟨p', hp1, hT.keep hlo fun b o _ e => e⟩, hs'⟩
        · rintro lo h h' i v y ⟨p, h1, h2⟩ hk
          exact ⟨p, h1, h2.keep (Nat.le_refl _) hk⟩
      · intro D lo s' ys vs' hD hDlo hk' hns hpl hlen' hP' hF'
        obtain ⟨h1, h2⟩ := outs_all (P := fun i v => vs.toArray[i]? = some v) hlen' hP' hF'
        have hT : TAll s'.heap lo way ys.toList ps := by
          refine TAll.of (by rw [h1, List.size_toArray, hlen]) fun j y hy => ?_
          obtain ⟨v, _, p, hp, hT⟩ := h2 j y hy
          exact ⟨p, hp, hT⟩
        have X := F₉.rd_but hns hk'
        have hK : Keeps s s' := keeps_but F₉.done (Nat.le_of_eq hL.symm) hk'
        have am' := am.keep (Keeps.keep hK)
        have hsD : s.heap.objs.size ≤ D := Nat.le_trans hsz9 hD
        have hsl : s.heap.objs.size ≤ lo := Nat.le_trans hsD (Nat.le_of_lt hDlo)
        have hLs' : s.heap.objs.size < s'.heap.objs.size := by have := hns.lt; rw [hL] at this; exact this
        have hkind' : (fun z => if z = Str.ofString "items" then some (Value.ref D) else m₄ z) "kind" = some (.str (kindOf (Plan.list ps)) t) := by
          show (if _ then _ else _) = _
          rw [if_neg (by decide)]; exact hkind
        have hit : (fun z => if z = Str.ofString "items" then some (Value.ref D) else m₄ z) "items" = some (.ref D) := if_pos rfl
        refine wpAny_execs_cons (wpAny_Return_some ?_)
        refine IfExp_ (wpAny_isTrue_Compare1 (ev_local X hE hkind' (Constant_str (PyProof.Rows.eq_str (wpAny_truthy_bool ?_)))))
        rw [k_list, if_pos (by simp [is_list])]
        refine ev_local (X.keep (Keep.refl _)) hE hit ?_
        exact h _ _ (Keeps.trans hK (Keeps.tok _ _)) (.list hsD hpl.isList (hT.keep hsl fun b o _ e => e))
    case tup ps =>
      obtain ⟨b, vs, rfl, _, hlb, hall⟩ := hc
      have hk9 := Keeps.keep F₉.done
      have am9 := am.keep hk9
      have hlb9 : s₉.heap.IsList b vs.toArray := IsList.keep hlb fun o ho => hk9 _ o ho
      have hlen := hall.length
      have hsz9 : s.heap.objs.size ≤ s₉.heap.objs.size := by have := F₉.toInCall.ns.lt; rw [hL] at this; exact Nat.le_of_lt this
      have hlsz : ps.length ≤ sizeLine := by
        have := length_le_wts ps
        simp only [wt] at hw
        exact sz4 (by omega)
      refine wpAny_execs_cons (comp_assign (clos_of hcl fun _ => rfl) (by decide) rfl (by decide) ?_ (by rw [Env.kindOf, hE.sc]; rfl) (by rw [hE.sc]; rfl) (ev_local F₉.rd hE h4a ?_))
      · simp only [swapsWith, Env.blockKind, Env.kindOf, hE.sc]; rfl
      refine ⟨_, _, fun v mm => mm "item" = some v, fun _ _ => true, fun lo h i v y => ∃ p, ps[i]? = some p ∧ TAt h lo way y p, m₄, ?_, F₉.toInCall.ns, itb_list (A := A.deeper env) hh hlb9, ?_, ?_⟩
      · rw [List.size_toArray, hlen]; exact hlsz
      · refine ⟨fun I v s₃ E' Q' _ hq => lets_name hq, fun C i v s₃ m₃ E' Q' _ hn₃ _ hq => bind_name hn₃ hq rfl rfl, fun C i v s₃ m₃ E' _ _ _ _ => wpAny_tests_nil ⟨rfl, Keeps.refl _⟩, fun lo C i v s₃ m₃ E' hP _ hn₃ hb₃ hk₃ _ hlo => ?_, ?_⟩
        · have hk3 : Keep s.heap s₃.heap := Keep.trans hk9 (Keeps.keep hk₃)
          obtain ⟨p', hp1, hp2⟩ := hall.get i v (by simpa using hP)
          have hmem : p' ∈ ps := List.mem_of_getElem? hp1
          have hsz : sizeOf p' < sizeOf ps := List.sizeOf_lt_of_mem hmem
          have hdp := deep_le_deeps hmem
          have hwp := wt_le_wts hmem
          have am3 := am.keep hk3
          have X : ∀ sc', Rd (compEnvC sc' [(Str.ofString "way", s.heap.objs.size + 1)] C env) m₃ cm s₃.heap := fun sc' => comp_rd F₉.rd (Keeps.keep hk₃) hn₃ (fun n c e => by obtain ⟨rfl, rfl⟩ := look_one e; exact hcell)
          refine ev_call2 am3 (comp_okc hE) (g_thing w) rfl rfl (ev_local (X _) (comp_okc hE) hb₃ (ev_cell (X _) (comp_okc hE) rfl hcw ⟨am3, ?_⟩))
          refine ih p' (by simp only [Plan.tup.sizeOf_spec] at hn; omega) am3 (hp2.keep hk3) hh (by simp only [deep] at hd; show A.depth + 1 + deep p' < _; omega) (by simp only [wt] at hw; omega) ?_
          exact fun r s' hs' hT => ⟨⟨p', hp1, hT.keep hlo fun b o _ e => e⟩, hs'⟩
        · rintro lo h h' i v y ⟨p, h1, h2⟩ hk
          exact ⟨p, h1, h2.keep (Nat.le_refl _) hk⟩
      · intro D lo s' ys vs' hD hDlo hk' hns hpl hlen' hP' hF'
        obtain ⟨h1, h2⟩ := outs_all (P := fun i v => vs.toArray[i]? = some v) hlen' hP' hF'
        have hT : TAll s'.heap lo way ys.toList ps := by
          refine TAll.of (by rw [h1, List.size_toArray, hlen]) fun j y hy => ?_
          obtain ⟨v, _, p, hp, hT⟩ := h2 j y hy
          exact ⟨p, hp, hT⟩
        have X := F₉.rd_but hns hk'
        have hK : Keeps s s' := keeps_but F₉.done (Nat.le_of_eq hL.symm) hk'
        have am' := am.keep (Keeps.keep hK)
        have hsD : s.heap.objs.size ≤ D := Nat.le_trans hsz9 hD
        have hsl : s.heap.objs.size ≤ lo := Nat.le_trans hsD (Nat.le_of_lt hDlo)
        have hLs' : s.heap.objs.size < s'.heap.objs.size := by have := hns.lt; rw [hL] at this; exact this
        have hkind' : (fun z => if z = Str.ofString "items" then some (Value.ref D) else m₄ z) "kind" = some (.str (kindOf (Plan.tup ps)) t) := by
          show (if _ then _ else _) = _
          rw [if_neg (by decide)]; exact hkind
        have hit : (fun z => if z = Str.ofString "items" then some (Value.ref D) else m₄ z) "items" = some (.ref D) := if_pos rfl
        refine wpAny_execs_cons (wpAny_Return_some ?_)
        refine IfExp_ (wpAny_isTrue_Compare1 (ev_local X hE hkind' (Constant_str (PyProof.Rows.eq_str (wpAny_truthy_bool ?_)))))
        rw [k_list, if_neg (by simp [is_list])]
        refine ev_ty1 am' hE (g_tuple w) b_tuple (ev_local (X.keep (Keep.refl _)) hE hit ?_)
        refine call_tuple_list hpl.isList (fun h'' hk'' => ?_) (by rw [← Array.length_toList, h1, List.size_toArray, hlen]; exact hlsz)
        have hs'' : s.heap.objs.size ≤ h''.objs.size := by
          obtain ⟨_, e⟩ := hpl
          exact Nat.le_trans hsD (Nat.le_of_lt (Heap.lt_size (hk'' D _ e)))
        refine h _ _ (Keeps.trans hK ⟨_, _, rfl, fun b o e => Heap.get?_push_of_some _ (hk'' b o e)⟩) (.tup hs'' ⟨_, Heap.get?_push_size _ rfl, rfl, _, rfl⟩ (hT.keep hsl fun b o _ e => Heap.get?_push_of_some _ (hk'' b o e)))
end Mine

namespace Mine
open PySem.Calls

/-! ## for x in ..: with a frame's own names -/
def KeepW (env : Env) (ws : List Addr) (h h' : Heap) : Prop := ∀ b o, b ≠ env.locals → (∀ n c, env.cells.lookup n = some c → b ≠ c) → b ∉ ws → h.get? b = some o → h'.get? b = some o
def IsIt (o : Obj) : Prop := o.cls = .type "list_iterator" ∨ o.cls = .type "range_iterator"
/-- all but iterators is kept -/
def KeepN (N : Nat) (s s' : Shared) : Prop := ∃ h' tk, s' = { s with heap := h', toks := tk } ∧ ∀ b o, s.heap.get? b = some o → (b < N ∨ ¬ IsIt o) → h'.get? b = some o
def Itf (prog : Program) (w : World) (A : Around) (s₁ : Shared) (xv : Value) (n : Nat) (P : Nat → Value → Prop) : Prop :=
  ∀ (Q E : Value → Shared → Prop), (∀ I s₂ fp wr St, Keeps s₁ s₂ → s₁.heap.objs.size ≤ I → Walks prog w A I fp wr n P St → St 0 s₂.heap → (∀ b ∈ fp, s₁.heap.objs.size ≤ b ∨ xv = .ref b) → (∀ b ∈ wr, b = I) →
    (∀ i h, St i h → ∃ o, h.get? I = some o ∧ IsIt o) → Q (.ref I) s₂) → wpAny (model prog w) A (pyIter xv) Q E s₁

theorem KeepL.w {env : Env} {h h' : Heap} (x : KeepL env h h') (ws : List Addr) : KeepW env ws h h' := fun b o h1 h2 _ e => x b o h1 h2 e
theorem KeepW.trans {env : Env} {ws : List Addr} {h h' h'' : Heap} (x : KeepW env ws h h') (y : KeepW env ws h' h'') : KeepW env ws h h'' := fun b o h1 h2 h3 e => y b o h1 h2 h3 (x b o h1 h2 h3 e)
theorem Keep.w {env : Env} {h h' : Heap} (x : Keep h h') (ws : List Addr) : KeepW env ws h h' := fun b o _ _ _ e => x b o e
theorem KeepN.list {N : Nat} {s s' : Shared} (x : KeepN N s s') {a : Addr} {vs : Array Value} (l : s.heap.IsList a vs) : s'.heap.IsList a vs := by
  obtain ⟨h', tk, rfl, hk⟩ := x
  obtain ⟨o, ho, hc, n, hd⟩ := l
  refine ⟨o, hk a o ho (.inr ?_), hc, n, hd⟩
  rintro (h | h) <;> · rw [hc] at h; simp at h
theorem KeepN.plain {N : Nat} {s s' : Shared} (x : KeepN N s s') {a : Addr} {vs : Array Value} (l : s.heap.PlainList a vs) : s'.heap.PlainList a vs := by
  obtain ⟨h', tk, rfl, hk⟩ := x
  obtain ⟨n, ho⟩ := l
  refine ⟨n, hk a _ ho (.inr ?_)⟩
  rintro (h | h) <;> simp at h
theorem PairsAre.keepN {bad : Addr} {N : Nat} {s s' : Shared} (x : KeepN N s s') : ∀ {vs : List Value} {kvs : List (Int × Int)}, PairsAre s.heap bad vs kvs → PairsAre s'.heap bad vs kvs
  | _, _, .nil => .nil
  | _, _, .cons h1 h2 h3 => .cons h1 (x.list h2) (h3.keepN x)
mutual
theorem PAt.keepN {bad : Addr} {N : Nat} {s s' : Shared} (x : KeepN N s s') : ∀ {v : Value} {p : Plan}, PAt s.heap bad v p → PAt s'.heap bad v p
  | _, _, .num h1 h2 => .num h1 (x.list h2)
  | _, _, .text h1 h2 h3 h4 h5 h6 => .text h1 h2 (x.list h3) (x.list h4) h5 h6
  | _, _, .set h1 h2 h3 h4 h5 => .set h1 h2 (x.list h3) (x.list h4) h5
  | _, _, .none h1 h2 => .none h1 (x.list h2)
  | _, _, .table h1 h2 h3 h4 h5 => .table h1 h2 (x.list h3) (x.list h4) (h5.keepN x)
  | _, _, .list h1 h2 h3 h4 h5 => .list h1 h2 (x.list h3) (x.list h4) (PAll.keepN x h5)
  | _, _, .tup h1 h2 h3 h4 h5 => .tup h1 h2 (x.list h3) (x.list h4) (PAll.keepN x h5)
theorem PAll.keepN {bad : Addr} {N : Nat} {s s' : Shared} (x : KeepN N s s') : ∀ {vs : List Value} {ps : List Plan}, PAll s.heap bad vs ps → PAll s'.heap bad vs ps
  | _, _, .nil => .nil
  | _, _, .cons h1 h2 => .cons (PAt.keepN x h1) (PAll.keepN x h2)
end

section
variable {prog : Program} {w : World} {A : Around} {s₁ : Shared}
theorem itf_list (hh : A.handled = none) {l : Addr} {items : Array Value} (hl : s₁.heap.IsList l items) : Itf prog w A s₁ (.ref l) items.size (fun i v => items[i]? = some v) := by
  intro Q E h
  have hlt : l < s₁.heap.objs.size := by obtain ⟨_, e, _⟩ := hl; exact Heap.lt_size e
  refine wpAny_pyIter_list hl (h _ _ _ _ _ (keeps_push s₁ _) (Nat.le_refl _) (Walks.list hh s₁.heap.objs.size l (Nat.ne_of_lt hlt) items) ⟨⟨_, Heap.get?_push_size _ rfl, rfl, rfl⟩, hl.push _⟩ ?_ ?_ ?_)
  · intro b hb
    simp at hb
    rcases hb with rfl | rfl
    · exact .inl (Nat.le_refl _)
    · exact .inr rfl
  · intro b hb; simpa using hb
  · rintro i h ⟨⟨o', ho', hc', _⟩, _⟩
    exact ⟨o', ho', .inl hc'⟩
theorem itf_range (hh : A.handled = none) {r : Addr} {n : Nat} {t u v : Tok} (hr : IsRange s₁.heap r 0 n 1 t u v) (hn : n ≤ 4000) : Itf prog w A s₁ (.ref r) n (fun i v => ∃ t, v = .int i t) := by
  intro Q E h
  have hsize : Builtin.Range.rangeSize 0 n 1 = n := by
    unfold Builtin.Range.rangeSize
    by_cases h0 : 0 < n
    · simp; omega
    · simp; omega
  have hsm : Builtin.Range.small 0 n 1 = true := by
    unfold Builtin.Range.small Builtin.Range.rangeFitsLong
    rw [hsize]
    simp; omega
  have W := Walks.range (prog := prog) (w := w) (A := A) hh s₁.heap.objs.size 0 1 n
  have e : (fun (i : Nat) (v : Value) => ∃ t, v = Value.int (0 + (i : Int) * 1) t) = fun (i : Nat) (v : Value) => ∃ t, v = Value.int (i : Int) t := by
    funext i v; simp
  rw [e] at W
  refine wpAny_pyIter_range hr hsm (h _ _ _ _ _ (keeps_push s₁ _) (Nat.le_refl _) W ?_ ?_ ?_ ?_)
  · show IsRangeIter _ _ _ _ _
    rw [hsize]
    simpa using Heap.get?_push_size _ rfl
  · intro b hb
    simp at hb
    rw [hb]; exact .inl (Nat.le_refl _)
  · intro b hb; simpa using hb
  · intro i h st
    exact ⟨_, st, .inr rfl⟩
end

theorem Inn.low {s₀ s : Shared} {env : Env} {m cm : Str → Option Value} {h' : Heap} {tk : Nat} {N : Nat} (F : Inn s₀ env m cm s) (hL : env.locals < N) (hc : ∀ n c, env.cells.lookup n = some c → c < N) (hk : ∀ b o, b < N → s.heap.get? b = some o → h'.get? b = some o) :
    Inn s₀ env m cm { s with heap := h', toks := tk } := by
  refine ⟨⟨?_, F.toInCall.ns.at' fun o e => hk _ o hL e, fun b o e => hk b o (Nat.lt_trans (Nat.lt_of_lt_of_le (Heap.lt_size e) F.toInCall.fresh) hL) (F.toInCall.keep b o e), F.toInCall.fresh⟩, fun n c e => ?_, F.apart, F.above⟩
  · obtain ⟨h, tk', rfl⟩ := F.toInCall.same
    exact ⟨h', tk, rfl⟩
  · obtain ⟨o, ho, hd⟩ := F.cell n c e
    exact ⟨o, hk _ o (hc n c e) ho, hd⟩

section
variable {prog : Program} {w : World} {A : Around} {E : Value → Shared → Prop} {s₀ s : Shared} {env : Env} {sc : Scope}
theorem for_each {x : Str} {px pos : Pos} {iter : Expr} {body : List Stmt} {Q : Flow → Shared → Prop} (hE : EnvOk env sc)
    (h : wpAny (model prog w) A (eval iter env) (fun xv s₁ => ∃ (n : Nat) (P : Nat → Value → Prop) (J : Nat → (Str → Option Value) → (Str → Option Value) → Shared → Prop) (ws : List Addr) (m cm : Str → Option Value),
      Inn s₀ env m cm s₁ ∧ Itf prog w A s₁ xv n P ∧ (∀ b, xv = .ref b → b ≠ env.locals ∧ (∀ n c, env.cells.lookup n = some c → b ≠ c) ∧ b ∉ ws) ∧ (∀ b ∈ ws, b < s₁.heap.objs.size) ∧ J 0 m cm s₁ ∧
      (∀ i m' cm' s' s'', J i m' cm' s' → KeepN s₁.heap.objs.size s' s'' → J i m' cm' s'') ∧
      (∀ i v m' m'' cm' s₂ s', i < n → P i v → J i m' cm' s₂ → Inn s₀ env m'' cm' s' → m'' x = some v → (∀ y, y ≠ x → m'' y = m' y) → Inn s₀ env m' cm' s₂ → KeepL env s₂.heap s'.heap →
        wpAny (model prog w) A (execs body env) (fun f s'' => match f with
          | .next | .cont => ∃ m₃ cm₃, Inn s₀ env m₃ cm₃ s'' ∧ KeepW env ws s'.heap s''.heap ∧ J (i + 1) m₃ cm₃ s''
          | .brk => Q .next s'' | .ret v => Q (.ret v) s'') (fun _ _ => False) s') ∧
      (∀ m' cm' s', Inn s₀ env m' cm' s' → J n m' cm' s' → Q .next s')) E s)
    (hk : sc.kind = .function := by rfl) (hl : sc.names.lookup x = some .local := by rfl) (hs : ∀ x, foldedSetIterable iter env x = pure x := by intro _; rfl) :
    wpAny (model prog w) A (exec (.For (.Name x px) iter body [] pos) env) Q E s := by
  refine wpAny_For (wpAny_mono h (fun xv s₁ h₁ => ?_) fun _ _ e => e) hs
  obtain ⟨n, P, J, ws, m, cm, F, hI, hxv, hws, hJ, hst, step, done⟩ := h₁
  refine hI _ _ fun I s₂ fp wr St h12 hIge W hst0 hfp hwr hcls => ?_
  have hLlt : env.locals < s₁.heap.objs.size := F.toInCall.ns.lt
  have hclt : ∀ n c, env.cells.lookup n = some c → c < s₁.heap.objs.size := fun n c e => by
    obtain ⟨o, ho, _⟩ := F.cell n c e
    exact Heap.lt_size ho
  have hfpL : ∀ b ∈ fp, b ≠ env.locals ∧ (∀ n c, env.cells.lookup n = some c → b ≠ c) ∧ b ∉ ws := by
    intro b hb
    rcases hfp b hb with h | h
    · exact ⟨Nat.ne_of_gt (Nat.lt_of_lt_of_le hLlt h), fun n c e => Nat.ne_of_gt (Nat.lt_of_lt_of_le (hclt n c e) h), fun hm => Nat.lt_irrefl _ (Nat.lt_of_lt_of_le (hws b hm) h)⟩
    · exact hxv b h
  have keepN : ∀ {i : Nat} {s' : Shared} {h' : Heap} {tk : Nat}, St i s'.heap → (∀ b o, b ∉ wr → s'.heap.get? b = some o → h'.get? b = some o) → KeepN s₁.heap.objs.size s' { s' with heap := h', toks := tk } := by
    intro i s' h' tk st hk
    refine ⟨h', tk, rfl, fun b o e hn => hk b o (fun hm => hn.elim (fun hb => by rw [hwr b hm] at hb; exact Nat.lt_irrefl _ (Nat.lt_of_lt_of_le hb hIge)) fun hn => hn ?_) e⟩
    obtain ⟨o', e', hit⟩ := hcls i _ st
    rw [hwr b hm] at e
    rw [e] at e'; cases e'; exact hit
  have low : ∀ {m' cm' : Str → Option Value} {s' : Shared} {h' : Heap} {tk : Nat}, Inn s₀ env m' cm' s' → (∀ b o, b ∉ wr → s'.heap.get? b = some o → h'.get? b = some o) → Inn s₀ env m' cm' { s' with heap := h', toks := tk } := fun F' hk =>
    F'.low hLlt hclt fun b o hb e => hk b o (fun hm => by have := hwr b hm; rw [this] at hb; exact Nat.lt_irrefl _ (Nat.lt_of_lt_of_le hb hIge)) e
  refine codeAny_forLoop_any (fun k s' => ∃ i m' cm', Inn s₀ env m' cm' s' ∧ St i s'.heap ∧ J i m' cm' s' ∧ i ≤ n ∧ k = n + 1 - i) ?_ (n + 1) ⟨0, m, cm, F.kept h12, hst0, hst 0 m cm s₁ s₂ hJ ?_, Nat.zero_le _, rfl⟩
  · rintro k s' ⟨i, m', cm', F', st', hJ', hi, rfl⟩
    by_cases hlt : i < n
    · refine W.item i _ _ _ hlt st' fun v h₁ tk₁ hP st₁ hk₁ => ?_
      refine lets_name ?_
      have F₁ : Inn s₀ env m' cm' { s' with heap := h₁, toks := tk₁ } := low F' hk₁
      have hJ₁ := hst i m' cm' s' _ hJ' (keepN (tk := tk₁) st' hk₁)
      refine PyProof.Rows.assign_Name (st_local F₁ hE (fun s₂ m₂ F₂ ha hb hkl => ?_) hk hl)
      have st₂ : St (i + 1) s₂.heap := W.frame _ _ _ st₁ fun b hb o e => hkl b o (hfpL b hb).1 (hfpL b hb).2.1 e
      refine wpAny_mono (step i v m' m₂ cm' _ s₂ hlt hP hJ₁ F₂ ha hb F₁ hkl) (fun f s₃ h₃ => ?_) fun _ _ x => x.elim
      have go : ∀ m₃ cm₃, Inn s₀ env m₃ cm₃ s₃ → KeepW env ws s₂.heap s₃.heap → J (i + 1) m₃ cm₃ s₃ → ∃ k', k' < n + 1 - i ∧ ∃ i m' cm', Inn s₀ env m' cm' s₃ ∧ St i s₃.heap ∧ J i m' cm' s₃ ∧ i ≤ n ∧ k' = n + 1 - i := fun m₃ cm₃ F₃ hk₃ hJ₃ =>
        ⟨n + 1 - (i + 1), by omega, i + 1, m₃, cm₃, F₃, W.frame _ _ _ st₂ fun b hb o e => hk₃ b o (hfpL b hb).1 (hfpL b hb).2.1 (hfpL b hb).2.2 e, hJ₃, hlt, rfl⟩
      cases f with
      | next => obtain ⟨m₃, cm₃, a, b, c⟩ := h₃; exact go m₃ cm₃ a b c
      | cont => obtain ⟨m₃, cm₃, a, b, c⟩ := h₃; exact go m₃ cm₃ a b c
      | brk => exact h₃
      | ret v => exact h₃
    · have hin : i = n := by omega
      subst hin
      refine W.done _ _ _ st' fun h₁ tk₁ hk₁ => ?_
      refine wpAny_execs_nil ?_
      exact done m' cm' _ (low F' hk₁) (hst i m' cm' s' _ hJ' (keepN (tk := tk₁) st' hk₁))
  · obtain ⟨h', tk, rfl, hk⟩ := h12
    exact ⟨h', tk, rfl, fun b o e _ => hk b o e⟩
end
end Mine

namespace Mine
open PySem.Calls

theorem lay_ints : ∀ ns : List Int, PyData.canLayAll0 (ns.map PyData.int) = true
  | [] => rfl
  | n :: ns => by simp only [List.map_cons, PyData.canLayAll0, PyData.canLay0, lay_ints ns, Bool.and_true]
theorem dep_ints : ∀ ns : List Int, PyData.depthAll (ns.map PyData.int) = 0
  | [] => rfl
  | n :: ns => by simp only [List.map_cons, PyData.depthAll, PyData.depth, dep_ints ns, Nat.max_self]
theorem ok_number : PyData.strOk (Str.ofString "number") = true := by decide +kernel
theorem ok_text : PyData.strOk (Str.ofString "text") = true := by decide +kernel
theorem ok_set : PyData.strOk (Str.ofString "set") = true := by decide +kernel
theorem ok_none : PyData.strOk (Str.ofString "none") = true := by decide +kernel
theorem ok_table : PyData.strOk (Str.ofString "table") = true := by decide +kernel
theorem ok_list : PyData.strOk (Str.ofString "list") = true := by decide +kernel
theorem ok_tuple : PyData.strOk (Str.ofString "tuple") = true := by decide +kernel
mutual
theorem pd_lay : ∀ p : Plan, (pd p).canLay0 = true
  | .num n => by simp only [pd, PyData.canLay0, PyData.canLayAll0, ok_number, Bool.and_true]
  | .text cs => by
    have := lay_ints (cs.map fun (c : Nat) => (c : Int))
    rw [List.map_map] at this
    simp only [pd, PyData.canLay0, PyData.canLayAll0, ok_text, Bool.true_and, Bool.and_true]
    exact this
  | .set a b c d => by
    simp only [pd, PyData.canLay0, PyData.canLayAll0, ok_set, Bool.true_and, Bool.and_true]
    exact lay_ints _
  | .none => by simp only [pd, PyData.canLay0, PyData.canLayAll0, ok_none, Bool.and_true]
  | .table a b v => by
    have h : ∀ l : List (Int × Int), PyData.canLayAll0 (l.map fun kv => PyData.list [.int kv.1, .int kv.2]) = true := by
      intro l
      induction l with
      | nil => rw [List.map_nil, PyData.canLayAll0]
      | cons q l ih => simp only [List.map_cons, PyData.canLayAll0, PyData.canLay0, ih, Bool.and_true]
    simp only [pd, PyData.canLay0, PyData.canLayAll0, ok_table, Bool.true_and, Bool.and_true]
    exact h _
  | .list ps => by
    simp only [pd, PyData.canLay0, PyData.canLayAll0, ok_list, Bool.true_and, Bool.and_true]
    exact pds_lay ps
  | .tup ps => by
    simp only [pd, PyData.canLay0, PyData.canLayAll0, ok_tuple, Bool.true_and, Bool.and_true]
    exact pds_lay ps
theorem pds_lay : ∀ ps : List Plan, PyData.canLayAll0 (pds ps) = true
  | [] => rfl
  | p :: ps => by simp only [pds, PyData.canLayAll0, pd_lay p, pds_lay ps, Bool.and_true]
end
mutual
theorem pd_depth : ∀ p : Plan, (pd p).depth ≤ 2 * deep p + 3
  | .num n => by simp [pd, PyData.depth, PyData.depthAll]
  | .text cs => by
    have := dep_ints (cs.map fun (c : Nat) => (c : Int))
    rw [List.map_map] at this
    have h2 : PyData.depthAll (cs.map fun (c : Nat) => PyData.int (c : Int)) = 0 := this
    simp [pd, PyData.depth, PyData.depthAll, h2]
  | .set a b c d => by simp [pd, PyData.depth, PyData.depthAll, dep_ints]
  | .none => by simp [pd, PyData.depth, PyData.depthAll]
  | .table a b v => by cases a <;> cases b <;> cases v <;> decide
  | .list ps => by
    have := pds_depth ps
    simp only [pd, PyData.depth, PyData.depthAll, deep]
    omega
  | .tup ps => by
    have := pds_depth ps
    simp only [pd, PyData.depth, PyData.depthAll, deep]
    omega
theorem pds_depth : ∀ ps : List Plan, PyData.depthAll (pds ps) ≤ 2 * deeps ps + 3
  | [] => by simp [pds, PyData.depthAll]
  | p :: ps => by
    have h1 := pd_depth p
    have h2 := pds_depth ps
    simp only [pds, PyData.depthAll, deeps]
    omega
end

theorem kind_ne (p q : Plan) : ((kindOf p).cps.toList != (kindOf q).cps.toList) = (p.fam != q.fam) := by cases p <;> cases q <;> rfl

theorem cmpL_end {ps qs : List Plan} {i : Nat} (hi : i = min ps.length qs.length) (h : cmpL ps qs = cmpL (ps.drop i) (qs.drop i)) : cmpL ps qs = some (sgn ((ps.length : Int) - qs.length)) := by
  rw [h]
  rcases Nat.le_total ps.length qs.length with hle | hle
  · have e : ps.drop i = [] := List.drop_eq_nil_of_le (by omega)
    rw [e, cmpL, List.length_drop]
    congr 2; omega
  · by_cases he : ps.length = qs.length
    · have e : ps.drop i = [] := List.drop_eq_nil_of_le (by omega)
      rw [e, cmpL, List.length_drop]
      congr 2; omega
    · have e : qs.drop i = [] := List.drop_eq_nil_of_le (by omega)
      have hlen : (ps.drop i).length = ps.length - i := List.length_drop
      cases hd : ps.drop i with
      | nil => rw [hd] at hlen; simp at hlen; omega
      | cons x xs =>
        rw [e, cmpL, ← hd, hlen]
        congr 2; omega
theorem cmpL_step {ps qs : List Plan} {i : Nat} {x y : Plan} (hx : ps[i]? = some x) (hy : qs[i]? = some y) (h : cmpL ps qs = cmpL (ps.drop i) (qs.drop i)) :
    cmpL ps qs = if peq x y then cmpL (ps.drop (i + 1)) (qs.drop (i + 1)) else cmpP x y := by
  have e1 : ps.drop i = x :: ps.drop (i + 1) := by
    obtain ⟨hlt, e⟩ := List.getElem?_eq_some_iff.mp hx
    rw [List.drop_eq_getElem_cons hlt, e]
  have e2 : qs.drop i = y :: qs.drop (i + 1) := by
    obtain ⟨hlt, e⟩ := List.getElem?_eq_some_iff.mp hy
    rw [List.drop_eq_getElem_cons hlt, e]
  rw [h, e1, e2, cmpL]
theorem cmpT_end {ps qs : List Nat} {i : Nat} (hi : i = min ps.length qs.length) (h : cmpText ps qs = cmpText (ps.drop i) (qs.drop i)) : cmpText ps qs = sgn ((ps.length : Int) - qs.length) := by
  rw [h]
  rcases Nat.le_total ps.length qs.length with hle | hle
  · have e : ps.drop i = [] := List.drop_eq_nil_of_le (by omega)
    have e2 : ∀ l : List Nat, cmpText [] l = sgn (0 - (l.length : Int)) := fun l => by cases l <;> rfl
    rw [e, e2, List.length_drop]
    congr 1; omega
  · have e : qs.drop i = [] := List.drop_eq_nil_of_le (by omega)
    have e2 : ∀ l : List Nat, cmpText l [] = sgn (l.length : Int) := fun l => by cases l <;> (unfold cmpText; simp)
    rw [e, e2, List.length_drop]
    congr 1; omega
theorem cmpT_step {ps qs : List Nat} {i : Nat} {x y : Nat} (hx : ps[i]? = some x) (hy : qs[i]? = some y) (h : cmpText ps qs = cmpText (ps.drop i) (qs.drop i)) :
    cmpText ps qs = if x = y then cmpText (ps.drop (i + 1)) (qs.drop (i + 1)) else sgn ((x : Int) - y) := by
  have e1 : ps.drop i = x :: ps.drop (i + 1) := by
    obtain ⟨hlt, e⟩ := List.getElem?_eq_some_iff.mp hx
    rw [List.drop_eq_getElem_cons hlt, e]
  have e2 : qs.drop i = y :: qs.drop (i + 1) := by
    obtain ⟨hlt, e⟩ := List.getElem?_eq_some_iff.mp hy
    rw [List.drop_eq_getElem_cons hlt, e]
  rw [h, e1, e2, cmpText]

section
variable {prog : Program} {w : World} {A : Around} {E : Value → Shared → Prop} {s : Shared} {env : Env} {sc : Scope} {m cm : Str → Option Value} {Q : Value → Shared → Prop}
theorem ne_plan {bad bad' : Addr} {v u : Value} {p q : Plan} (hp : PAt s.heap bad v p) (hq : PAt s.heap bad' u q) (hu : A.units + 2 * deep p + 3 < cLine) (h : Q (.bool (!peq p q)) s) : wpAny (model prog w) A (compareOp .NotEq v u) Q E s := by
  obtain ⟨_, r1⟩ := hp.reads
  obtain ⟨_, r2⟩ := hq.reads
  refine SeqAt.compareNe_reads r1 r2 (pd_lay p) (pd_lay q) ?_ (by rw [eqv_pd]; exact h)
  have := pd_depth p
  have := Nat.min_le_left (pd p).depth (pd q).depth
  omega
theorem ne_empty {D D' : Addr} {vs : List Value} {ns : List Int} (hl : s.heap.IsList D vs.toArray) (hi : IntsAre vs ns) (hl' : s.heap.IsList D' #[]) (hu : A.units + 1 < cLine) (h : Q (.bool (!ns.isEmpty)) s) : wpAny (model prog w) A (compareOp .NotEq (.ref D) (.ref D')) Q E s := by
  obtain ⟨_, r1⟩ := readsAll_ints (h := s.heap) hi
  obtain ⟨_, r2⟩ := reads_list hl r1
  obtain ⟨_, r3⟩ := reads_list (vs := []) hl' (.nil)
  refine SeqAt.compareNe_reads r2 r3 (by simp only [PyData.canLay0]; exact lay_ints ns) rfl ?_ ?_
  · have e : (PyData.list []).depth = 1 := rfl
    have := Nat.min_le_right (PyData.list (ns.map PyData.int)).depth (PyData.list []).depth
    omega
  · have e : PyData.eqv (.list (ns.map PyData.int)) (.list []) = ns.isEmpty := by cases ns <;> rfl
    rw [e]; exact h

theorem cell_item0 {x : Str} {p p' pos : Pos} {i : Nat} {c a : Addr} {v0 v1 : Value} (X : Rd env m cm s.heap) (hE : EnvOk env sc) (hc : env.cells.lookup x = some c) (hv : cm x = some (.ref a)) (hl : s.heap.IsList a #[v0, v1]) (h : Q v0 { s with toks := s.toks + 1 })
    (hk : sc.kind = .function := by rfl) (hl' : sc.names.lookup x = some .cell := by rfl) (hd : (x == ("__debug__" : Str)) = false := by decide) : wpAny (model prog w) A (eval (.Subscript (.Name x p) (.Constant (.int 0) i p') pos) env) Q E s :=
  sub_item (ev_cell X hE hc hv (wpAny_Constant_int ⟨_, _, _, _, _, rfl, rfl, hl, item0, h⟩) hk hl' hd)
theorem cell_item1 {x : Str} {p p' pos : Pos} {i : Nat} {c a : Addr} {v0 v1 : Value} (X : Rd env m cm s.heap) (hE : EnvOk env sc) (hc : env.cells.lookup x = some c) (hv : cm x = some (.ref a)) (hl : s.heap.IsList a #[v0, v1]) (h : Q v1 { s with toks := s.toks + 1 })
    (hk : sc.kind = .function := by rfl) (hl' : sc.names.lookup x = some .cell := by rfl) (hd : (x == ("__debug__" : Str)) = false := by decide) : wpAny (model prog w) A (eval (.Subscript (.Name x p) (.Constant (.int 1) i p') pos) env) Q E s :=
  sub_item (ev_cell X hE hc hv (wpAny_Constant_int ⟨_, _, _, _, _, rfl, rfl, hl, item1, h⟩) hk hl' hd)
theorem call_len {l : Addr} {items : Array Value} (hl : s.heap.IsList l items) (hsz : items.size ≤ 4000) (h : ∀ t s', Keeps s s' → Q (.int items.size t) s') : wpAny (model prog w) A (call (.builtin "len") [.ref l]) Q E s :=
  PyProof.Rows.len_list hl (by omega) (h _ _ (Keeps.tok _ _))
theorem call_range {n : Nat} {t : Tok} (h : ∀ r s' t u v, Keeps s s' → s.heap.objs.size ≤ r → IsRange s'.heap r 0 n 1 t u v → Q (.ref r) s') : wpAny (model prog w) A (call (.type "range") [.int n t]) Q E s :=
  call_range_1 (h _ _ _ _ _ ⟨_, _, rfl, fun _ _ e => Heap.get?_push_of_some _ e⟩ (Nat.le_refl _) (IsRange.new ..))
end
theorem g_range (w : World) : nsIn (KF w) mainGlobals "range" = some none := by kernel_rfl
theorem b_range : bootBuiltins "range" = some (.type "range") := by kernel_rfl
theorem g_min (w : World) : nsIn (KF w) mainGlobals "min" = some none := by kernel_rfl
theorem b_min : bootBuiltins "min" = some (.builtin "min") := by kernel_rfl
theorem g_order (w : World) : nsIn (KF w) mainGlobals "_law_order" = some (some (.ref 55)) := by kernel_rfl

def ordV (c : Option Int) (r : Value) : Prop := match c with
  | some c => ∃ t, r = .int c t
  | none => ∃ t, r = .str "refused" t
end Mine

namespace Mine
open PySem.Calls

section
variable {prog : Program} {w : World} {A : Around} {E : Value → Shared → Prop} {s s₀ : Shared} {env : Env} {sc : Scope} {m cm : Str → Option Value}
theorem tok_gen {α : Type} {x : Sem α} {Q : α → Shared → Prop} {t : Nat} (h : ∀ s', Keeps s s' → wpAny (model prog w) A x Q E s') : wpAny (model prog w) A x Q E { s with toks := t } := h _ (Keeps.tok _ _)
theorem if_head {x k : Str} {y : Str} {t : Tok} {b : Bool} {i i0 : Nat} {c a : Addr} {v1 : Value} {p0 p1 p2 p3 p4 pos : Pos} {body rest : List Stmt} {Q : Flow → Shared → Prop}
    (X : Rd env m cm s.heap) (hE : EnvOk env sc) (hc : env.cells.lookup x = some c) (hv : cm x = some (.ref a)) (hl : s.heap.IsList a #[.str y t, v1]) (hb : (y == k) = b)
    (h : ∀ s', Keeps s s' → if b then wpAny (model prog w) A (execs body env) (fun f s' => match f with | .next => wpAny (model prog w) A (execs rest env) Q E s' | f => Q f s') E s' else wpAny (model prog w) A (execs rest env) Q E s')
    (hk : sc.kind = .function := by rfl) (hl' : sc.names.lookup x = some .cell := by rfl) (hd : (x == ("__debug__" : Str)) = false := by decide) :
    wpAny (model prog w) A (execs (.If (.Compare (.Subscript (.Name x p1) (.Constant (.int 0) i0 p0) p4) [.Eq] [.Constant (.str k) i p2] p3) body [] pos :: rest) env) Q E s := by
  refine wpAny_execs_cons (wpAny_If (wpAny_isTrue_Compare1 (cell_item0 X hE hc hv hl (Constant_str (PyProof.Rows.eq_str (wpAny_truthy_bool ?_))) hk hl' hd)))
  rw [hb]
  have := h _ (Keeps.tok s (s.toks + 1 + 1))
  cases b with
  | true => exact this
  | false => exact wpAny_execs_nil this
theorem Inn.but {s' : Shared} {m' : Str → Option Value} (F : Inn s₀ env m cm s) (hn : s'.heap.Ns env.locals m') (b : ∃ h' tk, s' = { s with heap := h', toks := tk } ∧ ∀ b o, b ≠ env.locals → s.heap.get? b = some o → h'.get? b = some o) : Inn s₀ env m' cm s' := by
  have X := (F.rd_but hn b).cell
  obtain ⟨h', tk', rfl, hk'⟩ := b
  refine ⟨⟨?_, hn, fun b o e => hk' b o (Nat.ne_of_lt (Nat.lt_of_lt_of_le (Heap.lt_size e) F.toInCall.fresh)) (F.toInCall.keep b o e), F.toInCall.fresh⟩, X, F.apart, F.above⟩
  obtain ⟨h, tk, rfl⟩ := F.toInCall.same
  exact ⟨h', tk', rfl⟩
theorem Inn.plain_but {s' : Shared} {a : Addr} {vs : Array Value} (F : Inn s₀ env m cm s) (b : ∃ h' tk, s' = { s with heap := h', toks := tk } ∧ ∀ b o, b ≠ env.locals → s.heap.get? b = some o → h'.get? b = some o) (l : s.heap.PlainList a vs) : s'.heap.PlainList a vs := by
  obtain ⟨h', tk', rfl, hk'⟩ := b
  obtain ⟨n, ho⟩ := l
  exact ⟨n, hk' _ _ (F.notSeq ho ⟨_, _, rfl⟩).1 ho⟩
end

def notInV (ls : List Int) : Value → Bool
  | .int k _ => !decide (k ∈ ls)
  | _ => false
def isK (k : Int) : Value → Bool
  | .int j _ => j == k
  | _ => false
theorem any_ints (k : Int) : ∀ {us : List Value} {ls : List Int}, IntsAre us ls → us.any (isK k) = decide (k ∈ ls)
  | _, _, .nil => rfl
  | _, _, .cons n t r => by
    rw [List.any_cons, any_ints k r]
    show (n == k || _) = _
    rw [Bool.eq_iff_iff, Bool.or_eq_true, beq_iff_eq, decide_eq_true_iff, decide_eq_true_iff, List.mem_cons]
    constructor
    · rintro (h | h)
      · exact .inl h.symm
      · exact .inr h
    · rintro (h | h)
      · exact .inl h.symm
      · exact .inr h
theorem filter_ints (ls : List Int) : ∀ {vs : List Value} {ks : List Int}, IntsAre vs ks → IntsAre (vs.filter (notInV ls)) (ks.filter fun k => !decide (k ∈ ls))
  | _, _, .nil => .nil
  | _, _, .cons n t r => by
    rw [List.filter_cons, List.filter_cons]
    show IntsAre (if (!decide (n ∈ ls)) = true then _ else _) _
    split
    · exact .cons _ _ (filter_ints ls r)
    · exact filter_ints ls r
theorem outs_filter {vs : List Value} {pass : Value → Bool} {vs' : List (Nat × Value)} {ys : List Value} (hlen : vs'.length = vs.toArray.size) (hP : ∀ (j : Nat) (q : Nat × Value), vs'[j]? = some q → q.1 = j ∧ vs.toArray[j]? = some q.2) (hF : Paired (Fi fun _ v y => y = v) (vs'.filter (pi fun _ v => pass v)) ys) : ys = vs.filter pass := by
  have e1 : vs'.map (·.2) = vs := by
    refine List.ext_getElem? fun j => ?_
    rw [List.getElem?_map]
    cases hj : vs'[j]? with
    | none =>
      have : vs.length ≤ j := by have := List.getElem?_eq_none_iff.mp hj; rw [hlen, List.size_toArray] at this; exact this
      rw [List.getElem?_eq_none this]; rfl
    | some q => have := (hP j q hj).2; simp at this; rw [this]; rfl
  have e2 : ∀ {l : List (Nat × Value)} {ys : List Value}, Paired (Fi fun _ v y => y = v) l ys → ys = l.map (·.2) := by
    intro l
    induction l with
    | nil => intro ys h; cases h; rfl
    | cons q l ih =>
      intro ys h
      cases h with
      | cons h1 h2 => rw [List.map_cons, ← ih h2]; congr 1
  rw [e2 hF, ← e1, List.filter_map]; rfl
theorem take1_len {α : Type} (l : List α) : (l.take 1).length = if l.isEmpty then 0 else 1 := by cases l <;> simp
theorem isEmpty_filter {α : Type} (p : α → Bool) (l : List α) : (l.filter p).isEmpty = !l.any p := by
  induction l with
  | nil => rfl
  | cons x l ih => rw [List.filter_cons, List.any_cons]; cases p x <;> simp [ih]

set_option maxHeartbeats 4000000 in
theorem order_call {prog : Program} {w : World} : ∀ (n : Nat) (p q : Plan), sizeOf p < n → ∀ {A : Around} {E : Value → Shared → Prop} {s : Shared} {Q : Value → Shared → Prop} {bad : Addr} {v u : Value}, Amb w s.heap → PAt s.heap bad v p → PAt s.heap bad u q → A.handled = none →
    A.depth + deep p + 1 < recursionLimit → A.units + 5 * deep p + 10 < cLine → wt p ≤ 1000 → wt q ≤ 1000 → (∀ r s', Keeps s s' → ordV (cmpP p q) r → Q r s') → wpAny (model prog w) A (call (.ref 55) [v, u]) Q E s := by
  intro n
  induction n with
  | zero => intro p q h; exact absurd h (Nat.not_lt_zero _)
  | succ n ih =>
    intro p q hn A E s Q bad v u am hp hq hh hd hu hwp hwq h
    refine call_fn2 (n := "one") (n' := "two") am rfl rfl rfl rfl rfl ⟨_, _, rfl, rfl⟩ rfl (by decide) (.inr ⟨rfl, rfl⟩) (.inr ⟨rfl, rfl⟩) (by omega) ?_
    intro env s₁ m cm hE hcl hL F hb hb'
    have hv1 := hb.cel rfl
    have hv2 := hb'.cel rfl
    have hc1 : env.cells.lookup (Str.ofString "one") = some (s.heap.objs.size + 1) := by rw [hcl]; rfl
    have hc2 : env.cells.lookup (Str.ofString "two") = some (s.heap.objs.size + 1 + 1) := by rw [hcl]; rfl
    clear hb hb'
    obtain ⟨a, t, c, rfl, _, hl, hc⟩ := hp.shape
    obtain ⟨a', t', c', rfl, _, hl', hc'⟩ := hq.shape
    have l1 : ∀ {s' : Shared} {m' : Str → Option Value}, Inn s env m' cm s' → s'.heap.IsList a #[.str (kindOf p) t, c] := fun F' => IsList.keep hl fun o ho => Keeps.keep F'.done _ o ho
    have l2 : ∀ {s' : Shared} {m' : Str → Option Value}, Inn s env m' cm s' → s'.heap.IsList a' #[.str (kindOf q) t', c'] := fun F' => IsList.keep hl' fun o ho => Keeps.keep F'.done _ o ho
    have amF : ∀ {s' : Shared} {m' : Str → Option Value}, Inn s env m' cm s' → Amb w s'.heap := fun F' => am.keep (Keeps.keep F'.done)
    refine wpAny_execs_cons (wpAny_If (isTrue_or (wpAny_isTrue_Compare1 (cell_item0 F.rd hE hc1 hv1 (l1 F) (cell_item0 (F.tok _).rd hE hc2 hv2 (l2 (F.tok _)) (P.ne_str (wpAny_truthy_bool ?_)))))))
    rw [kind_ne]
    by_cases hf : p.fam = q.fam
    case neg =>
      rw [if_pos (by simpa using hf), if_pos rfl]
      exact wpAny_execs_cons (wpAny_Return_some (Constant_str (h _ _ ((F.tok _).done) (by rw [cmpP_fam p q (.inl hf)]; exact ⟨_, rfl⟩))))
    rw [if_neg (by simpa using hf)]
    refine isTrue_or (wpAny_isTrue_Compare1 (cell_item0 (F.tok _).rd hE hc1 hv1 (l1 (F.tok _)) (Constant_str (PyProof.Rows.eq_str (wpAny_truthy_bool ?_)))))
    rw [k_none]
    by_cases hf3 : is_none p = true
    case pos =>
      rw [if_pos hf3, if_pos rfl]
      refine wpAny_execs_cons (wpAny_Return_some (Constant_str (h _ _ ((F.tok _).done) ?_)))
      have e3 : p.fam = 3 := by cases p <;> first | rfl | cases hf3
      rw [cmpP_fam p q (.inr (.inl e3))]; exact ⟨_, rfl⟩
    rw [if_neg hf3]
    refine isTrue_or (wpAny_isTrue_Compare1 (cell_item0 (F.tok _).rd hE hc1 hv1 (l1 (F.tok _)) (Constant_str (PyProof.Rows.eq_str (wpAny_truthy_bool ?_)))))
    rw [k_table]
    by_cases hf4 : is_table p = true
    case pos =>
      rw [if_pos hf4, if_pos rfl]
      refine wpAny_execs_cons (wpAny_Return_some (Constant_str (h _ _ ((F.tok _).done) ?_)))
      have e4 : p.fam = 4 := by cases p <;> first | rfl | cases hf4
      rw [cmpP_fam p q (.inr (.inr e4))]; exact ⟨_, rfl⟩
    rw [if_neg hf4]
    refine isTrue_or_nil ?_
    rw [if_neg (by decide)]
    refine wpAny_execs_nil ?_
    refine tok_gen (s := s₁) fun s₂ hk₂ => ?_
    have F₂ := F.kept hk₂
    clear F hk₂
    refine if_head F₂.rd hE hc1 hv1 (l1 F₂) (k_num p) fun s₃ hk₃ => ?_
    have F₃ := F₂.kept hk₃
    clear F₂ hk₃
    cases p
    case none => exact absurd rfl hf3
    case table => exact absurd rfl hf4
    case num k =>
      obtain ⟨k', rfl⟩ : ∃ k', q = .num k' := by cases q <;> first | exact ⟨_, rfl⟩ | (simp [Plan.fam] at hf)
      obtain ⟨t1, rfl⟩ := hc
      obtain ⟨t2, rfl⟩ := hc'
      rw [if_pos (by simp [is_num])]
      refine wpAny_execs_cons (wpAny_Return_some (ev_call1 (amF F₃) hE (g_sign w) rfl rfl (wpAny_BinOp (cell_item1 F₃.rd hE hc1 hv1 (l1 F₃) (cell_item1 (F₃.tok _).rd hE hc2 hv2 (l2 (F₃.tok _)) (P.sub_int ⟨amF (F₃.tok _), ?_⟩))))))
      exact sign_call (amF (F₃.tok _)) (by show A.depth + 1 < _; omega) fun t3 s' hk => h _ _ (Keeps.trans (F₃.tok _).done hk) ⟨_, rfl⟩
    all_goals rw [if_neg (by simp [is_num])]
    all_goals refine if_head F₃.rd hE hc1 hv1 (l1 F₃) (k_set _) fun s₄ hk₄ => ?_
    all_goals have F₄ := F₃.kept hk₄
    all_goals clear F₃ hk₄
    case set x1 x2 x3 x4 =>
      obtain ⟨y1, y2, y3, y4, rfl⟩ : ∃ y1 y2 y3 y4, q = .set y1 y2 y3 y4 := by cases q <;> first | exact ⟨_, _, _, _, rfl⟩ | (simp [Plan.fam] at hf)
      obtain ⟨b, vs, rfl, _, hlb, hi⟩ := hc
      obtain ⟨b', us, rfl, _, hlb', hi'⟩ := hc'
      have lb1 : ∀ {s' : Shared} {m' : Str → Option Value}, Inn s env m' cm s' → s'.heap.IsList b vs.toArray := fun F' => IsList.keep hlb fun o ho => Keeps.keep F'.done _ o ho
      have lb2 : ∀ {s' : Shared} {m' : Str → Option Value}, Inn s env m' cm s' → s'.heap.IsList b' us.toArray := fun F' => IsList.keep hlb' fun o ho => Keeps.keep F'.done _ o ho
      rw [if_pos (by simp [is_set])]
      refine wpAny_execs_cons (comp_assign (clos_of hcl fun _ => rfl) (by decide) rfl (by decide) ?_ (by rw [Env.kindOf, hE.sc]; rfl) (by rw [hE.sc]; rfl) (cell_item1 F₄.rd hE hc1 hv1 (l1 F₄) ?_))
      · simp only [swapsWith, Env.blockKind, Env.kindOf, hE.sc]; rfl
      refine ⟨_, _, fun v mm => mm "n" = some v, fun _ v => notInV (setKs y1 y2 y3 y4) v, fun _ _ _ v y => y = v, _, ?_, F₄.toInCall.ns, itb_list (A := A.deeper env) hh (lb1 (F₄.tok _)), ?_, ?_⟩
      · rw [List.size_toArray, hi.length]; exact sz4 (Nat.le_trans (setKs_len _ _ _ _) (by decide))
      · refine ⟨fun I v s₃ E' Q' _ hq => lets_name hq, fun C i v s₃ m₃ E' Q' _ hn₃ _ hq => bind_name hn₃ hq rfl rfl, fun C i v s₃ m₃ E' hP hn₃ hb₃ hk₃ => ?_, fun lo C i v s₃ m₃ E' hP _ hn₃ hb₃ hk₃ _ hlo => ?_, fun lo h h' i v y hF _ => hF⟩
        · have X : ∀ sc', Rd (compEnvC sc' [(Str.ofString "two", s.heap.objs.size + 1 + 1)] C env) m₃ cm s₃.heap := fun sc' => comp_rd F₄.rd (Keeps.keep hk₃) hn₃ (fun n c e => by obtain ⟨rfl, rfl⟩ := look_one e; exact hc2)
          have F3 := (F₄.tok _).kept hk₃
          obtain ⟨k, tk, _, rfl⟩ := ints_get hi i v (by simpa using hP)
          refine wpAny_tests_one (wpAny_isTrue_Compare1 (ev_local (X _) (comp_okc hE) hb₃ (cell_item1 (X _) (comp_okc hE) rfl hv2 (l2 F3) (SeqAt.notIn_listAt (isK k) (lb2 (F3.tok _)) (fun y hy => ?_) (wpAny_truthy_bool ⟨?_, Keeps.tok _ _⟩)))))
          · obtain ⟨j, hj⟩ := List.getElem?_of_mem (Array.mem_def.mp hy)
            obtain ⟨k', tk', _, rfl⟩ := ints_get hi' j y (by simpa using hj)
            exact SeqAt.EqAt.int_int k' tk' k tk
          · show _ = !decide (k ∈ (setKs y1 y2 y3 y4))
            rw [← any_ints k hi']
            simp
        · have X : ∀ sc', Rd (compEnvC sc' [(Str.ofString "two", s.heap.objs.size + 1 + 1)] C env) m₃ cm s₃.heap := fun sc' => comp_rd F₄.rd (Keeps.keep hk₃) hn₃ (fun n c e => by obtain ⟨rfl, rfl⟩ := look_one e; exact hc2)
          exact ev_local (X _) (comp_okc hE) hb₃ ⟨rfl, Keeps.refl _⟩
      intro D loD sD ys vsD hDD hDloD hkD hnsD hplD hlenD hPD hFD
      have hysD := outs_filter hlenD hPD hFD
      have hinD := filter_ints (setKs y1 y2 y3 y4) hi
      rw [← hysD] at hinD
      have F₅ : Inn s env _ cm sD := (F₄.tok _).but hnsD hkD
      refine wpAny_execs_cons (comp_assign (clos_of hcl fun _ => rfl) (by decide) rfl (by decide) ?_ (by rw [Env.kindOf, hE.sc]; rfl) (by rw [hE.sc]; rfl) (cell_item1 F₅.rd hE hc2 hv2 (l2 F₅) ?_))
      · simp only [swapsWith, Env.blockKind, Env.kindOf, hE.sc]; rfl
      refine ⟨_, _, fun v mm => mm "n" = some v, fun _ v => notInV (setKs x1 x2 x3 x4) v, fun _ _ _ v y => y = v, _, ?_, F₅.toInCall.ns, itb_list (A := A.deeper env) hh (lb2 (F₅.tok _)), ?_, ?_⟩
      · rw [List.size_toArray, hi'.length]; exact sz4 (Nat.le_trans (setKs_len _ _ _ _) (by decide))
      · refine ⟨fun I v s₃ E' Q' _ hq => lets_name hq, fun C i v s₃ m₃ E' Q' _ hn₃ _ hq => bind_name hn₃ hq rfl rfl, fun C i v s₃ m₃ E' hP hn₃ hb₃ hk₃ => ?_, fun lo C i v s₃ m₃ E' hP _ hn₃ hb₃ hk₃ _ hlo => ?_, fun lo h h' i v y hF _ => hF⟩
        · have X : ∀ sc', Rd (compEnvC sc' [(Str.ofString "one", s.heap.objs.size + 1)] C env) m₃ cm s₃.heap := fun sc' => comp_rd F₅.rd (Keeps.keep hk₃) hn₃ (fun n c e => by obtain ⟨rfl, rfl⟩ := look_one e; exact hc1)
          have F3 := (F₅.tok _).kept hk₃
          obtain ⟨k, tk, _, rfl⟩ := ints_get hi' i v (by simpa using hP)
          refine wpAny_tests_one (wpAny_isTrue_Compare1 (ev_local (X _) (comp_okc hE) hb₃ (cell_item1 (X _) (comp_okc hE) rfl hv1 (l1 F3) (SeqAt.notIn_listAt (isK k) (lb1 (F3.tok _)) (fun y hy => ?_) (wpAny_truthy_bool ⟨?_, Keeps.tok _ _⟩)))))
          · obtain ⟨j, hj⟩ := List.getElem?_of_mem (Array.mem_def.mp hy)
            obtain ⟨k', tk', _, rfl⟩ := ints_get hi j y (by simpa using hj)
            exact SeqAt.EqAt.int_int k' tk' k tk
          · show _ = !decide (k ∈ (setKs x1 x2 x3 x4))
            rw [← any_ints k hi]
            simp
        · have X : ∀ sc', Rd (compEnvC sc' [(Str.ofString "one", s.heap.objs.size + 1)] C env) m₃ cm s₃.heap := fun sc' => comp_rd F₅.rd (Keeps.keep hk₃) hn₃ (fun n c e => by obtain ⟨rfl, rfl⟩ := look_one e; exact hc1)
          exact ev_local (X _) (comp_okc hE) hb₃ ⟨rfl, Keeps.refl _⟩
      intro D' loD' sD' zs vsD' hDD' hDloD' hkD' hnsD' hplD' hlenD' hPD' hFD'
      have hysD' := outs_filter hlenD' hPD' hFD'
      have hinD' := filter_ints (setKs x1 x2 x3 x4) hi'
      rw [← hysD'] at hinD'
      have F₆ : Inn s env _ cm sD' := (F₅.tok _).but hnsD' hkD'
      have hplD2 : sD'.heap.PlainList D ys.toList.toArray := by simpa using (F₅.tok _).plain_but hkD' hplD
      have hplD3 : sD'.heap.PlainList D' zs.toList.toArray := by simpa using hplD'
      obtain ⟨m6, hm6o, hm6s, F₆⟩ : ∃ m6 : Str → Option Value, m6 "over" = some (.ref D) ∧ m6 "short" = some (.ref D') ∧ Inn s env m6 cm sD' := ⟨_, by
        show (if _ then _ else (if _ then _ else _)) = _
        rw [if_neg (by decide), if_pos rfl], by
        show (if _ then _ else _) = _
        rw [if_pos rfl], F₆⟩
      have hres : ∀ c, c = cmpSet (setKs x1 x2 x3 x4) (setKs y1 y2 y3 y4) → ∀ t, ordV (cmpP (Plan.set x1 x2 x3 x4) (Plan.set y1 y2 y3 y4)) (.int c t) := fun c hc t => ⟨t, by rw [hc]⟩
      have hyl : ys.toList.length ≤ 4 := by rw [hysD]; exact Nat.le_trans (List.length_filter_le _ _) (by rw [hi.length]; exact setKs_len _ _ _ _)
      have hzl : zs.toList.length ≤ 4 := by rw [hysD']; exact Nat.le_trans (List.length_filter_le _ _) (by rw [hi'.length]; exact setKs_len _ _ _ _)
      have hye : ys.toList.isEmpty = ((setKs x1 x2 x3 x4).filter fun k => !decide (k ∈ setKs y1 y2 y3 y4)).isEmpty := by
        rw [Bool.eq_iff_iff, List.isEmpty_iff_length_eq_zero, List.isEmpty_iff_length_eq_zero, hinD.length]
      have hze : zs.toList.isEmpty = ((setKs y1 y2 y3 y4).filter fun k => !decide (k ∈ setKs x1 x2 x3 x4)).isEmpty := by
        rw [Bool.eq_iff_iff, List.isEmpty_iff_length_eq_zero, List.isEmpty_iff_length_eq_zero, hinD'.length]
      clear hysD hysD' hFD hFD' hPD hPD' F₅ hkD hkD' hplD hplD' hnsD hnsD'
      unfold cmpSet at hres
      rw [isEmpty_filter] at hye hze
      have ho1 := isEmpty_filter (fun k => !decide (k ∈ setKs y1 y2 y3 y4)) (setKs x1 x2 x3 x4)
      have ho2 := isEmpty_filter (fun k => !decide (k ∈ setKs x1 x2 x3 x4)) (setKs y1 y2 y3 y4)
      generalize ((setKs x1 x2 x3 x4).any fun k => !decide (k ∈ setKs y1 y2 y3 y4)) = o at *
      generalize ((setKs y1 y2 y3 y4).any fun k => !decide (k ∈ setKs x1 x2 x3 x4)) = sh at *
      have hu3 : (A.deeper env).units + 1 < cLine := by show A.units + 3 + 1 < _; omega
      refine wpAny_execs_cons (wpAny_If (wpAny_mono (Q := fun c s7 => c = (o && sh) ∧ Keeps sD' s7) ?_ (fun c s7 h7 => ?_) fun _ _ e => e))
      · refine isTrue_and (wpAny_isTrue_Compare1 (ev_local F₆.rd hE hm6o (List_ (args_nil (new_list (fun aE sE hkE haE hplE => ?_) (sz4 (by simp)))))))
        refine ne_empty (A := A.deeper env) (IsList.keep hplD2.isList fun o e => Keeps.keep hkE _ o e) hinD hplE.isList hu3 (wpAny_truthy_bool ?_)
        rw [ho1, Bool.not_not]
        cases o with
        | false => exact ⟨rfl, hkE⟩
        | true =>
          rw [if_pos rfl]
          have FE := F₆.kept hkE
          refine isTrue_and (wpAny_isTrue_Compare1 (ev_local FE.rd hE hm6s (List_ (args_nil (new_list (fun aG sG hkG haG hplG => ?_) (sz4 (by simp)))))))
          refine ne_empty (A := A.deeper env) (IsList.keep hplD3.isList fun o e => Keeps.keep (Keeps.trans hkE hkG) _ o e) hinD' hplG.isList hu3 (wpAny_truthy_bool ?_)
          rw [ho2, Bool.not_not]
          cases sh with
          | false => exact ⟨rfl, Keeps.trans hkE hkG⟩
          | true =>
            rw [if_pos rfl]
            exact isTrue_and_nil ⟨rfl, Keeps.trans hkE hkG⟩
      · obtain ⟨rfl, hk7⟩ := h7
        have F₇ := F₆.kept hk7
        have hpo7 := hplD2.at fun o e => Keeps.keep hk7 _ o e
        cases hos : (o && sh) with
        | true =>
          rw [if_pos rfl]
          refine wpAny_execs_cons (wpAny_Return_some (wpAny_Constant_int (h _ _ (F₇.tok _).done (hres _ ?_ _))))
          rw [if_pos hos]
        | false =>
          rw [if_neg (by decide)]
          have e1 : ∀ ws : List Value, slicePick ws.toArray none (some 1) none = (ws.take 1).toArray := fun ws => slicePick_upto' ws.toArray 1
          refine wpAny_execs_nil (wpAny_execs_cons (wpAny_Return_some (wpAny_BinOp (ev_bi1 (amF F₇) hE (g_len w) b_len (sub_slice (ev_local F₇.rd hE hm6o (evalPart_none_step (evalPart_some_step (wpAny_Constant_int ?_)))))))))
          refine ⟨_, _, none, some 1, rfl, hpo7.isList, by rw [List.size_toArray]; exact sz4 (by omega), .none, .int _ _, fun a8 s8 hk8 ha8 hpl8 => ?_⟩
          rw [e1] at hpl8
          refine call_len hpl8.isList (by rw [List.size_toArray, List.length_take]; omega) fun t9 s9 hk9 => ?_
          have hk79 := Keeps.trans (Keeps.tok s7 _) (Keeps.trans hk8 hk9)
          have F₉ := F₇.kept hk79
          have hps9 := hplD3.at fun o e => Keeps.keep (Keeps.trans hk7 hk79) _ o e
          refine ev_bi1 (amF F₉) hE (g_len w) b_len (sub_slice (ev_local F₉.rd hE hm6s (evalPart_none_step (evalPart_some_step (wpAny_Constant_int ?_)))))
          refine ⟨_, _, none, some 1, rfl, hps9.isList, by rw [List.size_toArray]; exact sz4 (by omega), .none, .int _ _, fun aA sA hkA haA hplA => ?_⟩
          rw [e1] at hplA
          refine call_len hplA.isList (by rw [List.size_toArray, List.length_take]; omega) fun tB sB hkB => P.sub_int ?_
          refine h _ _ ((F₉.kept (Keeps.trans (Keeps.tok s9 _) (Keeps.trans hkA hkB))).tok _).done (hres _ ?_ _)
          rw [List.size_toArray, List.size_toArray, take1_len, take1_len, hye, hze]
          cases o <;> cases sh <;> first | rfl | cases hos
    case text ps =>
      obtain ⟨qs, rfl⟩ : ∃ qs, q = .text qs := by cases q <;> first | exact ⟨_, rfl⟩ | (simp [Plan.fam] at hf)
      obtain ⟨b, vs, rfl, _, hlb, hi, hok⟩ := hc
      obtain ⟨b', us, rfl, _, hlb', hi', hok'⟩ := hc'
      have hlv : vs.length = ps.length := by rw [hi.length, List.length_map]
      have hlu : us.length = qs.length := by rw [hi'.length, List.length_map]
      have hp4 : ps.length ≤ 4000 := Nat.le_trans hok.1 (by decide)
      have hq4 : qs.length ≤ 4000 := Nat.le_trans hok'.1 (by decide)
      have lb1 : ∀ {s' : Shared} {m' : Str → Option Value}, Inn s env m' cm s' → s'.heap.IsList b vs.toArray := fun F' => IsList.keep hlb fun o ho => Keeps.keep F'.done _ o ho
      have lb2 : ∀ {s' : Shared} {m' : Str → Option Value}, Inn s env m' cm s' → s'.heap.IsList b' us.toArray := fun F' => IsList.keep hlb' fun o ho => Keeps.keep F'.done _ o ho
      rw [if_neg (by simp [is_set])]
      have hvz : vs.toArray.size ≤ 4000 := by rw [List.size_toArray, hlv]; exact hp4
      have huz : us.toArray.size ≤ 4000 := by rw [List.size_toArray, hlu]; exact hq4
      refine wpAny_execs_cons (for_each (s₀ := s) hE (ev_ty1 (amF F₄) hE (g_range w) b_range (ev_bi2 (amF F₄) hE (g_min w) b_min (ev_bi1 (amF F₄) hE (g_len w) b_len (cell_item1 F₄.rd hE hc1 hv1 (l1 F₄) (call_len (lb1 (F₄.tok _)) hvz fun t5 s5 hk5 => ?_))))))
      have F₅ := (F₄.tok _).kept hk5
      refine ev_bi1 (amF F₅) hE (g_len w) b_len (cell_item1 F₅.rd hE hc2 hv2 (l2 F₅) (call_len (lb2 (F₅.tok _)) huz fun t6 s6 hk6 => ?_))
      have F₆ := (F₅.tok _).kept hk6
      refine min_two_ints (A := A.deeper env) hh fun h7 tk7 hk7 => ?_
      have hks7 : Keeps s6 { s6 with heap := h7, toks := tk7 } := ⟨h7, tk7, rfl, hk7⟩
      have F₇ := F₆.kept hks7
      generalize ({ s6 with heap := h7, toks := tk7 } : Shared) = s7 at *
      have e7 : ∃ t7, (if (us.toArray.size : Int) < (vs.toArray.size : Int) then Value.int us.toArray.size t6 else .int vs.toArray.size t5) = .int ((min ps.length qs.length : Nat) : Int) t7 := by
        rw [List.size_toArray, List.size_toArray, hlv, hlu]
        by_cases hlt : (qs.length : Int) < ps.length
        · rw [if_pos hlt]; exact ⟨t6, by congr 1; omega⟩
        · rw [if_neg hlt]; exact ⟨t5, by congr 1; omega⟩
      obtain ⟨t7, e7⟩ := e7
      rw [e7]
      refine call_range fun r s8 tt tu tv hk8 hr8 hR => ?_
      have F₈ := F₇.kept hk8
      refine ⟨_, _, fun i m' cm' s' => cm' = cm ∧ cmpText ps qs = cmpText (ps.drop i) (qs.drop i), [], m, cm, F₈, itf_range (A := A.deeper env) hh hR (by omega), ?_, nofun, ⟨rfl, rfl⟩, fun _ _ _ _ _ hJ _ => hJ, ?_, ?_⟩
      · rintro b hb
        cases hb
        refine ⟨Nat.ne_of_gt (Nat.lt_of_lt_of_le F₇.toInCall.ns.lt hr8), fun nm cc hcc => ?_, nofun⟩
        obtain ⟨o, ho, _⟩ := F₇.cell nm cc hcc
        exact Nat.ne_of_gt (Nat.lt_of_lt_of_le (Heap.lt_size ho) hr8)
      · rintro i v m' m'' cm' s₂ s' hi0 ⟨tk, rfl⟩ ⟨rfl, hJ⟩ F' hkv _ _ _
        obtain ⟨x, hx⟩ : ∃ x, ps[i]? = some x := ⟨_, List.getElem?_eq_getElem (by omega)⟩
        obtain ⟨y, hy⟩ : ∃ y, qs[i]? = some y := ⟨_, List.getElem?_eq_getElem (by omega)⟩
        obtain ⟨xv, hxv⟩ : ∃ xv, vs[i]? = some xv := ⟨_, List.getElem?_eq_getElem (by omega)⟩
        obtain ⟨yv, hyv⟩ : ∃ yv, us[i]? = some yv := ⟨_, List.getElem?_eq_getElem (by omega)⟩
        have i1 : ItemAt vs.toArray (i : Int) xv := .inl ⟨by omega, by omega, by simpa using hxv⟩
        have i2 : ItemAt us.toArray (i : Int) yv := .inl ⟨by omega, by omega, by simpa using hyv⟩
        have hst := cmpT_step hx hy hJ
        obtain ⟨xn, xt, hxn, rfl⟩ := ints_get hi i xv hxv
        obtain ⟨yn, yt, hyn, rfl⟩ := ints_get hi' i yv hyv
        rw [List.getElem?_map, hx] at hxn
        rw [List.getElem?_map, hy] at hyn
        cases hxn; cases hyn
        refine wpAny_execs_cons (wpAny_If (wpAny_isTrue_Compare1 (sub_item (cell_item1 F'.rd hE hc1 hv1 (l1 F') (ev_local (F'.tok _).rd hE hkv ⟨_, _, _, _, _, rfl, rfl, lb1 (F'.tok _), i1, sub_item (cell_item1 (F'.tok _).rd hE hc2 hv2 (l2 (F'.tok _)) (ev_local (F'.tok _).rd hE hkv ⟨_, _, _, _, _, rfl, rfl, lb2 (F'.tok _), i2, P.ne_int (wpAny_truthy_bool ?_)⟩))⟩)))))
        by_cases hxy : x = y
        · rw [if_neg (by simp [hxy])]
          refine wpAny_execs_nil (wpAny_execs_nil ⟨_, _, F'.tok _, Keep.w (Keep.refl _) _, rfl, ?_⟩)
          rw [hst, if_pos hxy]
        · rw [if_pos (by simpa using fun e : (x : Int) = y => hxy (by omega))]
          refine tok_gen (s := s') fun s₉ hk₉ => ?_
          have F₉ := F'.kept hk₉
          refine if_head F₉.rd hE hc1 hv1 (l1 F₉) (k_text _) fun sA hkA => ?_
          have FA := F₉.kept hkA
          rw [if_pos (by simp [is_text])]
          refine wpAny_execs_cons (wpAny_Return_some (ev_call1 (amF FA) hE (g_sign w) rfl rfl (wpAny_BinOp (sub_item (cell_item1 FA.rd hE hc1 hv1 (l1 FA) (ev_local (FA.tok _).rd hE hkv ⟨_, _, _, _, _, rfl, rfl, lb1 (FA.tok _), i1, sub_item (cell_item1 (FA.tok _).rd hE hc2 hv2 (l2 (FA.tok _)) (ev_local (FA.tok _).rd hE hkv ⟨_, _, _, _, _, rfl, rfl, lb2 (FA.tok _), i2, P.sub_int ⟨amF (FA.tok _), ?_⟩⟩))⟩))))))
          refine sign_call (amF (FA.tok _)) (by show A.depth + 1 < _; omega) fun t3 s' hk => h _ _ (Keeps.trans (FA.tok _).done hk) ?_
          refine ⟨t3, ?_⟩
          rw [hst, if_neg hxy]
      · rintro m' cm' s' F' ⟨rfl, hJ⟩
        have hend := cmpT_end rfl hJ
        refine wpAny_execs_cons (wpAny_Return_some (ev_call1 (amF F') hE (g_sign w) rfl rfl (wpAny_BinOp (ev_bi1 (amF F') hE (g_len w) b_len (cell_item1 F'.rd hE hc1 hv1 (l1 F') (call_len (lb1 (F'.tok _)) hvz fun tA sA hkA => ?_))))))
        have FA := (F'.tok _).kept hkA
        refine ev_bi1 (amF FA) hE (g_len w) b_len (cell_item1 FA.rd hE hc2 hv2 (l2 FA) (call_len (lb2 (FA.tok _)) huz fun tB sB hkB => P.sub_int ?_))
        have FB := ((FA.tok _).kept hkB)
        refine ⟨amF (FB.tok _), sign_call (amF (FB.tok _)) (by show A.depth + 1 < _; omega) fun t3 s' hk => h _ _ (Keeps.trans (FB.tok _).done hk) ?_⟩
        rw [List.size_toArray, List.size_toArray, hlv, hlu]
        exact ⟨t3, by rw [hend]⟩
    case list ps =>
      obtain ⟨qs, rfl⟩ : ∃ qs, q = .list qs := by cases q <;> first | exact ⟨_, rfl⟩ | (simp [Plan.fam] at hf)
      obtain ⟨b, vs, rfl, _, hlb, hall⟩ := hc
      obtain ⟨b', us, rfl, _, hlb', hall'⟩ := hc'
      have hlv := hall.length
      have hlu := hall'.length
      have hp4 : ps.length ≤ 4000 := by have := length_le_wts ps; simp only [wt] at hwp; omega
      have hq4 : qs.length ≤ 4000 := by have := length_le_wts qs; simp only [wt] at hwq; omega
      have lb1 : ∀ {s' : Shared} {m' : Str → Option Value}, Inn s env m' cm s' → s'.heap.IsList b vs.toArray := fun F' => IsList.keep hlb fun o ho => Keeps.keep F'.done _ o ho
      have lb2 : ∀ {s' : Shared} {m' : Str → Option Value}, Inn s env m' cm s' → s'.heap.IsList b' us.toArray := fun F' => IsList.keep hlb' fun o ho => Keeps.keep F'.done _ o ho
      rw [if_neg (by simp [is_set])]
      have hvz : vs.toArray.size ≤ 4000 := by rw [List.size_toArray, hlv]; exact hp4
      have huz : us.toArray.size ≤ 4000 := by rw [List.size_toArray, hlu]; exact hq4
      refine wpAny_execs_cons (for_each (s₀ := s) hE (ev_ty1 (amF F₄) hE (g_range w) b_range (ev_bi2 (amF F₄) hE (g_min w) b_min (ev_bi1 (amF F₄) hE (g_len w) b_len (cell_item1 F₄.rd hE hc1 hv1 (l1 F₄) (call_len (lb1 (F₄.tok _)) hvz fun t5 s5 hk5 => ?_))))))
      have F₅ := (F₄.tok _).kept hk5
      refine ev_bi1 (amF F₅) hE (g_len w) b_len (cell_item1 F₅.rd hE hc2 hv2 (l2 F₅) (call_len (lb2 (F₅.tok _)) huz fun t6 s6 hk6 => ?_))
      have F₆ := (F₅.tok _).kept hk6
      refine min_two_ints (A := A.deeper env) hh fun h7 tk7 hk7 => ?_
      have hks7 : Keeps s6 { s6 with heap := h7, toks := tk7 } := ⟨h7, tk7, rfl, hk7⟩
      have F₇ := F₆.kept hks7
      generalize ({ s6 with heap := h7, toks := tk7 } : Shared) = s7 at *
      have e7 : ∃ t7, (if (us.toArray.size : Int) < (vs.toArray.size : Int) then Value.int us.toArray.size t6 else .int vs.toArray.size t5) = .int ((min ps.length qs.length : Nat) : Int) t7 := by
        rw [List.size_toArray, List.size_toArray, hlv, hlu]
        by_cases hlt : (qs.length : Int) < ps.length
        · rw [if_pos hlt]; exact ⟨t6, by congr 1; omega⟩
        · rw [if_neg hlt]; exact ⟨t5, by congr 1; omega⟩
      obtain ⟨t7, e7⟩ := e7
      rw [e7]
      refine call_range fun r s8 tt tu tv hk8 hr8 hR => ?_
      have F₈ := F₇.kept hk8
      refine ⟨_, _, fun i m' cm' s' => cm' = cm ∧ cmpL ps qs = cmpL (ps.drop i) (qs.drop i), [], m, cm, F₈, itf_range (A := A.deeper env) hh hR (by omega), ?_, nofun, ⟨rfl, rfl⟩, fun _ _ _ _ _ hJ _ => hJ, ?_, ?_⟩
      · rintro b hb
        cases hb
        refine ⟨Nat.ne_of_gt (Nat.lt_of_lt_of_le F₇.toInCall.ns.lt hr8), fun nm cc hcc => ?_, nofun⟩
        obtain ⟨o, ho, _⟩ := F₇.cell nm cc hcc
        exact Nat.ne_of_gt (Nat.lt_of_lt_of_le (Heap.lt_size ho) hr8)
      · rintro i v m' m'' cm' s₂ s' hi0 ⟨tk, rfl⟩ ⟨rfl, hJ⟩ F' hkv _ _ _
        obtain ⟨x, hx⟩ : ∃ x, ps[i]? = some x := ⟨_, List.getElem?_eq_getElem (by omega)⟩
        obtain ⟨y, hy⟩ : ∃ y, qs[i]? = some y := ⟨_, List.getElem?_eq_getElem (by omega)⟩
        obtain ⟨xv, hxv⟩ : ∃ xv, vs[i]? = some xv := ⟨_, List.getElem?_eq_getElem (by omega)⟩
        obtain ⟨yv, hyv⟩ : ∃ yv, us[i]? = some yv := ⟨_, List.getElem?_eq_getElem (by omega)⟩
        have i1 : ItemAt vs.toArray (i : Int) xv := .inl ⟨by omega, by omega, by simpa using hxv⟩
        have i2 : ItemAt us.toArray (i : Int) yv := .inl ⟨by omega, by omega, by simpa using hyv⟩
        have hst := cmpL_step hx hy hJ
        obtain ⟨x', hx', hpx⟩ := hall.get i xv hxv
        obtain ⟨y', hy', hpy⟩ := hall'.get i yv hyv
        rw [hx] at hx'; cases hx'
        rw [hy] at hy'; cases hy'
        have pF : ∀ {s' : Shared} {m' : Str → Option Value}, Inn s env m' cm' s' → PAt s'.heap bad xv x ∧ PAt s'.heap bad yv y := fun F' => ⟨hpx.keep (Keeps.keep F'.done), hpy.keep (Keeps.keep F'.done)⟩
        have hmx : x ∈ ps := List.mem_of_getElem? hx
        have hdx := deep_le_deeps hmx
        have hwx := wt_le_wts hmx
        have hwy := wt_le_wts (List.mem_of_getElem? hy)
        have hsx : sizeOf x < sizeOf ps := List.sizeOf_lt_of_mem hmx
        simp only [deep] at hd hu
        simp only [wt] at hwp hwq
        refine wpAny_execs_cons (wpAny_If (wpAny_isTrue_Compare1 (sub_item (cell_item1 F'.rd hE hc1 hv1 (l1 F') (ev_local (F'.tok _).rd hE hkv ⟨_, _, _, _, _, rfl, rfl, lb1 (F'.tok _), i1, sub_item (cell_item1 (F'.tok _).rd hE hc2 hv2 (l2 (F'.tok _)) (ev_local (F'.tok _).rd hE hkv ⟨_, _, _, _, _, rfl, rfl, lb2 (F'.tok _), i2, ne_plan (pF (F'.tok _)).1 (pF (F'.tok _)).2 (by show A.units + 3 + _ + _ < _; omega) (wpAny_truthy_bool ?_)⟩))⟩)))))
        cases hxy : peq x y with
        | true =>
          rw [if_neg (by decide)]
          refine wpAny_execs_nil (wpAny_execs_nil ⟨_, _, F'.tok _, Keep.w (Keep.refl _) _, rfl, ?_⟩)
          rw [hst, if_pos hxy]
        | false =>
          rw [if_pos (by decide)]
          refine tok_gen (s := s') fun s₉ hk₉ => ?_
          have F₉ := F'.kept hk₉
          refine if_head F₉.rd hE hc1 hv1 (l1 F₉) (k_text _) fun sA hkA => ?_
          have FA := F₉.kept hkA
          rw [if_neg (by simp [is_text])]
          refine wpAny_execs_cons (wpAny_Return_some (ev_call2 (amF FA) hE (g_order w) rfl rfl (sub_item (cell_item1 FA.rd hE hc1 hv1 (l1 FA) (ev_local (FA.tok _).rd hE hkv ⟨_, _, _, _, _, rfl, rfl, lb1 (FA.tok _), i1, sub_item (cell_item1 (FA.tok _).rd hE hc2 hv2 (l2 (FA.tok _)) (ev_local (FA.tok _).rd hE hkv ⟨_, _, _, _, _, rfl, rfl, lb2 (FA.tok _), i2, amF (FA.tok _), ?_⟩))⟩)))))
          refine ih x y (by simp only [Plan.list.sizeOf_spec] at hn; omega) (amF (FA.tok _)) (pF (FA.tok _)).1 (pF (FA.tok _)).2 hh (by show A.depth + 1 + _ + _ < _; omega) (by show A.units + 3 + _ + _ < _; omega) (by omega) (by omega) fun r s' hk hr => ?_
          refine h _ _ (Keeps.trans (FA.tok _).done hk) ?_
          rw [hxy, if_neg (by decide)] at hst
          show ordV (cmpL ps qs) r
          rw [hst]; exact hr
      · rintro m' cm' s' F' ⟨rfl, hJ⟩
        have hend := cmpL_end rfl hJ
        refine wpAny_execs_cons (wpAny_Return_some (ev_call1 (amF F') hE (g_sign w) rfl rfl (wpAny_BinOp (ev_bi1 (amF F') hE (g_len w) b_len (cell_item1 F'.rd hE hc1 hv1 (l1 F') (call_len (lb1 (F'.tok _)) hvz fun tA sA hkA => ?_))))))
        have FA := (F'.tok _).kept hkA
        refine ev_bi1 (amF FA) hE (g_len w) b_len (cell_item1 FA.rd hE hc2 hv2 (l2 FA) (call_len (lb2 (FA.tok _)) huz fun tB sB hkB => P.sub_int ?_))
        have FB := ((FA.tok _).kept hkB)
        refine ⟨amF (FB.tok _), sign_call (amF (FB.tok _)) (by show A.depth + 1 < _; omega) fun t3 s' hk => h _ _ (Keeps.trans (FB.tok _).done hk) ?_⟩
        rw [List.size_toArray, List.size_toArray, hlv, hlu]
        show ordV (cmpL ps qs) _
        rw [hend]; exact ⟨t3, rfl⟩
    case tup ps =>
      obtain ⟨qs, rfl⟩ : ∃ qs, q = .tup qs := by cases q <;> first | exact ⟨_, rfl⟩ | (simp [Plan.fam] at hf)
      obtain ⟨b, vs, rfl, _, hlb, hall⟩ := hc
      obtain ⟨b', us, rfl, _, hlb', hall'⟩ := hc'
      have hlv := hall.length
      have hlu := hall'.length
      have hp4 : ps.length ≤ 4000 := by have := length_le_wts ps; simp only [wt] at hwp; omega
      have hq4 : qs.length ≤ 4000 := by have := length_le_wts qs; simp only [wt] at hwq; omega
      have lb1 : ∀ {s' : Shared} {m' : Str → Option Value}, Inn s env m' cm s' → s'.heap.IsList b vs.toArray := fun F' => IsList.keep hlb fun o ho => Keeps.keep F'.done _ o ho
      have lb2 : ∀ {s' : Shared} {m' : Str → Option Value}, Inn s env m' cm s' → s'.heap.IsList b' us.toArray := fun F' => IsList.keep hlb' fun o ho => Keeps.keep F'.done _ o ho
      rw [if_neg (by simp [is_set])]
      have hvz : vs.toArray.size ≤ 4000 := by rw [List.size_toArray, hlv]; exact hp4
      have huz : us.toArray.size ≤ 4000 := by rw [List.size_toArray, hlu]; exact hq4
      refine wpAny_execs_cons (for_each (s₀ := s) hE (ev_ty1 (amF F₄) hE (g_range w) b_range (ev_bi2 (amF F₄) hE (g_min w) b_min (ev_bi1 (amF F₄) hE (g_len w) b_len (cell_item1 F₄.rd hE hc1 hv1 (l1 F₄) (call_len (lb1 (F₄.tok _)) hvz fun t5 s5 hk5 => ?_))))))
      have F₅ := (F₄.tok _).kept hk5
      refine ev_bi1 (amF F₅) hE (g_len w) b_len (cell_item1 F₅.rd hE hc2 hv2 (l2 F₅) (call_len (lb2 (F₅.tok _)) huz fun t6 s6 hk6 => ?_))
      have F₆ := (F₅.tok _).kept hk6
      refine min_two_ints (A := A.deeper env) hh fun h7 tk7 hk7 => ?_
      have hks7 : Keeps s6 { s6 with heap := h7, toks := tk7 } := ⟨h7, tk7, rfl, hk7⟩
      have F₇ := F₆.kept hks7
      generalize ({ s6 with heap := h7, toks := tk7 } : Shared) = s7 at *
      have e7 : ∃ t7, (if (us.toArray.size : Int) < (vs.toArray.size : Int) then Value.int us.toArray.size t6 else .int vs.toArray.size t5) = .int ((min ps.length qs.length : Nat) : Int) t7 := by
        rw [List.size_toArray, List.size_toArray, hlv, hlu]
        by_cases hlt : (qs.length : Int) < ps.length
        · rw [if_pos hlt]; exact ⟨t6, by congr 1; omega⟩
        · rw [if_neg hlt]; exact ⟨t5, by congr 1; omega⟩
      obtain ⟨t7, e7⟩ := e7
      rw [e7]
      refine call_range fun r s8 tt tu tv hk8 hr8 hR => ?_
      have F₈ := F₇.kept hk8
      refine ⟨_, _, fun i m' cm' s' => cm' = cm ∧ cmpL ps qs = cmpL (ps.drop i) (qs.drop i), [], m, cm, F₈, itf_range (A := A.deeper env) hh hR (by omega), ?_, nofun, ⟨rfl, rfl⟩, fun _ _ _ _ _ hJ _ => hJ, ?_, ?_⟩
      · rintro b hb
        cases hb
        refine ⟨Nat.ne_of_gt (Nat.lt_of_lt_of_le F₇.toInCall.ns.lt hr8), fun nm cc hcc => ?_, nofun⟩
        obtain ⟨o, ho, _⟩ := F₇.cell nm cc hcc
        exact Nat.ne_of_gt (Nat.lt_of_lt_of_le (Heap.lt_size ho) hr8)
      · rintro i v m' m'' cm' s₂ s' hi0 ⟨tk, rfl⟩ ⟨rfl, hJ⟩ F' hkv _ _ _
        obtain ⟨x, hx⟩ : ∃ x, ps[i]? = some x := ⟨_, List.getElem?_eq_getElem (by omega)⟩
        obtain ⟨y, hy⟩ : ∃ y, qs[i]? = some y := ⟨_, List.getElem?_eq_getElem (by omega)⟩
        obtain ⟨xv, hxv⟩ : ∃ xv, vs[i]? = some xv := ⟨_, List.getElem?_eq_getElem (by omega)⟩
        obtain ⟨yv, hyv⟩ : ∃ yv, us[i]? = some yv := ⟨_, List.getElem?_eq_getElem (by omega)⟩
        have i1 : ItemAt vs.toArray (i : Int) xv := .inl ⟨by omega, by omega, by simpa using hxv⟩
        have i2 : ItemAt us.toArray (i : Int) yv := .inl ⟨by omega, by omega, by simpa using hyv⟩
        have hst := cmpL_step hx hy hJ
        obtain ⟨x', hx', hpx⟩ := hall.get i xv hxv
        obtain ⟨y', hy', hpy⟩ := hall'.get i yv hyv
        rw [hx] at hx'; cases hx'
        rw [hy] at hy'; cases hy'
        have pF : ∀ {s' : Shared} {m' : Str → Option Value}, Inn s env m' cm' s' → PAt s'.heap bad xv x ∧ PAt s'.heap bad yv y := fun F' => ⟨hpx.keep (Keeps.keep F'.done), hpy.keep (Keeps.keep F'.done)⟩
        have hmx : x ∈ ps := List.mem_of_getElem? hx
        have hdx := deep_le_deeps hmx
        have hwx := wt_le_wts hmx
        have hwy := wt_le_wts (List.mem_of_getElem? hy)
        have hsx : sizeOf x < sizeOf ps := List.sizeOf_lt_of_mem hmx
        simp only [deep] at hd hu
        simp only [wt] at hwp hwq
        refine wpAny_execs_cons (wpAny_If (wpAny_isTrue_Compare1 (sub_item (cell_item1 F'.rd hE hc1 hv1 (l1 F') (ev_local (F'.tok _).rd hE hkv ⟨_, _, _, _, _, rfl, rfl, lb1 (F'.tok _), i1, sub_item (cell_item1 (F'.tok _).rd hE hc2 hv2 (l2 (F'.tok _)) (ev_local (F'.tok _).rd hE hkv ⟨_, _, _, _, _, rfl, rfl, lb2 (F'.tok _), i2, ne_plan (pF (F'.tok _)).1 (pF (F'.tok _)).2 (by show A.units + 3 + _ + _ < _; omega) (wpAny_truthy_bool ?_)⟩))⟩)))))
        cases hxy : peq x y with
        | true =>
          rw [if_neg (by decide)]
          refine wpAny_execs_nil (wpAny_execs_nil ⟨_, _, F'.tok _, Keep.w (Keep.refl _) _, rfl, ?_⟩)
          rw [hst, if_pos hxy]
        | false =>
          rw [if_pos (by decide)]
          refine tok_gen (s := s') fun s₉ hk₉ => ?_
          have F₉ := F'.kept hk₉
          refine if_head F₉.rd hE hc1 hv1 (l1 F₉) (k_text _) fun sA hkA => ?_
          have FA := F₉.kept hkA
          rw [if_neg (by simp [is_text])]
          refine wpAny_execs_cons (wpAny_Return_some (ev_call2 (amF FA) hE (g_order w) rfl rfl (sub_item (cell_item1 FA.rd hE hc1 hv1 (l1 FA) (ev_local (FA.tok _).rd hE hkv ⟨_, _, _, _, _, rfl, rfl, lb1 (FA.tok _), i1, sub_item (cell_item1 (FA.tok _).rd hE hc2 hv2 (l2 (FA.tok _)) (ev_local (FA.tok _).rd hE hkv ⟨_, _, _, _, _, rfl, rfl, lb2 (FA.tok _), i2, amF (FA.tok _), ?_⟩))⟩)))))
          refine ih x y (by simp only [Plan.tup.sizeOf_spec] at hn; omega) (amF (FA.tok _)) (pF (FA.tok _)).1 (pF (FA.tok _)).2 hh (by show A.depth + 1 + _ + _ < _; omega) (by show A.units + 3 + _ + _ < _; omega) (by omega) (by omega) fun r s' hk hr => ?_
          refine h _ _ (Keeps.trans (FA.tok _).done hk) ?_
          rw [hxy, if_neg (by decide)] at hst
          show ordV (cmpL ps qs) r
          rw [hst]; exact hr
      · rintro m' cm' s' F' ⟨rfl, hJ⟩
        have hend := cmpL_end rfl hJ
        refine wpAny_execs_cons (wpAny_Return_some (ev_call1 (amF F') hE (g_sign w) rfl rfl (wpAny_BinOp (ev_bi1 (amF F') hE (g_len w) b_len (cell_item1 F'.rd hE hc1 hv1 (l1 F') (call_len (lb1 (F'.tok _)) hvz fun tA sA hkA => ?_))))))
        have FA := (F'.tok _).kept hkA
        refine ev_bi1 (amF FA) hE (g_len w) b_len (cell_item1 FA.rd hE hc2 hv2 (l2 FA) (call_len (lb2 (FA.tok _)) huz fun tB sB hkB => P.sub_int ?_))
        have FB := ((FA.tok _).kept hkB)
        refine ⟨amF (FB.tok _), sign_call (amF (FB.tok _)) (by show A.depth + 1 < _; omega) fun t3 s' hk => h _ _ (Keeps.trans (FB.tok _).done hk) ?_⟩
        rw [List.size_toArray, List.size_toArray, hlv, hlu]
        show ordV (cmpL ps qs) _
        rw [hend]; exact ⟨t3, rfl⟩
end Mine

namespace Mine
open PySem.Calls

/-! ## three_way_cmp, which may raise -/
def newsOf (base B : Heap) : List (Addr × Obj) := (List.range B.objs.size).filterMap fun b => match B.get? b, base.get? b with
  | some o, none => some (b, o)
  | _, _ => none
theorem mem_newsOf {base B : Heap} {q : Addr × Obj} : q ∈ newsOf base B ↔ B.get? q.1 = some q.2 ∧ base.get? q.1 = none := by
  obtain ⟨b, o⟩ := q
  unfold newsOf
  rw [List.mem_filterMap]
  constructor
  · rintro ⟨b', _, h⟩
    cases h1 : B.get? b' with
    | none => rw [h1] at h; cases h
    | some o' =>
      cases h2 : base.get? b' with
      | some o'' => rw [h1, h2] at h; cases h
      | none => rw [h1, h2] at h; cases h; exact ⟨h1, h2⟩
  · rintro ⟨h1, h2⟩
    dsimp only at h1 h2
    exact ⟨b, List.mem_range.mpr (Heap.lt_size h1), by rw [h1, h2]⟩

section
variable {M : Model} {A : Around} {E : Value → Shared → Prop} {s' : Shared} {base g h : Heap} {outer : List Env} {L a e : Addr} {m : Str → Option Value} {name : Str} {scope : Scope} {cd : Value} {Q : Unit → Shared → Prop}
theorem leave_all {cls : String} (K : Below A base outer g) (hx : Heap.NewExc h s'.heap e cls) (F : Fr g L h m)
    (hQ : ∀ h', RaisedN base outer e (.type cls) (newsOf base (hideAll h ((envOf name scope L a cd :: outer).filterMap (·.frame)))) h' → g.UpToSlots h' → Q () { s' with heap := h' }) (hk : scope.kind = .function := by rfl) :
    wpAny M (A.deeper (envOf name scope L a cd)) (leaving (envOf name scope L a cd) (.ref e)) Q E s' := by
  have K' := K.push (name := name) (a := a) (cd := cd) F hk
  have hin : ∀ env ∈ (envOf name scope L a cd :: outer), ∀ b, env.frame = some b → b ∈ (envOf name scope L a cd :: outer).filterMap (·.frame) := fun env he b hb => List.mem_filterMap.mpr ⟨env, he, hb⟩
  have st : base.StaysIn (hideAll h ((envOf name scope L a cd :: outer).filterMap (·.frame))) := fun b o q => hideAll_get _ (K'.stays b o q) fun hm => by
    rw [(K'.frames.mem hm).1] at q; cases q
  obtain ⟨ob, tp, he, hcls, hd⟩ := hx.there
  have hen : (hideAll h ((envOf name scope L a cd :: outer).filterMap (·.frame))).get? e = none := by
    cases q : (hideAll h ((envOf name scope L a cd :: outer).filterMap (·.frame))).get? e with
    | none => rfl
    | some o => have := of_hideAll _ q; rw [hx.new] at this; cases this
  refine wpAny_leaving_firstW (a0 := tp) K'.stack ((funFrames_hide K'.frames hin).of_keeps fun b o hb _ => ⟨o, hx.keeps b o hb, rfl⟩) rfl he (fun b o hb => hx.keeps b o (of_hideAll _ hb)) hen hd rfl rfl fun h' hL => ?_
  obtain ⟨k1, ⟨_, _, k2⟩, k3, k4⟩ := hL
  exact hQ h' ⟨_, tp, st, fun q hq => mem_newsOf.mp hq, k1, hen, k2, by rw [← hcls]; exact k3⟩ (((Heap.UpToSlots.of_keeps F.keep).trans (Heap.UpToSlots.of_keeps hx.keeps)).trans k4)
end

theorem sgn_tri (n : Int) : b2i (decide (sgn n > 0)) - b2i (decide (sgn n < 0)) = sgn n := by
  unfold sgn
  by_cases h : n > 0
  · rw [if_pos h]; rfl
  · rw [if_neg h]
    by_cases h2 : n < 0
    · rw [if_pos h2]; rfl
    · rw [if_neg h2]; rfl
def Tri (c : Int) : Prop := b2i (decide (c > 0)) - b2i (decide (c < 0)) = c
theorem tri_text : ∀ a b : List Nat, Tri (cmpText a b)
  | [], _ => by unfold cmpText; exact sgn_tri _
  | _ :: _, [] => by unfold cmpText; exact sgn_tri _
  | x :: xs, y :: ys => by
    unfold cmpText
    split
    · exact tri_text xs ys
    · exact sgn_tri _
theorem tri_set (ks ls : List Int) : Tri (cmpSet ks ls) := by
  unfold cmpSet
  generalize (ks.any fun k => !decide (k ∈ ls)) = x
  generalize (ls.any fun k => !decide (k ∈ ks)) = y
  cases x <;> cases y <;> rfl
mutual
theorem tri_P : ∀ (p q : Plan) (c : Int), cmpP p q = some c → Tri c
  | .num a, q, c, h => by cases q <;> simp only [cmpP] at h <;> cases h; exact sgn_tri _
  | .text a, q, c, h => by cases q <;> simp only [cmpP] at h <;> cases h; exact tri_text _ _
  | .set .., q, c, h => by cases q <;> simp only [cmpP] at h <;> cases h; exact tri_set _ _
  | .none, q, c, h => by cases q <;> simp only [cmpP] at h <;> cases h
  | .table .., q, c, h => by cases q <;> simp only [cmpP] at h <;> cases h
  | .list ps, q, c, h => by
    cases q <;> simp only [cmpP] at h <;> first | exact tri_L ps _ c h | cases h
  | .tup ps, q, c, h => by
    cases q <;> simp only [cmpP] at h <;> first | exact tri_L ps _ c h | cases h
theorem tri_L : ∀ (ps qs : List Plan) (c : Int), cmpL ps qs = some c → Tri c
  | [], qs, c, h => by rw [cmpL] at h; cases h; exact sgn_tri _
  | x :: xs, [], c, h => by rw [cmpL] at h; cases h; exact sgn_tri _
  | x :: xs, y :: ys, c, h => by
    rw [cmpL] at h
    split at h
    · exact tri_L xs ys c h
    · exact tri_P x y c h
end

theorem cmp_call {prog : Program} {w : World} {A : Around} {E : Value → Shared → Prop} {s : Shared} {Q : Value → Shared → Prop} {base h1 : Heap} {outer : List Env} {v u : Value} {p q : Plan} {lo lo' : Addr}
    (K : Below A base outer s.heap) (am : Amb w s.heap) (hh : A.handled = none) (hd : A.depth < recursionLimit) (hu : A.units + deep p + 10 < cLine) (hT1 : TAt h1 lo false v p) (hT2 : TAt s.heap lo' true u q) (hk : Keep h1 s.heap) (hlo : h1.objs.size ≤ lo')
    (hs1 : sysModules < lo) (hs2 : sysModules < lo')
    (hQ : ∀ c t s', cmpP p q = some c → Keeps s s' → Q (.int c t) s')
    (hE : cmpP p q = none → ∀ e h' tk news, RaisedN base outer e (.type "TypeError") news h' → (∀ b o, s.heap.get? b = some o → base.get? b = none → b ∉ outer.filterMap (·.frame) → (b, o) ∈ news) → s.heap.UpToSlots h' → E (.ref e) { s with heap := h', toks := tk }) :
    wpAny (model prog w) A (call (.ref 21) [v, u]) Q E s := by
  obtain ⟨pp, l, mg, mb, T⟩ := am.T
  refine wpAny_call (call_plain (binds := [("x", v), ("y", u)]) hd (am.K 21 _ rfl) rfl T.nolimit ⟨_, _, _, _, rfl, am.K 20 _ rfl, rfl, rfl⟩ rfl (fun x hx => ?_) fun h₁ F => ?_)
  · simp only [List.mem_cons, List.mem_nil_iff, or_false] at hx
    rcases hx with rfl | rfl <;> rfl
  have X : ∀ nm sc a cd, Rd (envOf nm sc s.heap.objs.size a cd) (fun x => ([((Str.ofString "x" : Str), v), (Str.ofString "y", u)] : List (Str × Value)).reverse.lookup x) (fun _ => none) h₁ := fun nm sc a cd => ⟨F.ns, fun n c e => by cases e⟩
  have rc := fun (A' : Around) (op : CmpOp) (hop : op = .Lt ∨ op = .Gt) => rc_thing (prog := prog) (w := w) (A := A') (sizeOf p + 1) p q (Nat.lt_succ_self _) (op := op) hop (s := { s with heap := h₁, toks := s.toks + 2 }) hT1 (hT2.keeps F.keep) (Keep.trans hk F.keep) hlo hs1 hs2
  refine wpAny_execs_cons (wpAny_Return_some (wpAny_BinOp (wpAny_Compare1 (ev_local (X _ _ _ _) ⟨rfl, rfl, rfl⟩ rfl (ev_local (X _ _ _ _) ⟨rfl, rfl, rfl⟩ rfl ?_)))))
  refine rc (A.deeper _) .Gt (.inr rfl) (by show A.units + 3 + _ < _; omega) hh _ _ (fun c hc => ?_) fun hc h' tk e hx => ?_
  · refine wpAny_Compare1 (ev_local (X _ _ _ _) ⟨rfl, rfl, rfl⟩ rfl (ev_local (X _ _ _ _) ⟨rfl, rfl, rfl⟩ rfl ?_))
    refine rc (A.deeper _) .Lt (.inl rfl) (by show A.units + 3 + _ < _; omega) hh _ _ (fun c' hc' => ?_) fun hc' => by rw [hc] at hc'; cases hc'
    rw [hc] at hc'; cases hc'
    refine sub_bool ?_
    have e := tri_P p q c hc
    unfold Tri at e
    show Q (.int (b2i (decide (c > 0)) - b2i (decide (c < 0))) _) _
    rw [e]
    exact hQ c _ _ hc ⟨_, _, rfl, F.keep⟩
  · refine leave_all K hx F fun h'' R hsm => hE hc e h'' tk _ R (fun b o hb hn hf => mem_newsOf.mpr ⟨hideAll_get _ (F.keep b o hb) fun hm => ?_, hn⟩) hsm
    rw [List.filterMap_cons] at hm
    have hm' : b ∈ s.heap.objs.size :: outer.filterMap (·.frame) := hm
    rcases List.mem_cons.mp hm' with rfl | hm'
    · exact Nat.lt_irrefl _ (Heap.lt_size hb)
    · exact hf hm'
end Mine

namespace Mine
open PySem.Calls

theorem slot_type_ne : Slot "type" (cmpInfo .NotEq).2.1 "object.__ne__" :=
  .of (owner := "object") (n := "__ne__") (by rw [typeLookup_type, builtinLookup_eq_fast]; kernel_rfl) (by decide +kernel) (by decide +kernel) (by decide +kernel)
    (by first | exact .inl (by decide +kernel) | exact .inr (by decide +kernel)) (by rw [isSubtype_type]; kernel_rfl)
section
variable {prog : Program} {w : World} {A : Around} {E : Value → Shared → Prop} {s : Shared} {Q : Value → Shared → Prop}
theorem ne_type_int (h : Q (.bool false) s) : wpAny (model prog w) A (compareOp .NotEq (.type "int") (.type "int")) Q E s := by
  show wpAny _ A (richCompare .NotEq _ _) Q E s
  refine wpAny_richCompare_same (T := "type") (TypeEq.meta_int s) (TypeEq.meta_int s) slot_type_ne ?_
  refine wpAny_call_entry slot_type_ne (TypeEq.meta_int s) F.entry_object_ne ?_ (F.args_object_ne_2 _ _)
  have sp : ∀ {A : Around} {Q : Option Value → Shared → Prop} {E : Value → Shared → Prop}, Q (some (.bool true)) s → wpAny (model prog w) A (callSpecialIfBound? (.type "int") "__eq__" [.type "int"]) Q E s := fun hq =>
    wpAny_callSpecialIfBound?_slot (name := "__eq__") (TypeEq.meta_int s) TypeEq.slot_type_eq (call_gives TypeEq.slot_type_eq (TypeEq.meta_int s) F.entry_object_eq (F.args_object_eq_2 _ _) (TypeEq.object_eq_same rfl (by simp)) hq)
  unfold Builtin.«object.__ne__»
  repeat (first | with_reducible refine wpAny_cRoomFor_or (.inl rfl) ?_ | with_reducible refine sp ?_ | wp_step)
  exact ⟨_, rfl, nofun, h⟩
end
end Mine

namespace Mine
open PySem.Calls

theorem g_plans (w : World) : nsIn (KF w) mainGlobals "_law_plans" = some (some (.ref 38)) := by kernel_rfl
theorem g_cmp (w : World) : nsIn (KF w) mainGlobals "three_way_cmp" = some (some (.ref 21)) := by kernel_rfl
theorem g_type (w : World) : nsIn (KF w) mainGlobals "type" = some none := by kernel_rfl
theorem b_type : bootBuiltins "type" = some (.type "type") := by kernel_rfl
theorem g_int (w : World) : nsIn (KF w) mainGlobals "int" = some none := by kernel_rfl
theorem b_int : bootBuiltins "int" = some (.type "int") := by kernel_rfl

/-- all but the frame's own names is kept -/
def KB (L : Addr) (h h' : Heap) : Prop := ∀ b o, b ≠ L → h.get? b = some o → h'.get? b = some o
theorem KB.trans {L : Addr} {h h' h'' : Heap} (x : KB L h h') (y : KB L h' h'') : KB L h h'' := fun b o hb e => y b o hb (x b o hb e)
theorem KB.keep {L : Addr} {h h' : Heap} (x : KB L h h') : Keep (hideAll h [L]) h' := fun b o e => x b o (fun hb => by
  subst hb
  rw [hideAll_none [b] (List.mem_singleton.mpr rfl)] at e; cases e) (of_hideAll [L] e)
theorem KB.list {L a : Addr} {vs : Array Value} {h h' : Heap} (x : KB L h h') (hne : a ≠ L) (l : h.IsList a vs) : h'.IsList a vs := by
  obtain ⟨o, ho, r⟩ := l
  exact ⟨o, x a o hne ho, r⟩

def PlansSay (prog : Program) (w : World) : Prop := ∀ (A : Around) (E : Value → Shared → Prop) (s : Shared) (Q : Value → Shared → Prop) (l : Addr) (vs : List Value) (ns : List Int), Amb w s.heap → s.heap.IsList l vs.toArray → IntsAre vs ns → ns.length ≤ 63 → A.handled = none →
  A.depth + 80 < recursionLimit → A.units + 100 < cLine → (∀ a s' us ps, Keeps s s' → s'.heap.IsList a (us : List Value).toArray → PAll s'.heap a us ps → (∀ p ∈ ps, wt p ≤ 12) → ps.length ≤ 100 → Q (.ref a) s') → wpAny (model prog w) A (call (.ref 38) [.ref l]) Q E s

theorem ne_told {prog : Program} {w : World} {A : Around} {E : Value → Shared → Prop} {s : Shared} {Q : Value → Shared → Prop} {c : Option Int} {r r' : Value} (h1 : ordV c r) (h2 : ordV c r') (h : Q (.bool false) s) : wpAny (model prog w) A (compareOp .NotEq r r') Q E s := by
  cases c with
  | some c =>
    obtain ⟨t, rfl⟩ := h1
    obtain ⟨t', rfl⟩ := h2
    refine P.ne_int ?_
    have e : (c != c) = false := by simp
    rw [e]; exact h
  | none =>
    obtain ⟨t, rfl⟩ := h1
    obtain ⟨t', rfl⟩ := h2
    exact P.ne_str h

theorem envOf_ok {nm : Str} {sc : Scope} {L fa : Addr} {cd : Value} {env : Env} (h : envOf nm sc L fa cd = env) : EnvOk env sc ∧ env.cells = [] ∧ env.locals = L := by
  subst h; exact ⟨⟨rfl, rfl, rfl⟩, rfl, rfl⟩
theorem Inn.fr {s₀ s : Shared} {env : Env} {m cm : Str → Option Value} (F : Inn s₀ env m cm s) : Fr s₀.heap env.locals s.heap m := ⟨F.toInCall.ns, F.toInCall.keep, F.toInCall.fresh⟩
theorem KeepL.kb {env : Env} {h h' : Heap} (x : KeepL env h h') (hcl : env.cells = []) : KB env.locals h h' := fun b o hb e => x b o hb (fun n c hc => by rw [hcl] at hc; cases hc) e
theorem KB.w {env : Env} {h h' : Heap} (x : KB env.locals h h') (ws : List Addr) : KeepW env ws h h' := fun b o hb _ _ e => x b o hb e
theorem KB.l {env : Env} {h h' : Heap} (x : KB env.locals h h') : KeepL env h h' := fun b o hb _ e => x b o hb e
theorem Keep.kb {L : Addr} {h h' : Heap} (x : Keep h h') : KB L h h' := fun b o _ e => x b o e
theorem kb_but {s s' : Shared} {L : Addr} (b : ∃ h' tk, s' = { s with heap := h', toks := tk } ∧ ∀ b o, b ≠ L → s.heap.get? b = some o → h'.get? b = some o) : KB L s.heap s'.heap := by
  obtain ⟨h', tk, rfl, hk⟩ := b; exact hk
theorem KB.keepN {L : Addr} {N : Nat} {h : Heap} {s s' : Shared} (x : KB L h s.heap) (hN : ∀ b o, h.get? b = some o → b < N) (y : KeepN N s s') : KB L h s'.heap := by
  obtain ⟨h', tk, rfl, hk⟩ := y
  exact fun b o hb e => hk b o (x b o hb e) (.inl (hN b o e))
theorem Inn.ofFr {s₁ s : Shared} {env : Env} {m cm : Str → Option Value} (hcl : env.cells = []) (F : Fr s₁.heap env.locals s.heap m) (hs : ∃ h tk, s = { s₁ with heap := h, toks := tk }) : Inn s₁ env m cm s :=
  ⟨⟨hs, F.ns, F.keep, F.above⟩, fun n c e => (by rw [hcl] at e; cases e), (by rw [hcl]; exact .nil), fun n c e => (by rw [hcl] at e; cases e)⟩
theorem catch1 {prog : Program} {w : World} {E : Value → Shared → Prop} {s₁ s' : Shared} {h : Heap} {L fa e : Addr} {m : Str → Option Value} {nm : Str} {sc : Scope} {cd : Value} {env : Env} {b₀ : Stmt} {suite : List Stmt} {pos np : Pos} {rest : List ExceptHandler} {Q : Flow → Shared → Prop} {news : List (Addr × Obj)}
    {pp : Program} {loose : List Str} {mg mb : Str → Option Value} (henv : envOf nm sc L fa cd = env)
    (K0 : Below callerA s₁.heap [] s₁.heap) (T : TopRead pp loose mg mb s₁.heap) (h2 : (Str.ofString "TypeError") ∉ loose) (h3 : (Str.ofString "TypeError") ∉ (recsOf pp).map (·.name)) (h4 : (Str.ofString "TypeError") ∉ (litsOf pp).map (·.1)) (h4c : (Str.ofString "TypeError") ∉ (clssOf pp loose).map (·.name))
    (F : Fr s₁.heap env.locals h m) (hsm : h.UpToSlots s'.heap) (R : RaisedN s₁.heap [env] e (.type "TypeError") news s'.heap)
    (k : ∀ h', Fr s₁.heap env.locals h' m → News s₁.heap env.locals h' news → wpAny (model prog w) ((callerA.deeper env).mark (some (.ref e))) (execs (b₀ :: suite) env) Q E { s' with heap := h' })
    (hE : ∀ e s, ¬ E e s) (hk : sc.kind = .function) (hx : sc.names.lookup (Str.ofString "TypeError") = some .globalImplicit) :
    wpAny (model prog w) (callerA.deeper env) (noteFrame (.ref e) env)
      (fun _ s₂ => wpAny (model prog w) (callerA.deeper env) (setFlight (.ref e) none) (fun _ s₃ =>
        wpAny (model prog w) (callerA.deeper env) (handleBy (.ref e) env (.ExceptHandler (some (.Name (Str.ofString "TypeError") np)) none (b₀ :: suite) pos :: rest)) Q E s₃) E s₂) E s' := by
  subst henv
  exact caught_N0 (T' := "TypeError") K0 F hsm R T PyProof.Rows.Boot.«TypeError» (by rw [isSubtype_type]; kernel_rfl) (by first | kernel_rfl | (rw [isSubtype_type]; kernel_rfl)) (by rw [isSubtype_type]; kernel_rfl) k (by decide +kernel) h2 h3 h4 h4c (by decide +kernel) hk hx (by decide)
    (fun e s h => absurd h (hE e s))
theorem size_le_of {h h' : Heap} {b : Addr} {o : Obj} (e : h'.get? b = some o) (hb : h.objs.size ≤ b) : h.objs.size ≤ h'.objs.size := Nat.le_of_lt (Nat.lt_of_le_of_lt hb (Heap.lt_size e))

set_option maxHeartbeats 4000000 in
theorem law_body {prog : Program} {w : World} {s₁ s : Shared} {o : Obj} {fd : FuncData} {body : List Stmt} {nm : Str} {L fa l : Addr} {cd : Value} {E : Value → Shared → Prop} {Q : Flow → Shared → Prop} {m : Str → Option Value} {vs : List Value} {ns : List Int} {pp : Program} {loose : List Str} {mg mb : Str → Option Value}
    (hK : (KF w).lookup 60 = some o) (ho : o.data = .func fd) (hb : fd.body = .stmts body) (hplans : PlansSay prog w)
    (K0 : Below callerA s₁.heap [] s₁.heap) (am : Amb w s₁.heap) (T : TopRead pp loose mg mb s₁.heap) (h2 : (Str.ofString "TypeError") ∉ loose) (h3 : (Str.ofString "TypeError") ∉ (recsOf pp).map (·.name)) (h4 : (Str.ofString "TypeError") ∉ (litsOf pp).map (·.1)) (h4c : (Str.ofString "TypeError") ∉ (clssOf pp loose).map (·.name))
    (hs1 : sysModules < s₁.heap.objs.size)
    (F : Inn s₁ (envOf nm fd.scope L fa cd) m (fun _ => none) s) (hm : m "script" = some (.ref l)) (hl : s₁.heap.IsList l vs.toArray) (hI : IntsAre vs ns) (hlen : ns.length ≤ 63)
    (hQ : ∀ s' m', Inn s₁ (envOf nm fd.scope L fa cd) m' (fun _ => none) s' → Q (.ret (.bool true)) s') :
    wpAny (model prog w) (callerA.deeper (envOf nm fd.scope L fa cd)) (execs body (envOf nm fd.scope L fa cd)) Q E s := by
  have eo : o = _ := Option.some.inj (hK.symm.trans (rfl : (KF w).lookup 60 = some _))
  subst eo
  cases ho
  cases hb
  dsimp only at F hQ ⊢
  generalize henv : envOf _ _ L fa cd = env at *
  obtain ⟨hE, hcl, hLoc⟩ := envOf_ok henv
  have hh : (callerA.deeper env).handled = none := rfl
  have hcd : callerA.depth + 100 < recursionLimit := by decide +kernel
  have hcu : callerA.units + 1000 < cLine := by decide +kernel
  have amF : ∀ {s' : Shared} {m' : Str → Option Value}, Inn s₁ env m' (fun _ => none) s' → Amb w s'.heap := fun F' => am.keep (Keeps.keep F'.done)
  have hlS : s.heap.IsList l vs.toArray := IsList.keep hl fun o ho => Keeps.keep F.done _ o ho
  have hsL : s₁.heap.objs.size ≤ L := by rw [← hLoc]; exact F.toInCall.fresh
  -- plans
  refine wpAny_execs_cons (wpAny_Assign_Name (sub_slice (ev_call1 (amF F) hE (g_plans w) rfl rfl (ev_local F.rd hE hm ⟨amF F, ?_⟩))))
  refine hplans _ _ _ _ _ _ _ (amF F) hlS hI hlen hh (by show callerA.depth + 1 + 80 < _; omega) (by show callerA.units + 3 + 100 < _; omega) fun a s₂ us ps hk₂ hl₂ hall₂ hwt hpl => ?_
  have F₂ := F.kept hk₂
  refine evalPart_some_step (UnaryOp_ (wpAny_Constant_int (P.neg_int (evalPart_none_step ?_))))
  refine ⟨_, _, some (-7), none, rfl, hl₂, by rw [List.size_toArray, hall₂.length]; exact sz4 (by omega), .int _ _, .none, fun D s₃ hk₃ hD hplD => ?_⟩
  have e3 : slicePick us.toArray (some (-7)) none none = (us.drop (us.length - 7)).toArray := by
    have := slicePick_last us.toArray 7 (by decide)
    simpa using this
  rw [e3] at hplD
  have hall₃ := (hall₂.keep (Keeps.keep hk₃)).drop (us.length - 7)
  have hwt₃ : ∀ p ∈ ps.drop (us.length - 7), wt p ≤ 12 := fun p hp => hwt p (List.mem_of_mem_drop hp)
  have hn7 : (ps.drop (us.length - 7)).length ≤ 7 := by rw [List.length_drop, hall₂.length]; omega
  generalize us.drop (us.length - 7) = xs at *
  generalize ps.drop (us.length - 7) = qs at *
  have hxl := hall₃.length
  have F₃ : Inn s₁ env m (fun _ => none) s₃ := (F₂.tok _).kept hk₃
  refine st_local F₃ hE fun s₄ m₄ F₄ h4a _ hk₄ => ?_
  have hpl₄ := F₃.keepPlain hk₄ hplD
  have hall₄ := hall₃.keepS (F₃.keepS hk₄ a)
  show wpAny _ _ (execs _ env) _ _ _
  -- ones
  refine wpAny_execs_cons (comp_assign (y := "ones") rfl (by decide) rfl (by decide) ?_ (by rw [Env.kindOf, hE.sc]; rfl) (by rw [hE.sc]; rfl) (ev_local F₄.rd hE h4a ?_))
  · simp only [swapsWith, Env.blockKind, Env.kindOf, hE.sc]; rfl
  refine ⟨_, _, fun v mm => mm "plan" = some v, fun _ _ => true, fun lo h i v y => ∃ p, qs[i]? = some p ∧ TAt h lo false y p, m₄, ?_, F₄.toInCall.ns, itb_list (A := callerA.deeper env) hh hpl₄.isList, ?_, ?_⟩
  · rw [List.size_toArray, hxl]; exact sz4 (by omega)
  · refine ⟨fun I v s₃ E' Q' _ hq => lets_name hq, fun C i v s₃ m₃ E' Q' _ hn₃ _ hq => bind_name hn₃ hq rfl rfl, fun C i v s₃ m₃ E' _ _ _ _ => wpAny_tests_nil ⟨rfl, Keeps.refl _⟩, fun lo C i v s₃ m₃ E' hP _ hn₃ hb₃ hk₃ _ hlo => ?_, ?_⟩
    · obtain ⟨p', hp1, hp2⟩ := hall₄.get i v (by simpa using hP)
      have hwp := hwt₃ p' (List.mem_of_getElem? hp1)
      have hdp := deep_le_wt p'
      have am3 := (amF F₄).keep (Keeps.keep hk₃)
      have hp3 := hp2.keep (Keeps.keep hk₃)
      have X : ∀ sc', Rd (compEnvC sc' [] C env) m₃ (fun _ => none) s₃.heap := fun sc' => comp_rd F₄.rd (Keeps.keep hk₃) hn₃ (fun n c e => by cases e)
      refine ev_call2 am3 (comp_ok hE) (g_thing w) rfl rfl (ev_local (X _) (comp_ok hE) hb₃ (wpAny_Constant_int ⟨am3, ?_⟩))
      refine thing_call (sizeOf p' + 1) p' (Nat.lt_succ_self _) (way := false) am3 hp3 hh (by show callerA.depth + 1 + deep p' < _; omega) (by omega) fun r s' hs' hT => ⟨⟨p', hp1, hT.keep hlo fun b o _ e => e⟩, Keeps.trans (Keeps.tok _ _) hs'⟩
    · rintro lo h h' i v y ⟨p, h1, h2⟩ hk
      exact ⟨p, h1, h2.keep (Nat.le_refl _) hk⟩
  intro D1 lo1 s₅ ys vs1 hD1 hDlo1 hk₅ hns₅ hpl₅ hlen1 hP1 hF1
  obtain ⟨hyl, hys⟩ := outs_all (P := fun i v => xs.toArray[i]? = some v) hlen1 hP1 hF1
  have hT1 : TAll s₅.heap lo1 false ys.toList qs := TAll.of (by rw [hyl, List.size_toArray, hxl]) fun j y hy => by
    obtain ⟨v, _, p, hp, hT⟩ := hys j y hy
    exact ⟨p, hp, hT⟩
  have kb45 := kb_but hk₅
  have hlt1 : env.locals < lo1 := Nat.lt_trans (Nat.lt_of_lt_of_le F₄.toInCall.ns.lt hD1) hDlo1
  have F₅ := F₄.but hns₅ hk₅
  have hpl₅D := F₄.plain_but hk₅ hpl₄
  have hall₅ := hall₄.keepS (F₄.keepS kb45.l a)
  -- twos
  obtain ⟨m₅, h5p, h5o, F₅⟩ : ∃ m₅ : Str → Option Value, m₅ "plans" = some (.ref D) ∧ m₅ "ones" = some (.ref D1) ∧ Inn s₁ env m₅ (fun _ => none) s₅ := ⟨_, by
    show (if _ then _ else _) = _
    rw [if_neg (by decide)]; exact h4a, by
    show (if _ then _ else _) = _
    rw [if_pos rfl], F₅⟩
  refine wpAny_execs_cons (comp_assign (y := "twos") rfl (by decide) rfl (by decide) ?_ (by rw [Env.kindOf, hE.sc]; rfl) (by rw [hE.sc]; rfl) (ev_local F₅.rd hE h5p ?_))
  · simp only [swapsWith, Env.blockKind, Env.kindOf, hE.sc]; rfl
  refine ⟨_, _, fun v mm => mm "plan" = some v, fun _ _ => true, fun lo h i v y => ∃ p, qs[i]? = some p ∧ TAt h lo true y p, m₅, ?_, F₅.toInCall.ns, itb_list (A := callerA.deeper env) hh hpl₅D.isList, ?_, ?_⟩
  · rw [List.size_toArray, hxl]; exact sz4 (by omega)
  · refine ⟨fun I v s₃ E' Q' _ hq => lets_name hq, fun C i v s₃ m₃ E' Q' _ hn₃ _ hq => bind_name hn₃ hq rfl rfl, fun C i v s₃ m₃ E' _ _ _ _ => wpAny_tests_nil ⟨rfl, Keeps.refl _⟩, fun lo C i v s₃ m₃ E' hP _ hn₃ hb₃ hk₃ _ hlo => ?_, ?_⟩
    · obtain ⟨p', hp1, hp2⟩ := hall₅.get i v (by simpa using hP)
      have hwp := hwt₃ p' (List.mem_of_getElem? hp1)
      have hdp := deep_le_wt p'
      have am3 := (amF F₅).keep (Keeps.keep hk₃)
      have hp3 := hp2.keep (Keeps.keep hk₃)
      have X : ∀ sc', Rd (compEnvC sc' [] C env) m₃ (fun _ => none) s₃.heap := fun sc' => comp_rd F₅.rd (Keeps.keep hk₃) hn₃ (fun n c e => by cases e)
      refine ev_call2 am3 (comp_ok hE) (g_thing w) rfl rfl (ev_local (X _) (comp_ok hE) hb₃ (wpAny_Constant_int ⟨am3, ?_⟩))
      refine thing_call (sizeOf p' + 1) p' (Nat.lt_succ_self _) (way := true) am3 hp3 hh (by show callerA.depth + 1 + deep p' < _; omega) (by omega) fun r s' hs' hT => ⟨⟨p', hp1, hT.keep hlo fun b o _ e => e⟩, Keeps.trans (Keeps.tok _ _) hs'⟩
    · rintro lo h h' i v y ⟨p, h1, h2⟩ hk
      exact ⟨p, h1, h2.keep (Nat.le_refl _) hk⟩
  intro D2 lo2 s₆ zs vs2 hD2 hDlo2 hk₆ hns₆ hpl₆ hlen2 hP2 hF2
  obtain ⟨hzl, hzs⟩ := outs_all (P := fun i v => xs.toArray[i]? = some v) hlen2 hP2 hF2
  have hT2 : TAll s₆.heap lo2 true zs.toList qs := TAll.of (by rw [hzl, List.size_toArray, hxl]) fun j y hy => by
    obtain ⟨v, _, p, hp, hT⟩ := hzs j y hy
    exact ⟨p, hp, hT⟩
  have kb56 := kb_but hk₆
  have hlt2 : env.locals < lo2 := Nat.lt_trans (Nat.lt_of_lt_of_le F₅.toInCall.ns.lt hD2) hDlo2
  have hfr : env.frame = some env.locals := by rw [← henv]; rfl
  have F₆ := F₅.but hns₆ hk₆
  have hpl₆D := F₅.plain_but hk₆ hpl₅D
  have hpl₆O := F₅.plain_but hk₆ hpl₅
  have hall₆ := hall₅.keepS (F₅.keepS kb56.l a)
  obtain ⟨m₆, h6p, h6o, h6t, F₆⟩ : ∃ m₆ : Str → Option Value, m₆ "plans" = some (.ref D) ∧ m₆ "ones" = some (.ref D1) ∧ m₆ "twos" = some (.ref D2) ∧ Inn s₁ env m₆ (fun _ => none) s₆ := ⟨_, by
    show (if _ then _ else _) = _
    rw [if_neg (by decide)]; exact h5p, by
    show (if _ then _ else _) = _
    rw [if_neg (by decide)]; exact h5o, by
    show (if _ then _ else _) = _
    rw [if_pos rfl], F₆⟩
  clear hF1 hF2 hP1 hP2 hns₅ hns₆ hys hzs F₂ F₃ F₄ F₅ hk₂ hk₃ hk₄ hk₅ hk₆ hall₂ hall₃ hall₄ hall₅ hpl₄ hpl₅ hpl₅D hplD
  have hyl' : ys.toList.length = qs.length := by rw [hyl, List.size_toArray, hxl]
  have hzl' : zs.toList.length = qs.length := by rw [hzl, List.size_toArray, hxl]
  have hDL : D ≠ env.locals := by obtain ⟨n, ho⟩ := hpl₆D; exact (F₆.notSeq ho ⟨_, _, rfl⟩).1
  have hD1L : D1 ≠ env.locals := by obtain ⟨n, ho⟩ := hpl₆O; exact (F₆.notSeq ho ⟨_, _, rfl⟩).1
  have hD2L : D2 ≠ env.locals := by obtain ⟨n, ho⟩ := hpl₆; exact (F₆.notSeq ho ⟨_, _, rfl⟩).1
  have hz7 : xs.toArray.size ≤ 4000 := by rw [List.size_toArray, hxl]; omega
  have kb6 : KB env.locals s₅.heap s₆.heap := kb56
  -- the outer loop
  refine wpAny_execs_cons (for_each (s₀ := s₁) hE (ev_ty1 (amF F₆) hE (g_range w) b_range (ev_bi1 (amF F₆) hE (g_len w) b_len (ev_local F₆.rd hE h6p (call_len hpl₆D.isList hz7 fun t7 s7 hk7 => call_range fun r s8 tt tu tv hk8 hr8 hR => ?_)))))
  have F₈ := (F₆.kept hk7).kept hk8
  have hLr : env.locals < r := Nat.lt_of_lt_of_le (F₆.kept hk7).toInCall.ns.lt hr8
  refine ⟨_, _, fun i m' cm' s' => cm' = (fun _ => none) ∧ m' "plans" = some (.ref D) ∧ m' "ones" = some (.ref D1) ∧ m' "twos" = some (.ref D2) ∧ KB env.locals s₆.heap s'.heap, [], m₆, fun _ => none, F₈, itf_range (A := callerA.deeper env) hh hR hz7, ?_, nofun,
    ⟨rfl, h6p, h6o, h6t, (Keeps.keep (Keeps.trans hk7 hk8)).kb⟩, ?_, ?_, ?_⟩
  · rintro b hb
    cases hb
    exact ⟨Nat.ne_of_gt hLr, fun n c e => (by rw [hcl] at e; cases e), nofun⟩
  · rintro i m' cm' s' s'' ⟨a1, a2, a3, a4, kb⟩ kn
    exact ⟨a1, a2, a3, a4, kb.keepN (fun b o e => Heap.lt_size (Keeps.keep (Keeps.trans hk7 hk8) b o e)) kn⟩
  · rintro i v m' mI cm' s₂ sI hi ⟨ti, rfl⟩ ⟨rfl, a2, a3, a4, kb⟩ FI hiI hoth _ hkl
    have kbI : KB env.locals s₆.heap sI.heap := kb.trans (hkl.kb hcl)
    have i2 := (hoth "plans" (by decide)).trans a2
    have i3 := (hoth "ones" (by decide)).trans a3
    have i4 := (hoth "twos" (by decide)).trans a4
    clear a2 a3 a4 hoth hkl kb
    refine wpAny_execs_cons (for_each (s₀ := s₁) hE (ev_ty1 (amF FI) hE (g_range w) b_range (ev_bi1 (amF FI) hE (g_len w) b_len (ev_local FI.rd hE i2 (call_len (kbI.list hDL hpl₆D.isList) hz7 fun t9 s9 hk9 => call_range fun r' sA tt' tu' tv' hkA hrA hRA => ?_)))))
    have FA := (FI.kept hk9).kept hkA
    have hLrA : env.locals < r' := Nat.lt_of_lt_of_le (FI.kept hk9).toInCall.ns.lt hrA
    refine ⟨_, _, fun k m' cm' s' => cm' = (fun _ => none) ∧ m' "plans" = some (.ref D) ∧ m' "ones" = some (.ref D1) ∧ m' "twos" = some (.ref D2) ∧ m' "i" = some (.int i ti) ∧ KB env.locals sI.heap s'.heap, [], mI, fun _ => none, FA, itf_range (A := callerA.deeper env) hh hRA hz7, ?_, nofun,
      ⟨rfl, i2, i3, i4, hiI, (Keeps.keep (Keeps.trans hk9 hkA)).kb⟩, ?_, ?_, ?_⟩
    · rintro b hb
      cases hb
      exact ⟨Nat.ne_of_gt hLrA, fun n c e => (by rw [hcl] at e; cases e), nofun⟩
    · rintro k m' cm' s' s'' ⟨a1, a2, a3, a4, a5, kb⟩ kn
      exact ⟨a1, a2, a3, a4, a5, kb.keepN (fun b o e => Heap.lt_size (Keeps.keep (Keeps.trans hk9 hkA) b o e)) kn⟩
    · rintro k v m' mK cm' s₂ sK hk ⟨tk, rfl⟩ ⟨rfl, a2, a3, a4, a5, kb⟩ FK hkK hoth _ hkl
      have kbIK : KB env.locals sI.heap sK.heap := kb.trans (hkl.kb hcl)
      have kbK : KB env.locals s₆.heap sK.heap := kbI.trans kbIK
      have k2 := (hoth "plans" (by decide)).trans a2
      have k3 := (hoth "ones" (by decide)).trans a3
      have k4 := (hoth "twos" (by decide)).trans a4
      have k5 := (hoth "i" (by decide)).trans a5
      clear a2 a3 a4 a5 hoth hkl kb
      rw [List.size_toArray, hxl] at hi hk
      obtain ⟨p, hp⟩ : ∃ p, qs[i]? = some p := ⟨_, List.getElem?_eq_getElem hi⟩
      obtain ⟨q, hq⟩ : ∃ q, qs[k]? = some q := ⟨_, List.getElem?_eq_getElem hk⟩
      obtain ⟨yv, hyv⟩ : ∃ yv, ys.toList[i]? = some yv := ⟨_, List.getElem?_eq_getElem (by omega)⟩
      obtain ⟨zv, hzv⟩ : ∃ zv, zs.toList[k]? = some zv := ⟨_, List.getElem?_eq_getElem (by omega)⟩
      obtain ⟨xi, hxi⟩ : ∃ xi, xs[i]? = some xi := ⟨_, List.getElem?_eq_getElem (by omega)⟩
      obtain ⟨xk, hxk⟩ : ∃ xk, xs[k]? = some xk := ⟨_, List.getElem?_eq_getElem (by omega)⟩
      obtain ⟨p', hp', hTy⟩ := hT1.get i yv hyv
      rw [hp] at hp'; cases hp'
      obtain ⟨q', hq', hTz⟩ := hT2.get k zv hzv
      rw [hq] at hq'; cases hq'
      obtain ⟨p', hp', hPi⟩ := hall₆.get i xi hxi
      rw [hp] at hp'; cases hp'
      obtain ⟨q', hq', hPk⟩ := hall₆.get k xk hxk
      rw [hq] at hq'; cases hq'
      have hwp := hwt₃ p (List.mem_of_getElem? hp)
      have hwq := hwt₃ q (List.mem_of_getElem? hq)
      have hdp := deep_le_wt p
      have ity : ItemAt ys (i : Int) yv := .inl ⟨by omega, by omega, by simpa using hyv⟩
      have itz : ItemAt zs (k : Int) zv := .inl ⟨by omega, by omega, by simpa using hzv⟩
      have itxi : ItemAt xs.toArray (i : Int) xi := .inl ⟨by omega, by omega, by simpa using hxi⟩
      have itxk : ItemAt xs.toArray (k : Int) xk := .inl ⟨by omega, by omega, by simpa using hxk⟩
      refine wpAny_execs_cons (wpAny_mono (Q := fun f s' => f = .next ∧ ∃ m' r, Inn s₁ env m' (fun _ => none) s' ∧ m' "told" = some r ∧ ordV (cmpP p q) r ∧ (∀ y, y ≠ Str.ofString "told" → m' y = mK y) ∧ KB env.locals sK.heap s'.heap) ?_ (fun f s' hpost => ?_) fun _ _ e => e)
      · refine wpAny_Try_except (wpAny_execs_cons (wpAny_Assign_Name (ev_call2 (amF FK) hE (g_cmp w) rfl rfl (sub_item (ev_local FK.rd hE k3 (ev_local FK.rd hE k5 ⟨_, _, _, _, _, rfl, rfl, kbK.list hD1L hpl₆O.isList, ity, sub_item (ev_local FK.rd hE k4 (ev_local FK.rd hE hkK ⟨_, _, _, _, _, rfl, rfl, kbK.list hD2L hpl₆.isList, itz, amF FK, ?_⟩))⟩))))))
        refine cmp_call (base := s₁.heap) (outer := [env]) (h1 := hideAll s₅.heap [env.locals]) (p := p) (q := q) (lo := lo1) (lo' := lo2) ?_ (amF FK) hh (by show callerA.depth + 1 < _; omega) (by show callerA.units + 3 + _ + _ < _; omega) ?_ ?_ (KB.keep (kb6.trans kbK)) ?_ ?_ ?_ (fun c t s' hc hk => ?_) fun hc e h' tk news R hnews hsm => ?_
        · subst henv; exact K0.push FK.fr
        · refine hTy.keep (Nat.le_refl _) fun b o hb e => hideAll_get _ e fun hm => ?_
          rw [List.mem_singleton] at hm
          exact Nat.lt_irrefl _ (Nat.lt_of_lt_of_le (hm ▸ hlt1) hb)
        · exact hTz.keep (Nat.le_refl _) fun b o hb e => kbK b o (fun e1 => Nat.lt_irrefl _ (Nat.lt_of_lt_of_le (e1 ▸ hlt2) hb)) e
        · rw [hideAll_size]; exact Nat.le_of_lt (Nat.lt_of_le_of_lt hD2 hDlo2)
        · exact Nat.lt_trans (Nat.lt_of_lt_of_le hs1 F₆.toInCall.fresh) hlt1
        · exact Nat.lt_trans (Nat.lt_of_lt_of_le hs1 F₆.toInCall.fresh) hlt2
        · exact st_local (FK.kept hk) hE fun s₂ m₂ F₂ b1 b2 b3 => wpAny_execs_nil (wpAny_execs_nil ⟨rfl, m₂, _, F₂, b1, by rw [hc]; exact ⟨t, rfl⟩, b2, ((Keeps.keep hk).kb).trans (b3.kb hcl)⟩)
        · refine catch1 henv K0 T h2 h3 h4 h4c FK.fr hsm R (fun h'' Fh Nh => ?_) (fun _ _ x => x) rfl rfl
          have kbh : KB env.locals sK.heap h'' := fun b o hb e => by
            cases hq0 : s₁.heap.get? b with
            | none => exact (Nh (b, o) (hnews b o e hq0 (by simp [hfr]; exact hb))).1
            | some o' =>
              have e1 := FK.toInCall.keep b o' hq0
              rw [e] at e1; cases e1
              exact Fh.keep b o hq0
          have Fn : Inn s₁ env mK (fun _ => none) { sK with heap := h'', toks := tk } := Inn.ofFr hcl Fh (by obtain ⟨h, tk', e⟩ := FK.toInCall.same; rw [e]; exact ⟨h'', tk, rfl⟩)
          exact wpAny_execs_cons (wpAny_Assign_Name (Constant_str (st_local (Fn.tok _) hE fun s₂ m₂ F₂ b1 b2 b3 => wpAny_execs_nil ⟨rfl, m₂, _, F₂, b1, by rw [hc]; exact ⟨_, rfl⟩, b2, kbh.trans (b3.kb hcl)⟩)))
      · obtain ⟨rfl, mT, rT, FT, hT, hordT, hothT, kbT⟩ := hpost
        show wpAny _ _ (execs _ env) _ _ _
        have t2 := (hothT "plans" (by decide)).trans k2
        have t3 := (hothT "ones" (by decide)).trans k3
        have t4 := (hothT "twos" (by decide)).trans k4
        have t5 := (hothT "i" (by decide)).trans k5
        have t6 := (hothT "k" (by decide)).trans hkK
        have kb6T := kbK.trans kbT
        have hPi' := hPi.keepS (F₆.keepS kb6T.l a)
        have hPk' := hPk.keepS (F₆.keepS kb6T.l a)
        refine wpAny_execs_cons (wpAny_Assign_Name (ev_call2 (amF FT) hE (g_order w) rfl rfl (sub_item (ev_local FT.rd hE t2 (ev_local FT.rd hE t5 ⟨_, _, _, _, _, rfl, rfl, kb6T.list hDL hpl₆D.isList, itxi, sub_item (ev_local FT.rd hE t2 (ev_local FT.rd hE t6 ⟨_, _, _, _, _, rfl, rfl, kb6T.list hDL hpl₆D.isList, itxk, amF FT, ?_⟩))⟩)))))
        refine order_call (sizeOf p + 1) p q (Nat.lt_succ_self _) (amF FT) hPi' hPk' hh (by show callerA.depth + 1 + _ + _ < _; omega) (by show callerA.units + 3 + _ + _ < _; omega) (by omega) (by omega) fun r' s₂ hk₂ hr' => ?_
        refine st_local (FT.kept hk₂) hE fun s₃ m₃ F₃ c1 c2 c3 => ?_
        have hT3 : m₃ "told" = some rT := (c2 "told" (by decide)).trans hT
        have kb3 : KB env.locals sK.heap s₃.heap := kbT.trans (((Keeps.keep hk₂).kb).trans (c3.kb hcl))
        have t2' := (c2 "plans" (by decide)).trans t2
        have t3' := (c2 "ones" (by decide)).trans t3
        have t4' := (c2 "twos" (by decide)).trans t4
        have t5' := (c2 "i" (by decide)).trans t5
        refine wpAny_execs_cons (wpAny_If (isTrue_or (wpAny_isTrue_Compare1 (ev_local F₃.rd hE hT3 (ev_local F₃.rd hE c1 (ne_told hordT hr' (wpAny_truthy_bool ?_)))))))
        rw [if_neg (by decide)]
        refine isTrue_or (wpAny_mono (Q := fun c s4 => c = false ∧ Keeps s₃ s4) ?_ (fun c s4 h4 => ?_) fun _ _ e => e)
        · refine isTrue_and (wpAny_isTrue_Compare1 (ev_local F₃.rd hE c1 (Constant_str ?_)))
          cases hcm : cmpP p q with
          | some c =>
            rw [hcm] at hordT hr'
            obtain ⟨u1, rfl⟩ := hordT
            obtain ⟨u2, rfl⟩ := hr'
            refine EqMixed.ne_int_str (wpAny_truthy_bool ?_)
            rw [if_pos rfl]
            refine isTrue_and (wpAny_isTrue_Compare1 (ev_ty1 (amF (F₃.tok _)) hE (g_type w) b_type (ev_local (F₃.tok _).rd hE hT3 (call_type_of (typeIs_int _ _ _) (by decide) (ev_builtin (amF (F₃.tok _)) hE (g_int w) b_int (ne_type_int (wpAny_truthy_bool ?_)))))))
            rw [if_neg (by decide)]
            exact ⟨rfl, Keeps.tok _ _⟩
          | none =>
            rw [hcm] at hordT hr'
            obtain ⟨u1, rfl⟩ := hordT
            obtain ⟨u2, rfl⟩ := hr'
            refine P.ne_str (wpAny_truthy_bool ?_)
            rw [if_neg (by decide)]
            exact ⟨rfl, Keeps.tok _ _⟩
        · obtain ⟨rfl, hk4⟩ := h4
          rw [if_neg (by decide)]
          refine isTrue_or_nil ?_
          rw [if_neg (by decide)]
          have F4 := F₃.kept hk4
          have kb4 : KB env.locals sK.heap s4.heap := kb3.trans (Keeps.keep hk4).kb
          exact wpAny_execs_nil (wpAny_execs_nil ⟨m₃, _, F4, kb4.w _, rfl, t2', t3', t4', t5', kbIK.trans kb4⟩)
    · rintro m3 cm3 s3 F3 ⟨rfl, b1, b2, b3, _, kb3⟩
      exact wpAny_execs_nil ⟨m3, _, F3, kb3.w _, rfl, b1, b2, b3, kbI.trans kb3⟩
  · rintro m' cm' s' F' ⟨rfl, _, _, _, _⟩
    exact wpAny_execs_cons (wpAny_Return_some (Constant_bool (hQ _ _ F')))
end Mine

namespace Mine
open PySem.Calls

theorem Inn.app {s₀ s : Shared} {env : Env} {m cm : Str → Option Value} {D : Addr} {h' : Heap} (F : Inn s₀ env m cm s) (hs : Heap.SameBut D s.heap h') (hD : s₀.heap.objs.size ≤ D) (hL : D ≠ env.locals) (hc : ∀ n c, env.cells.lookup n = some c → D ≠ c) : Inn s₀ env m cm { s with heap := h' } := by
  refine ⟨⟨?_, F.toInCall.ns.at' fun o e => hs.extBut _ o (Ne.symm hL) e, fun b o e => hs.extBut b o (Nat.ne_of_lt (Nat.lt_of_lt_of_le (Heap.lt_size e) hD)) (F.toInCall.keep b o e), F.toInCall.fresh⟩, fun n c e => ?_, F.apart, F.above⟩
  · obtain ⟨h, tk, rfl⟩ := F.toInCall.same
    exact ⟨h', _, rfl⟩
  · obtain ⟨o, ho, hd⟩ := F.cell n c e
    exact ⟨o, hs.extBut _ o (Ne.symm (hc n c e)) ho, hd⟩

theorem fmod_bounds (a : Int) {b : Int} (hb : 0 < b) : 0 ≤ a.fmod b ∧ a.fmod b < b := ⟨Int.fmod_nonneg_of_pos a hb, Int.fmod_lt_of_pos a hb⟩
theorem fdiv_le {a : Int} (h0 : 0 ≤ a) : 0 ≤ a.fdiv 3 ∧ 3 * a.fdiv 3 ≤ a := by
  rw [Int.fdiv_eq_ediv_of_nonneg a (by decide)]
  omega

section
variable {prog : Program} {w : World} {A : Around} {E : Value → Shared → Prop} {s : Shared} {Q : Value → Shared → Prop}
theorem floordiv_small {a b : Int} {t u : Tok} (hb : b ≠ 0) (hs : b.natAbs < 2 ^ 64) (h : Q (.int (a.fdiv b) s.toks) { s with toks := s.toks + 1 }) : wpAny (model prog w) A (binaryOp .FloorDiv (.int a t) (.int b u)) Q E s :=
  floordiv_int hb h (.inl (PyProof.noPylong_of_log2 (by
    have h0 : b.natAbs ≠ 0 := by omega
    exact Nat.lt_trans ((Nat.log2_lt h0).mpr hs) (by decide))))
theorem list_append {env : Env} {sc : Scope} {m cm : Str → Option Value} {s₀ : Shared} {D : Addr} {vs : List Value} {v : Value} {QU : Value → Shared → Prop} (hl : s.heap.PlainList D vs.toArray) (hsz : vs.length ≤ 4000)
    (h : ∀ h', h'.PlainList D (vs ++ [v]).toArray → Heap.SameBut D s.heap h' → QU .none { s with heap := h' }) : wpAny (model prog w) A (call (.builtin "list.append") [.ref D, v]) QU E s := by
  refine wpAny_list_append_plain hl (fun h' hp hs => h h' ?_ hs) (by rw [List.size_toArray]; exact sz4 hsz)
  have e : vs.toArray.push v = (vs ++ [v]).toArray := by simp
  rw [← e]; exact hp

theorem codes_snoc {cs : List Nat} {vs : List Value} {r : Int} {t : Tok} (hi : IntsAre vs (cs.map fun (c : Nat) => (c : Int))) (h0 : 0 ≤ r) : IntsAre (vs ++ [Value.int r t]) ((cs ++ [r.toNat]).map fun (c : Nat) => (c : Int)) := by
  rw [List.map_append]
  refine IntsAre.append hi ?_
  have e : ((r.toNat : Nat) : Int) = r := Int.toNat_of_nonneg h0
  simp only [List.map_cons, List.map_nil, e]
  exact .cons _ _ .nil

set_option maxHeartbeats 1000000 in
theorem signs_call {n : Int} {t : Tok} (am : Amb w s.heap) (hd : A.depth < recursionLimit) (h0 : 0 ≤ n) (h1 : n ≤ 120)
    (h : ∀ a s' vs cs, Keeps s s' → s.heap.objs.size ≤ a → s'.heap.PlainList a (vs : List Value).toArray → IntsAre vs ((cs : List Nat).map fun (c : Nat) => (c : Int)) → TextOk cs → Q (.ref a) s') :
    wpAny (model prog w) A (call (.ref 28) [.int n t]) Q E s := by
  refine call_fn1 (n := "n") am rfl rfl rfl rfl rfl ⟨_, _, rfl, rfl⟩ rfl (.inl rfl) hd ?_
  intro env s₁ m cm hE hcl hL F hb
  have hm := hb.loc rfl
  have hcl' : env.cells = [] := by rw [hcl]; rfl
  have amF : ∀ {s' : Shared} {m' : Str → Option Value}, Inn s env m' cm s' → Amb w s'.heap := fun F' => am.keep (Keeps.keep F'.done)
  refine wpAny_execs_cons (wpAny_Assign_Name (List_ (args_nil (new_list (fun D s₂ hk₂ hD hpl => ?_) (sz4 (by simp))))))
  have F₂ := F.kept hk₂
  have hDL : D ≠ env.locals := Nat.ne_of_gt (Nat.lt_of_lt_of_le F.toInCall.ns.lt hD)
  have hsD : s.heap.objs.size ≤ D := Nat.le_trans (by rw [← hL]; exact Nat.le_of_lt F.toInCall.ns.lt) hD
  refine st_local F₂ hE fun s₃ m₃ F₃ h3a h3b hk₃ => ?_
  have hpl₃ := F₂.keepPlain hk₃ hpl
  refine wpAny_execs_cons (wpAny_While (codeAny_whileLoop (fun k s' => ∃ m' n' t' vs cs, Inn s env m' cm s' ∧ m' "n" = some (.int n' t') ∧ m' "signs" = some (.ref D) ∧ s'.heap.PlainList D (vs : List Value).toArray ∧ IntsAre vs ((cs : List Nat).map fun (c : Nat) => (c : Int)) ∧
    (∀ c ∈ cs, c ≤ 1114111) ∧ 0 ≤ n' ∧ ((cs.length = 0 ∧ n' ≤ 120) ∨ (cs.length : Int) + n' ≤ 41) ∧ k = n'.toNat) ?_ n.toNat ⟨m₃, n, t, [], [], F₃, (h3b "n" (by decide)).trans hm, h3a, hpl₃, .nil, by simp, h0, .inl ⟨rfl, h1⟩, rfl⟩))
  rintro k s' ⟨m', n', t', vs, cs, F', hn', hs', hpl', hi', hc', h0', hb', rfl⟩
  refine wpAny_isTrue_Compare1 (ev_local F'.rd hE hn' (wpAny_Constant_int (P.gt_int (wpAny_truthy_bool ?_))))
  by_cases hpos : n' > 0
  · rw [decide_eq_true hpos, if_pos rfl]
    refine wpAny_execs_cons (wpAny_Assign_Name (wpAny_BinOp (ev_local (F'.tok _).rd hE hn' (wpAny_Constant_int (P.sub_int (st_local ((F'.tok _).tok _) hE fun s₄ m₄ F₄ h4a h4b hk₄ => ?_))))))
    have hpl₄ : s₄.heap.PlainList D vs.toArray := F'.keepPlain hk₄ hpl'
    have hs4 := (h4b "signs" (by decide)).trans hs'
    obtain ⟨nn, ho₄⟩ := id hpl₄
    refine wpAny_execs_cons (wpAny_Expr (MethodCall_ (ev_local F₄.rd hE hs4 (getMethod_list_append ho₄ rfl rfl (callWith_method1 (args_cons ?_ rfl) rfl rfl)))) (by simp only [interactive, hE.sc]; rfl))
    refine sub_item (List_ (args_cons (wpAny_Constant_int (args_cons (wpAny_Constant_int (args_cons (wpAny_Constant_int (args_nil (new_list (fun aT s₅ hk₅ haT hplT => ?_) (sz4 (by simp))))) rfl)) rfl)) rfl))
    have hk45 : Keeps s₄ s₅ := Keeps.trans (Keeps.tok s₄ _) hk₅
    have F₅ := F₄.kept hk45
    refine wpAny_BinOp (ev_local F₅.rd hE h4a (wpAny_Constant_int (mod_int' (by decide) ?_)))
    obtain ⟨hr0, hr1⟩ := fmod_bounds (n' - 1) (b := 3) (by decide)
    have hv : ∀ (a b c : Tok), ∃ r u, ItemAt #[Value.int 97 a, Value.int 90 b, Value.int 8364 c] ((n' - 1).fmod 3) (Value.int r u) ∧ 0 ≤ r ∧ r ≤ 8364 := by
      intro a b c
      generalize (n' - 1).fmod 3 = r at hr0 hr1
      have h3 : r = 0 ∨ r = 1 ∨ r = 2 := by omega
      rcases h3 with rfl | rfl | rfl
      · exact ⟨97, a, .inl ⟨by decide, by decide, rfl⟩, by decide, by decide⟩
      · exact ⟨90, b, .inl ⟨by decide, by decide, rfl⟩, by decide, by decide⟩
      · exact ⟨8364, c, .inl ⟨by decide, by decide, rfl⟩, by decide, by decide⟩
    obtain ⟨r, u, hit, hrl, hru⟩ := hv _ _ _
    refine ⟨_, _, _, _, _, rfl, rfl, hplT.isList, hit, args_nil ?_⟩
    have hpl₅ : s₅.heap.PlainList D vs.toArray := hpl₄.at fun o e => Keeps.keep hk45 _ o e
    have hvl : vs.length = cs.length := by rw [hi'.length, List.length_map]
    refine list_append (s₀ := s) (env := env) (sc := default) (m := m₄) (cm := cm) hpl₅ (by omega) fun h₆ hpl₆ hs₆ => ?_
    have F₆ : Inn s env m₄ cm { s₅ with heap := h₆, toks := s₅.toks + 1 + 1 } := (F₅.tok _).app hs₆ hsD hDL (fun n c e => by rw [hcl'] at e; cases e)
    refine wpAny_execs_cons (wpAny_Assign_Name (wpAny_BinOp (ev_local F₆.rd hE h4a (wpAny_Constant_int (floordiv_small (by decide) (by decide) (st_local (F₆.tok _) hE fun s₇ m₇ F₇ h7a h7b hk₇ => wpAny_execs_nil ?_))))))
    obtain ⟨hd0, hd1⟩ := fdiv_le (a := n' - 1) (by omega)
    refine ⟨_, ?_, m₇, _, _, vs ++ [.int r u], cs ++ [r.toNat], F₇, h7a, (h7b "signs" (by decide)).trans hs4, F₆.keepPlain hk₇ hpl₆, codes_snoc hi' hrl, ?_, hd0, ?_, rfl⟩
    · omega
    · intro c hc
      rcases List.mem_append.mp hc with hc | hc
      · exact hc' c hc
      · rw [List.mem_singleton] at hc; omega
    · rw [List.length_append, List.length_singleton]
      push_cast
      omega
  · rw [decide_eq_false hpos, if_neg (by decide)]
    refine wpAny_execs_nil ?_
    refine wpAny_execs_cons (wpAny_Return_some (ev_local (F'.tok _).rd hE hs' ?_))
    exact h D _ vs cs (F'.tok _).done hsD hpl' hi' ⟨by omega, hc'⟩
end
end Mine

namespace Mine
open PySem.Calls

theorem g_signs (w : World) : nsIn (KF w) mainGlobals "_law_signs" = some (some (.ref 28)) := by kernel_rfl

theorem Itb.bound {prog : Program} {w : World} {A : Around} {s₁ : Shared} {xv : Value} {n : Nat} {P : Nat → Value → Prop} (h : Itb prog w A s₁ xv n P) : Itb prog w A s₁ xv n (fun i v => i < n ∧ P i v) := by
  intro Q E hq
  refine h Q E fun I s₂ fp wr St a1 a2 W a4 a5 a6 a7 => hq I s₂ fp wr St a1 a2 ⟨W.sub, W.frame, fun i s Q E hi st hQ => W.item i s Q E hi st fun v h' tk hP => hQ v h' tk ⟨hi, hP⟩, W.done, W.self⟩ a4 a5 a6 a7

section
variable {prog : Program} {w : World} {A : Around} {E : Value → Shared → Prop} {s : Shared} {env : Env} {sc : Scope} {m cm : Str → Option Value} {Q : Value → Shared → Prop}
theorem add_list2 {l b : Addr} {vs ws : List Value} (hl : s.heap.IsList l vs.toArray) (hb : s.heap.IsList b ws.toArray) (hsz : vs.length + ws.length ≤ 4000)
    (h : ∀ a s', Keeps s s' → s.heap.objs.size ≤ a → s'.heap.PlainList a (vs ++ ws).toArray → Q (.ref a) s') : wpAny (model prog w) A (binaryOp .Add (.ref l) (.ref b)) Q E s := by
  obtain ⟨⟨cls, dd, data, sl⟩, ho, hc, n, hd⟩ := id hl
  obtain ⟨⟨cls2, dd2, data2, sl2⟩, ho2, hc2, n2, hd2⟩ := id hb
  simp only at hc hd hc2 hd2
  subst hc hd hc2 hd2
  have e : vs.toArray ++ ws.toArray = (vs ++ ws).toArray := by simp
  refine concat_meets ⟨_, ho, rfl⟩ ⟨_, ho2, rfl⟩ noFill_list_add seq_list_add PySem.F.slot_list_add PySem.F.entry_list_add (PySem.F.args_list_add_2 _ _) (list_addW l b vs.toArray ws.toArray n n2 dd dd2 sl sl2 (by simpa using sz4 hsz)) ⟨ho, ho2, ?_⟩
  rw [e]
  exact h _ _ ⟨_, _, rfl, fun b o e => Heap.get?_push_of_some _ e⟩ (Nat.le_refl _) ⟨_, Heap.get?_push_size _ rfl⟩
theorem execs_one {st : Stmt} {R : Flow → Shared → Prop} (h : wpAny (model prog w) A (exec st env) R E s) : wpAny (model prog w) A (execs [st] env) R E s := by
  refine wpAny_execs_cons (wpAny_mono h (fun f s' hq => ?_) fun _ _ e => e)
  cases f with
  | next => exact wpAny_execs_nil hq
  | cont => exact hq
  | brk => exact hq
  | ret v => exact hq
theorem if_eq {x : Str} {k kd : Int} {i : Nat} {t : Tok} {p1 p2 p3 pos : Pos} {body orelse : List Stmt} {R : Flow → Shared → Prop} (X : Rd env m cm s.heap) (hE : EnvOk env sc) (hm : m x = some (.int kd t))
    (h : ∀ s', Keeps s s' → if (kd == k) = true then wpAny (model prog w) A (execs body env) R E s' else wpAny (model prog w) A (execs orelse env) R E s')
    (hk : sc.kind = .function := by rfl) (hl : sc.names.lookup x = some .local := by rfl) (hd : (x == ("__debug__" : Str)) = false := by decide) :
    wpAny (model prog w) A (exec (.If (.Compare (.Name x p1) [.Eq] [.Constant (.int k) i p2] p3) body orelse pos) env) R E s :=
  wpAny_If (wpAny_isTrue_Compare1 (ev_local X hE hm (wpAny_Constant_int (P.eq_int (wpAny_truthy_bool (h _ (Keeps.tok _ _))))) hk hl hd))
theorem ev_pair {k : Str} {i : Nat} {p pos : Pos} {e : Expr} (h : ∀ t s', Keeps s s' → wpAny (model prog w) A (eval e env) (fun c s₁ => ∀ a s₂, Keeps s₁ s₂ → s₁.heap.objs.size ≤ a → s₂.heap.IsList a #[.str k t, c] → Q (.ref a) s₂) E s')
    (he : starEach [.Constant (.str k) i p, e] env = (false, eval (.Constant (.str k) i p) env) :: starEach [e] env := by rfl) (he' : starEach [e] env = [(false, eval e env)] := by rfl) :
    wpAny (model prog w) A (eval (.List [.Constant (.str k) i p, e] pos) env) Q E s := by
  refine List_ (args_cons (Constant_str (args_cons (wpAny_mono (h _ _ (Keeps.tok _ _)) (fun c s₁ h₁ => args_nil (new_list (fun a s₂ hk ha hpl => h₁ a s₂ hk ha hpl.isList) (sz4 (by simp)))) fun _ _ x => x) he')) he)
end

theorem outs_pass {n : Nat} {pass : Nat → Bool} {G : Nat → Value → Value → Prop} {P : Nat → Value → Prop} {vs' : List (Nat × Value)} {ys : List Value} (hlen : vs'.length = n) (hP : ∀ (j : Nat) (q : Nat × Value), vs'[j]? = some q → q.1 = j ∧ P j q.2) (hF : Paired (Fi G) (vs'.filter (pi fun i _ => pass i)) ys) :
    Paired (fun (i : Nat) y => ∃ v, P i v ∧ G i v y) ((List.range n).filter pass) ys := by
  have e1 : vs'.map (·.1) = List.range n := by
    refine List.ext_getElem? fun j => ?_
    rw [List.getElem?_map]
    cases hj : vs'[j]? with
    | none =>
      have := List.getElem?_eq_none_iff.mp hj
      rw [hlen] at this
      rw [List.getElem?_eq_none (by simpa using this)]; rfl
    | some q =>
      have h1 := (hP j q hj).1
      have h2 : j < n := by rw [← hlen]; exact (List.getElem?_eq_some_iff.mp hj).1
      rw [List.getElem?_range h2]; simp [h1]
  have hall : ∀ q ∈ vs', P q.1 q.2 := fun q hq => by
    obtain ⟨j, hj⟩ := List.getElem?_of_mem hq
    obtain ⟨h1, h2⟩ := hP j q hj
    rw [h1]; exact h2
  have e2 : ∀ {l : List (Nat × Value)} {ys : List Value}, (∀ q ∈ l, P q.1 q.2) → Paired (Fi G) l ys → Paired (fun (i : Nat) y => ∃ v, P i v ∧ G i v y) (l.map (·.1)) ys := by
    intro l
    induction l with
    | nil => intro ys _ h; cases h; exact .nil
    | cons q l ih =>
      intro ys ha h
      cases h with
      | cons h1 h2 => exact .cons ⟨q.2, ha q List.mem_cons_self, h1⟩ (ih (fun q' hq' => ha q' (List.mem_cons_of_mem _ hq')) h2)
  have e3 := e2 (fun q hq => hall q (List.mem_filter.mp hq).1) hF
  have e4 : (vs'.filter (pi fun i _ => pass i)).map (·.1) = (List.range n).filter pass := by
    rw [← e1, List.filter_map]; rfl
  rw [e4] at e3
  exact e3
theorem paired_ints : ∀ {is : List Nat} {ys : List Value}, Paired (fun (i : Nat) y => ∃ t, y = Value.int (i : Int) t) is ys → IntsAre ys (is.map fun (i : Nat) => (i : Int))
  | _, _, .nil => .nil
  | _, _, .cons ⟨t, e⟩ r => by subst e; exact .cons _ _ (paired_ints r)
theorem paired_pairs {h : Heap} {bad : Addr} {x : Int} : ∀ {is : List Nat} {ys : List Value}, Paired (fun (i : Nat) y => ∃ c t t', y = Value.ref c ∧ c ≠ bad ∧ h.IsList c #[.int (i : Int) t, .int x t']) is ys → PairsAre h bad ys (is.map fun (i : Nat) => ((i : Int), x))
  | _, _, .nil => .nil
  | _, _, .cons ⟨c, t, t', e, hb, hl⟩ r => by subst e; exact .cons hb hl (paired_pairs r)
theorem range_setKs (pass : Nat → Bool) : ((List.range 4).filter pass).map (fun (i : Nat) => (i : Int)) = setKs (pass 0) (pass 1) (pass 2) (pass 3) := by
  have e : List.range 4 = [0, 1, 2, 3] := rfl
  rw [e]
  cases h0 : pass 0 <;> cases h1 : pass 1 <;> cases h2 : pass 2 <;> cases h3 : pass 3 <;> simp [List.filter_cons, h0, h1, h2, h3, setKs]
theorem range_tabKvs (pass : Nat → Bool) (v : Bool) : ((List.range 2).filter pass).map (fun (i : Nat) => ((i : Int), b2n v)) = tabKvs (pass 0) (pass 1) v := by
  have e : List.range 2 = [0, 1] := rfl
  rw [e]
  cases h0 : pass 0 <;> cases h1 : pass 1 <;> simp [List.filter_cons, h0, h1, tabKvs, tabKs]
theorem PAll.of {h : Heap} {bad : Addr} {Pr : Plan → Prop} : ∀ {vs : List Value}, (∀ v ∈ vs, ∃ p, Pr p ∧ PAt h bad v p) → ∃ ps, PAll h bad vs ps ∧ (∀ p ∈ ps, Pr p) ∧ ps.length = vs.length
  | [], _ => ⟨[], .nil, nofun, rfl⟩
  | v :: vs, hv => by
    obtain ⟨p, h1, h2⟩ := hv v List.mem_cons_self
    obtain ⟨ps, a1, a2, a3⟩ := PAll.of (vs := vs) fun v' h' => hv v' (List.mem_cons_of_mem _ h')
    refine ⟨p :: ps, .cons h2 a1, fun q hq => ?_, by simp [a3]⟩
    rcases List.mem_cons.mp hq with rfl | hq
    · exact h1
    · exact a2 q hq
theorem wts_le {k : Nat} : ∀ {ps : List Plan}, (∀ p ∈ ps, wt p ≤ k) → wts ps ≤ k * ps.length
  | [], _ => by simp [wts]
  | p :: ps, h => by
    have h1 := h p List.mem_cons_self
    have h2 := wts_le (ps := ps) fun q hq => h q (List.mem_cons_of_mem _ hq)
    simp only [wts, List.length_cons, Nat.mul_add, Nat.mul_one]; omega
theorem wts_append : ∀ ps qs : List Plan, wts (ps ++ qs) = wts ps + wts qs
  | [], qs => by simp [wts]
  | p :: ps, qs => by simp only [List.cons_append, wts, wts_append ps qs]; omega
theorem wts_take (k : Nat) : ∀ ps : List Plan, wts (ps.take k) ≤ wts ps := by
  intro ps
  have := wts_append (ps.take k) (ps.drop k)
  rw [List.take_append_drop] at this
  omega

theorem pool_item {h : Heap} {P : Addr} {us : List Value} {ps : List Plan} {r : Int} (hall : PAll h P us ps) (hl : ps.length ≤ 1000) (h0 : 0 ≤ r) (h1 : r < ps.length) : ∃ v p, ItemAt us.toArray (-1 - r) v ∧ p ∈ ps ∧ PAt h P v p := by
  have hlen := hall.length
  have hlt : ((us.length : Int) - 1 - r).toNat < us.length := by omega
  obtain ⟨v, hv⟩ : ∃ v, us[((us.length : Int) - 1 - r).toNat]? = some v := ⟨_, List.getElem?_eq_getElem hlt⟩
  obtain ⟨p, hp, hP⟩ := hall.get _ v hv
  refine ⟨v, p, .inr ⟨by omega, by rw [List.size_toArray]; omega, by omega, ?_⟩, List.mem_of_getElem? hp, hP⟩
  have e : (-1 - r + (us.toArray.size : Int)).toNat = ((us.length : Int) - 1 - r).toNat := by rw [List.size_toArray]; congr 1; omega
  rw [e]; simpa using hv
theorem bit_b2n (a : Int) : ∃ b : Bool, a.fmod 2 = b2n b := by
  obtain ⟨h0, h1⟩ := fmod_bounds a (b := 2) (by decide)
  have : a.fmod 2 = 0 ∨ a.fmod 2 = 1 := by omega
  rcases this with h | h
  · exact ⟨false, h⟩
  · exact ⟨true, h⟩
theorem look_two {x x' n : Str} {c c' d : Addr} (h : [(x, c), (x', c')].lookup n = some d) : (n = x ∧ d = c) ∨ (n = x' ∧ d = c') := by
  by_cases e : n = x
  · subst e; simp at h; exact .inl ⟨rfl, h.symm⟩
  · have e' : (n == x) = false := by simpa using e
    rw [List.lookup, e'] at h
    exact .inr (look_one h)
end Mine

namespace Mine
open PySem.Calls

set_option maxHeartbeats 8000000 in
theorem plans_say (prog : Program) (w : World) : PlansSay prog w := by
  intro A E s Q l vs ns am hl hI hlen hh hd hu h
  refine call_fn1 (n := "script") am rfl rfl rfl rfl rfl ⟨_, _, rfl, rfl⟩ rfl (.inl rfl) (by omega) ?_
  intro env s₁ m cm hE hcl hL F hb
  have hm := hb.loc rfl
  have hcP : env.cells.lookup (Str.ofString "pool") = some (s.heap.objs.size + 1) := by rw [hcl]; rfl
  have hcL : env.cells.lookup (Str.ofString "left") = some (s.heap.objs.size + 1 + 1) := by rw [hcl]; rfl
  have hl1 : s₁.heap.IsList l vs.toArray := IsList.keep hl fun o ho => Keeps.keep F.done _ o ho
  have amF : ∀ {s' : Shared} {m' cm' : Str → Option Value}, Inn s env m' cm' s' → Amb w s'.heap := fun F' => am.keep (Keeps.keep F'.done)
  -- pool = [['number', 0], ['list', []]]
  refine wpAny_execs_cons (wpAny_Assign_Name (List_ (args_cons (ev_pair fun t2 s₂ hk₂ => wpAny_Constant_int fun a₃ s₃ hk₃ ha₃ hl₃ => args_cons (ev_pair fun t4 s₄ hk₄ => List_ (args_nil (new_list (fun a₅ s₅ hk₅ ha₅ hpl₅ a₆ s₆ hk₆ ha₆ hl₆ => args_nil (new_list (fun PP s₇ hk₇ hP hpl₇ => ?_) (sz4 (by simp)))) (sz4 (by simp))))) rfl) rfl)))
  have k37 : Keeps s₃ s₇ := Keeps.trans hk₄ (Keeps.trans hk₅ (Keeps.trans hk₆ hk₇))
  have F₇ := F.kept (Keeps.trans hk₂ (Keeps.trans (Keeps.tok s₂ _) (Keeps.trans hk₃ k37)))
  have h3P : a₃ ≠ PP := by
    obtain ⟨o, ho, _⟩ := hl₃
    exact Nat.ne_of_lt (Nat.lt_of_lt_of_le (Heap.lt_size (Keeps.keep (Keeps.trans hk₄ (Keeps.trans hk₅ hk₆)) _ o ho)) hP)
  have h5P : a₅ ≠ PP := by
    obtain ⟨n, ho⟩ := hpl₅
    exact Nat.ne_of_lt (Nat.lt_of_lt_of_le (Heap.lt_size (Keeps.keep hk₆ _ _ ho)) hP)
  have h6P : a₆ ≠ PP := by
    obtain ⟨o, ho, _⟩ := hl₆
    exact Nat.ne_of_lt (Nat.lt_of_lt_of_le (Heap.lt_size ho) hP)
  have hall₇ : PAll s₇.heap PP [.ref a₃, .ref a₆] [.num 0, .list []] :=
    .cons (.num h3P (IsList.keep hl₃ fun o ho => Keeps.keep k37 _ o ho)) (.cons (.list (vs := []) h6P h5P (IsList.keep hl₆ fun o ho => Keeps.keep hk₇ _ o ho) (IsList.keep hpl₅.isList fun o ho => Keeps.keep (Keeps.trans hk₆ hk₇) _ o ho) .nil) .nil)
  have hsP : s.heap.objs.size ≤ PP := Nat.le_trans (by
    have h1 := (F.kept (Keeps.trans hk₂ (Keeps.trans (Keeps.tok s₂ _) (Keeps.trans hk₃ (Keeps.trans hk₄ (Keeps.trans hk₅ hk₆)))))).toInCall.ns.lt
    rw [hL] at h1; exact Nat.le_of_lt h1) hP
  clear hk₂ hk₃ hk₄ hk₅ hk₆ k37 h3P h5P h6P hl₃ hpl₅ hl₆ ha₃ ha₅ ha₆
  refine st_cell F₇ hE hcP fun s₈ cm₈ F₈ h8a _ hk₈ => ?_
  have hpl₈ := F₇.keepPlain hk₈ hpl₇
  have hall₈ := hall₇.keepS (F₇.keepS hk₈ PP)
  have hl8 : s₈.heap.IsList l vs.toArray := IsList.keep hl fun o ho => Keeps.keep F₈.done _ o ho
  have hvl : vs.length ≤ 63 := by rw [hI.length]; exact hlen
  show wpAny _ _ (execs _ env) _ _ _
  refine wpAny_execs_cons (for_each (s₀ := s) hE (sub_slice (ev_local F₈.rd hE hm (evalPart_none_step (evalPart_some_step (wpAny_Constant_int ?_))))))
  refine ⟨_, _, none, some 63, rfl, hl8, by rw [List.size_toArray]; exact sz4 (by omega), .none, .int _ _, fun a₉ s₉ hk₉ ha₉ hpl₉ => ?_⟩
  have e9 : slicePick vs.toArray none (some 63) none = (vs.take 63).toArray := slicePick_upto' vs.toArray 63
  rw [e9] at hpl₉
  have F₉ : Inn s env m cm₈ s₉ := (F₈.tok _).kept hk₉
  have hP8 : PP < s₈.heap.objs.size := by obtain ⟨n, ho⟩ := hpl₈; exact Heap.lt_size ho
  have hPL : PP ≠ env.locals := by obtain ⟨n, ho⟩ := hpl₈; exact (F₈.notSeq ho ⟨_, _, rfl⟩).1
  have hPc : ∀ n c, env.cells.lookup n = some c → PP ≠ c := by obtain ⟨n, ho⟩ := hpl₈; exact (F₈.notSeq ho ⟨_, _, rfl⟩).2
  refine ⟨_, _, fun i m' cm' s' => cm' "pool" = some (.ref PP) ∧ ∃ us ps, s'.heap.PlainList PP (us : List Value).toArray ∧ PAll s'.heap PP us ps ∧ (∀ p ∈ ps, wt p ≤ 12) ∧ 2 ≤ ps.length ∧ ps.length ≤ 2 + i, [PP], m, cm₈, F₉, itf_list (A := A.deeper env) hh hpl₉.isList, ?_, ?_,
    ⟨h8a, _, _, hpl₈.at fun o e => Keeps.keep hk₉ _ o e, hall₈.keep (Keeps.keep hk₉), ?_, by simp, by simp⟩, ?_, ?_, ?_⟩
  · rintro b hb
    cases hb
    refine ⟨Nat.ne_of_gt (Nat.lt_of_lt_of_le F₈.toInCall.ns.lt ha₉), fun n c e => ?_, fun hm => ?_⟩
    · obtain ⟨o, ho, _⟩ := F₈.cell n c e
      exact Nat.ne_of_gt (Nat.lt_of_lt_of_le (Heap.lt_size ho) ha₉)
    · rw [List.mem_singleton] at hm
      exact Nat.lt_irrefl _ (Nat.lt_of_lt_of_le (hm ▸ hP8) ha₉)
  · intro b hb
    rw [List.mem_singleton] at hb; subst hb
    obtain ⟨n, ho⟩ := hpl₈
    exact Heap.lt_size (Keeps.keep hk₉ _ _ ho)
  · intro p hp
    simp at hp
    rcases hp with rfl | rfl <;> simp [wt, wts]
  · rintro i m' cm' s' s'' ⟨a1, us, ps, a2, a3, a4⟩ kn
    exact ⟨a1, us, ps, kn.plain a2, a3.keepN kn, a4⟩
  · rintro i v m' mX cm' s₂ sX hi hPv ⟨hcp, us, ps, hpl, hall, hwt, hge, hle⟩ FX hx _ F2 hklX
    have hplX := F2.keepPlain hklX hpl
    have hallX := hall.keepS (F2.keepS hklX PP)
    have hi63 : i ≤ 63 := by
      have : (vs.take 63).toArray.size ≤ 63 := by rw [List.size_toArray, List.length_take]; omega
      omega
    clear hpl hall F2 hklX hpl₈ hall₈ hpl₉ hall₇ hpl₇ F₇ F₈ F₉
    obtain ⟨x, tx, _, rfl⟩ := ints_get (hI.take 63) i v (by simpa using hPv)
    have hpl0 : (ps.length : Int) ≠ 0 := by omega
    have husl := hallX.length
    have hus4 : us.toArray.size ≤ 4000 := by rw [List.size_toArray]; omega
    -- kind, left, last, pick
    refine wpAny_execs_cons (wpAny_Assign_Name (wpAny_BinOp (ev_local FX.rd hE hx (wpAny_Constant_int (mod_int' (by decide) (st_local ((FX.tok _).tok _) hE fun sA mA FA hA hAo hkA => ?_))))))
    have hplA : sA.heap.PlainList PP us.toArray := FX.keepPlain hkA hplX
    have hallA : PAll sA.heap PP us ps := hallX.keepS (FX.keepS hkA PP)
    refine wpAny_execs_cons (wpAny_Assign_Name (wpAny_BinOp (ev_local FA.rd hE ((hAo "x" (by decide)).trans hx) (wpAny_Constant_int (floordiv_small (by decide) (by decide) (st_cell ((FA.tok _).tok _) hE hcL fun sB cmB FB hB hBo hkB => ?_))))))
    have hplB : sB.heap.PlainList PP us.toArray := FA.keepPlain hkB hplA
    have hallB : PAll sB.heap PP us ps := hallA.keepS (FA.keepS hkB PP)
    have hcpB := (hBo "pool" (by decide)).trans hcp
    obtain ⟨lastv, lastp, itL, hlm, hLP⟩ := pool_item hallB (by omega) (Int.le_refl 0) (by omega)
    refine wpAny_execs_cons (wpAny_Assign_Name (sub_item (ev_cell FB.rd hE hcP hcpB (UnaryOp_ (wpAny_Constant_int (P.neg_int ⟨_, _, _, _, _, rfl, rfl, hplB.isList, itL, st_local ((FB.tok _).tok _) hE fun sD mD FD hD hDo hkD => ?_⟩))))))
    have hplD : sD.heap.PlainList PP us.toArray := FB.keepPlain hkD hplB
    have hallD : PAll sD.heap PP us ps := hallB.keepS (FB.keepS hkD PP)
    refine wpAny_execs_cons (wpAny_Assign_Name (sub_item (ev_cell FD.rd hE hcP hcpB (wpAny_BinOp (UnaryOp_ (wpAny_Constant_int (P.neg_int (wpAny_BinOp (wpAny_BinOp (ev_cell ((FD.tok _).tok _).rd hE hcL hB (wpAny_Constant_int (floordiv_small (by decide) (by decide) ?_))))))))))))
    refine tok_gen (s := sD) fun sE hkE => ?_
    have FE := FD.kept hkE
    refine ev_bi1 (amF FE) hE (g_len w) b_len (ev_cell FE.rd hE hcP hcpB (call_len (IsList.keep hplD.isList fun o e => Keeps.keep hkE _ o e) hus4 fun tG sG hkG => ?_))
    have FG := FE.kept hkG
    refine mod_int' (by rw [List.size_toArray, husl]; exact hpl0) (P.sub_int ?_)
    have hplG : sG.heap.PlainList PP us.toArray := hplD.at fun o e => Keeps.keep (Keeps.trans hkE hkG) _ o e
    have hallG : PAll sG.heap PP us ps := hallD.keep (Keeps.keep (Keeps.trans hkE hkG))
    have hsz : ((us.toArray.size : Nat) : Int) = ps.length := by rw [List.size_toArray, husl]
    rw [hsz]
    obtain ⟨hr0, hr1⟩ := fmod_bounds ((x.fdiv 8).fdiv 3) (b := ps.length) (by omega)
    obtain ⟨pickv, pickp, itP, hpm, hPP⟩ := pool_item hallG (by omega) hr0 hr1
    refine ⟨_, _, _, _, _, rfl, rfl, hplG.isList, itP, st_local ((FG.tok _).tok _) hE fun sC mC FC hC hCo hkC => ?_⟩
    have hplC : sC.heap.PlainList PP us.toArray := FG.keepPlain hkC hplG
    have hallC : PAll sC.heap PP us ps := hallG.keepS (FG.keepS hkC PP)
    have hPk : PAt sC.heap PP pickv pickp := hPP.keepS (FG.keepS hkC PP)
    have hLa : PAt sC.heap PP lastv lastp := ((hLP.keepS (FB.keepS hkD PP)).keep (Keeps.keep (Keeps.trans hkE hkG))).keepS (FG.keepS hkC PP)
    have hlast : mC "last" = some lastv := (hCo "last" (by decide)).trans hD
    have hkind : mC "kind" = some (.int (x.fmod 8) _) := (hCo "kind" (by decide)).trans ((hDo "kind" (by decide)).trans hA)
    have kXC : KeepL env sX.heap sC.heap := KeepL.trans hkA (KeepL.trans hkB (KeepL.trans hkD (KeepL.trans (Keep.l (Keeps.keep (Keeps.trans hkE hkG))) hkC)))
    obtain ⟨hk0, hk8⟩ := fmod_bounds x (b := 8) (by decide)
    have hwl := hwt lastp hlm
    have hwp := hwt pickp hpm
    clear hA hAo hkA FA hkB hBo FB hD hDo hkD FD hkE FE hkG FG hCo hkC hplX hallX hplA hallA hplB hallB hplD hallD hplG hallG itL itP hLP hPP hr0 hr1 hsz
    generalize x.fmod 8 = kd at *
    generalize x.fdiv 8 = lf at *
    obtain ⟨R, hR⟩ : ∃ R : Flow → Shared → Prop, ∀ f s', R f s' ↔ (f = .next ∧ ∃ m' v p, Inn s env m' cmB s' ∧ m' "plan" = some v ∧ PAt s'.heap PP v p ∧ wt p ≤ 50 ∧ KeepL env sC.heap s'.heap) := ⟨_, fun _ _ => Iff.rfl⟩
    have fin : ∀ {s₂ : Shared} {m₂ : Str → Option Value} {v : Value} {p : Plan} {E' : Value → Shared → Prop}, Inn s env m₂ cmB s₂ → KeepL env sC.heap s₂.heap → PAt s₂.heap PP v p → wt p ≤ 50 → wpAny (model prog w) (A.deeper env) (storeName env "plan" v) (fun _ s' => R .next s') E' s₂ := fun F₂ hk₂ hp hw =>
      st_local F₂ hE fun s₃ m₃ F₃ b1 _ b3 => (hR _ _).mpr ⟨rfl, m₃, _, _, F₃, b1, hp.keepS (F₂.keepS b3 PP), hw, KeepL.trans hk₂ b3⟩
    have hPlt : ∀ {s₂ : Shared}, Keeps sC s₂ → PP < s₂.heap.objs.size := fun hk => by obtain ⟨n, ho⟩ := hplC; exact Heap.lt_size (Keeps.keep hk _ _ ho)
    refine wpAny_execs_cons (wpAny_mono (Q := R) ?_ (fun f s' hf => ?_) fun _ _ e => e)
    · have fine : ∀ {s₂ : Shared} {v : Value} {p : Plan} {E' : Value → Shared → Prop}, Keeps sC s₂ → PAt s₂.heap PP v p → wt p ≤ 50 → wpAny (model prog w) (A.deeper env) (storeName env "plan" v) (fun _ s' => R .next s') E' s₂ := fun hk hp hw => fin (FC.kept hk) (Keep.l (Keeps.keep hk)) hp hw
      have ne : ∀ {s₂ : Shared} {a : Addr}, Keeps sC s₂ → s₂.heap.objs.size ≤ a → a ≠ PP := fun hk ha => Nat.ne_of_gt (Nat.lt_of_lt_of_le (hPlt hk) ha)
      have hd2 : (A.deeper env).depth < recursionLimit := by show A.depth + 1 < _; omega
      -- kind == 0
      refine if_eq FC.rd hE hkind fun s1 hk1 => ?_
      have F1 := FC.kept hk1
      by_cases c0 : kd = 0
      · rw [if_pos (by simpa using c0)]
        refine execs_one (wpAny_Assign_Name (ev_pair fun t2 s2 hk2 => ev_cell (F1.kept hk2).rd hE hcL hB fun a3 s3 hk3 ha3 hl3 => ?_))
        exact fine (Keeps.trans hk1 (Keeps.trans hk2 hk3)) (.num (ne (Keeps.trans hk1 hk2) ha3) hl3) (by simp [wt])
      rw [if_neg (by simpa using c0)]
      -- kind == 1
      refine execs_one (if_eq F1.rd hE hkind fun s2 hk2' => ?_)
      have hk2 := Keeps.trans hk1 hk2'
      clear hk1 hk2' F1
      have F2 := FC.kept hk2
      by_cases c1 : kd = 1
      · rw [if_pos (by simpa using c1)]
        refine execs_one (wpAny_Assign_Name (ev_pair fun t3 s3 hk3 => wpAny_BinOp (wpAny_BinOp (ev_cell (F2.kept hk3).rd hE hcL hB (wpAny_Constant_int (mod_int' (by decide) (wpAny_Constant_int (P.sub_int fun a4 s4 hk4 ha4 hl4 => ?_))))))))
        exact fine (Keeps.trans hk2 (Keeps.trans hk3 (Keeps.trans (Keeps.tok s3 _) hk4))) (.num (ne (Keeps.trans hk2 hk3) ha4) hl4) (by simp [wt])
      rw [if_neg (by simpa using c1)]
      -- kind == 2
      refine execs_one (if_eq F2.rd hE hkind fun s3 hk3' => ?_)
      have hk3 := Keeps.trans hk2 hk3'
      clear hk2 hk3' F2
      have F3 := FC.kept hk3
      by_cases c2 : kd = 2
      · rw [if_pos (by simpa using c2)]
        refine execs_one (wpAny_Assign_Name (ev_pair fun t4 s4 hk4 => ev_call1 (amF (F3.kept hk4)) hE (g_signs w) rfl rfl (wpAny_BinOp (ev_cell (F3.kept hk4).rd hE hcL hB (wpAny_Constant_int (mod_int' (by decide) ⟨amF (((F3.kept hk4).tok _).tok _), ?_⟩))))))
        obtain ⟨q0, q1⟩ := fmod_bounds lf (b := 121) (by decide)
        refine signs_call (amF (((F3.kept hk4).tok _).tok _)) hd2 q0 (by omega) fun a5 s5 ws cs hk5 ha5 hpl5 hi5 hok5 a6 s6 hk6 ha6 hl6 => ?_
        have k34 := Keeps.trans hk3 hk4
        have k36 := Keeps.trans k34 (Keeps.trans (Keeps.tok s4 _) hk5)
        exact fine (Keeps.trans k36 hk6) (.text (ne k36 ha6) (ne k34 ha5) hl6 (IsList.keep hpl5.isList fun o e => Keeps.keep hk6 _ o e) hi5 hok5) (by simp [wt])
      rw [if_neg (by simpa using c2)]
      -- kind == 3
      refine execs_one (if_eq F3.rd hE hkind fun s4 hk4' => ?_)
      have hk4 := Keeps.trans hk3 hk4'
      clear hk3 hk4' F3
      have F4 := FC.kept hk4
      by_cases c3 : kd = 3
      · rw [if_pos (by simpa using c3)]
        refine execs_one (wpAny_Assign_Name (ev_pair fun t5 s5 hk5 => ?_))
        have F5 := F4.kept hk5
        refine comp_ev (clos_of hcl fun _ => rfl) (by decide) rfl (by decide) (ev_ty1 (amF F5) hE (g_range w) b_range (wpAny_Constant_int (call_range (n := 4) fun r s6 tt tu tv hk6 hr6 hR6 => ?_)))
        have k56 : Keeps s5 s6 := Keeps.trans (Keeps.tok s5 _) hk6
        have F6 := F5.kept k56
        refine ⟨4, _, fun v mm => mm "k" = some v, fun i _ => ((lf.fdiv (2 ^ i)).fmod 2 == 1), fun _ _ _ v y => y = v, sz4 (by decide), (itb_range (A := A.deeper env) hh hR6 (by decide)).bound, ?_, ?_⟩
        · refine ⟨fun I v s₃ E' Q' _ hq => lets_name hq, fun C i v s₃ m₃ E' Q' _ hn₃ _ hq => bind_name hn₃ hq rfl rfl, fun C i v s₃ m₃ E' hP hn₃ hb₃ hk₃ => ?_, fun lo C i v s₃ m₃ E' hP _ hn₃ hb₃ hk₃ _ hlo => ?_, fun lo h h' i v y hF _ => hF⟩
          · have X : ∀ sc', Rd (compEnvC sc' [(Str.ofString "left", s.heap.objs.size + 1 + 1)] C env) m₃ cmB s₃.heap := fun sc' => comp_rd F6.rd (Keeps.keep hk₃) hn₃ (fun n c e => by obtain ⟨rfl, rfl⟩ := look_one e; exact hcL)
            obtain ⟨hi4, tv, rfl⟩ := hP
            have hp4 : ((2 : Int) ^ ((i : Int).toNat)) = 2 ^ i := by rw [Int.toNat_natCast]
            have hpn : ((2 : Int) ^ i) ≠ 0 ∧ ((2 : Int) ^ i).natAbs < 2 ^ 64 := by
              have : i = 0 ∨ i = 1 ∨ i = 2 ∨ i = 3 := by omega
              rcases this with rfl | rfl | rfl | rfl <;> decide
            refine wpAny_tests_one (wpAny_isTrue_Compare1 (wpAny_BinOp (wpAny_BinOp (ev_cell (X _) (comp_okc hE) rfl hB (wpAny_BinOp (wpAny_Constant_int (ev_local (X _) (comp_okc hE) hb₃ (pow_int_small (by omega) (by omega) (by decide) ?_))))))))
            rw [hp4]
            exact floordiv_small hpn.1 hpn.2 (wpAny_Constant_int (mod_int' (by decide) (wpAny_Constant_int (P.eq_int (wpAny_truthy_bool ⟨rfl, Keeps.tok _ _⟩)))))
          · have X : ∀ sc', Rd (compEnvC sc' [(Str.ofString "left", s.heap.objs.size + 1 + 1)] C env) m₃ cmB s₃.heap := fun sc' => comp_rd F6.rd (Keeps.keep hk₃) hn₃ (fun n c e => by obtain ⟨rfl, rfl⟩ := look_one e; exact hcL)
            exact ev_local (X _) (comp_okc hE) hb₃ ⟨rfl, Keeps.refl _⟩
        · intro D lo s7 ys vs7 hD hDlo hk7 hpl7 hlen7 hP7 hF7 a8 s8 hk8 ha8 hl8
          have hp := outs_pass (P := fun i v => i < 4 ∧ ∃ t, v = Value.int (i : Int) t) (pass := fun i => ((lf.fdiv (2 ^ i)).fmod 2 == 1)) hlen7 hP7 hF7
          have hp2 := paired_ints (Paired.map (F' := fun (i : Nat) y => ∃ t, y = Value.int (i : Int) t) (fun i y hy => by obtain ⟨v, ⟨_, t, rfl⟩, rfl⟩ := hy; exact ⟨t, rfl⟩) hp)
          rw [range_setKs] at hp2
          have k6 := Keeps.trans hk4 (Keeps.trans hk5 k56)
          have k7 := Keeps.trans k6 hk7
          exact fine (Keeps.trans k7 hk8) (.set (ne k7 ha8) (ne k6 hD) hl8 (by simpa using IsList.keep hpl7.isList fun o e => Keeps.keep hk8 _ o e) hp2) (by simp [wt])
      rw [if_neg (by simpa using c3)]
      -- kind == 4
      refine execs_one (wpAny_If (isTrue_and (wpAny_isTrue_Compare1 (ev_local F4.rd hE hkind (wpAny_Constant_int (P.eq_int (wpAny_truthy_bool ?_)))))))
      by_cases c4 : kd = 4
      · rw [if_pos (by simpa using c4)]
        refine isTrue_and (wpAny_isTrue_Compare1 (wpAny_BinOp (ev_cell (F4.tok _).rd hE hcL hB (wpAny_Constant_int (mod_int' (by decide) (wpAny_Constant_int (P.eq_int (wpAny_truthy_bool ?_))))))))
        by_cases c5 : lf.fmod 3 = 0
        · rw [if_pos (by simpa using c5)]
          refine isTrue_and_nil ?_
          rw [if_pos rfl]
          refine tok_gen (s := s4) fun s5 hk5' => ?_
          have hk5 := Keeps.trans hk4 hk5'
          refine execs_one (wpAny_Assign_Name (ev_pair fun t6 s6 hk6 => wpAny_Constant_int fun a7 s7 hk7 ha7 hl7 => ?_))
          exact fine (Keeps.trans hk5 (Keeps.trans hk6 (Keeps.trans (Keeps.tok s6 _) hk7))) (.none (ne (Keeps.trans hk5 hk6) ha7) hl7) (by simp [wt])
        · rw [if_neg (by simpa using c5), if_neg (by decide)]
          refine tok_gen (s := s4) fun s5 hk5' => ?_
          have hk5a := Keeps.trans hk4 hk5'
          clear hk4 hk5' F4
          refine execs_one (if_eq (FC.kept hk5a).rd hE hkind fun s5 hk5' => ?_)
          have hk5 := Keeps.trans hk5a hk5'
          clear hk5a hk5'
          have F5' := FC.kept hk5
          rw [if_pos (by simpa using c4)]
          obtain ⟨vb, hvb⟩ := bit_b2n (lf.fdiv 12)
          refine execs_one (wpAny_Assign_Name (ev_pair fun t5 s5' hk5' => ?_))
          have hkC5 := Keeps.trans hk5 hk5'
          have F5 := FC.kept hkC5
          refine comp_ev (clos_of hcl fun _ => rfl) (by decide) rfl (by decide) (ev_ty1 (amF F5) hE (g_range w) b_range (wpAny_Constant_int (call_range (n := 2) fun r s6 tt tu tv hk6 hr6 hR6 => ?_)))
          have k56 : Keeps s5' s6 := Keeps.trans (Keeps.tok s5' _) hk6
          have F6 := F5.kept k56
          refine ⟨2, _, fun v mm => mm "k" = some v, fun i _ => (((lf.fdiv 3).fdiv (2 ^ i)).fmod 2 == 1), fun lo h i v y => ∃ c t t', y = Value.ref c ∧ lo ≤ c ∧ h.IsList c #[.int (i : Int) t, .int (b2n vb) t'], sz4 (by decide), (itb_range (A := A.deeper env) hh hR6 (by decide)).bound, ?_, ?_⟩
          · refine ⟨fun I v s₃ E' Q' _ hq => lets_name hq, fun C i v s₃ m₃ E' Q' _ hn₃ _ hq => bind_name hn₃ hq rfl rfl, fun C i v s₃ m₃ E' hP hn₃ hb₃ hk₃ => ?_, fun lo C i v s₃ m₃ E' hP _ hn₃ hb₃ hk₃ _ hlo => ?_, ?_⟩
            · have X : ∀ sc', Rd (compEnvC sc' [(Str.ofString "left", s.heap.objs.size + 1 + 1)] C env) m₃ cmB s₃.heap := fun sc' => comp_rd F6.rd (Keeps.keep hk₃) hn₃ (fun n c e => by obtain ⟨rfl, rfl⟩ := look_one e; exact hcL)
              obtain ⟨hi4, tv, rfl⟩ := hP
              have hp4 : ((2 : Int) ^ ((i : Int).toNat)) = 2 ^ i := by rw [Int.toNat_natCast]
              have hpn : ((2 : Int) ^ i) ≠ 0 ∧ ((2 : Int) ^ i).natAbs < 2 ^ 64 := by
                have : i = 0 ∨ i = 1 := by omega
                rcases this with rfl | rfl <;> decide
              refine wpAny_tests_one (wpAny_isTrue_Compare1 (wpAny_BinOp (wpAny_BinOp (wpAny_BinOp (ev_cell (X _) (comp_okc hE) rfl hB (wpAny_Constant_int (floordiv_small (by decide) (by decide) (wpAny_BinOp (wpAny_Constant_int ?_)))))))))
              refine tok_gen (s := s₃) fun sq hkq => ?_
              have Xq : ∀ sc', Rd (compEnvC sc' [(Str.ofString "left", s.heap.objs.size + 1 + 1)] C env) m₃ cmB sq.heap := fun sc' => (X sc').keep (Keeps.keep hkq)
              refine ev_local (Xq _) (comp_okc hE) hb₃ (pow_int_small (by omega) (by omega) (by decide) ?_)
              rw [hp4]
              exact floordiv_small hpn.1 hpn.2 (wpAny_Constant_int (mod_int' (by decide) (wpAny_Constant_int (P.eq_int (wpAny_truthy_bool ⟨rfl, Keeps.trans hkq (Keeps.tok _ _)⟩)))))
            · have X : ∀ sc', Rd (compEnvC sc' [(Str.ofString "left", s.heap.objs.size + 1 + 1)] C env) m₃ cmB s₃.heap := fun sc' => comp_rd F6.rd (Keeps.keep hk₃) hn₃ (fun n c e => by obtain ⟨rfl, rfl⟩ := look_one e; exact hcL)
              obtain ⟨hi4, tv, rfl⟩ := hP
              refine List_ (args_cons (ev_local (X _) (comp_okc hE) hb₃ (args_cons (wpAny_BinOp (wpAny_BinOp (ev_cell (X _) (comp_okc hE) rfl hB (wpAny_Constant_int (floordiv_small (by decide) (by decide) (wpAny_Constant_int (mod_int' (by decide) (args_nil ?_)))))))) rfl)) rfl)
              rw [hvb]
              exact new_list (fun a sn hk ha hpl => ⟨⟨a, _, _, rfl, Nat.le_trans hlo ha, hpl.isList⟩, Keeps.trans (Keeps.tok _ _) hk⟩) (sz4 (by simp))
            · rintro lo h h' i v y ⟨c, t, t', r1, r2, r3⟩ hkk
              exact ⟨c, t, t', r1, r2, IsList.keep r3 fun o e => hkk _ o r2 e⟩
          · intro D lo s7 ys vs7 hD hDlo hk7 hpl7 hlen7 hP7 hF7 a8 s8 hk8 ha8 hl8
            have k6 := Keeps.trans hkC5 k56
            have k7 := Keeps.trans k6 hk7
            have hp := outs_pass (P := fun i v => i < 2 ∧ ∃ t, v = Value.int (i : Int) t) (pass := fun i => (((lf.fdiv 3).fdiv (2 ^ i)).fmod 2 == 1)) hlen7 hP7 hF7
            have hp2 := paired_pairs (h := s8.heap) (bad := PP) (x := b2n vb) (Paired.map (fun i y hy => by
              obtain ⟨v, _, c, t, t', r1, r2, r3⟩ := hy
              exact ⟨c, t, t', r1, ne k6 (Nat.le_trans hD (Nat.le_trans (Nat.le_of_lt hDlo) r2)), IsList.keep r3 fun o e => Keeps.keep hk8 _ o e⟩) hp)
            rw [range_tabKvs] at hp2
            exact fine (Keeps.trans k7 hk8) (.table (ne k7 ha8) (ne k6 hD) hl8 (by simpa using IsList.keep hpl7.isList fun o e => Keeps.keep hk8 _ o e) hp2) (by simp [wt])
      rw [if_neg (by simpa using c4), if_neg (by decide)]
      refine tok_gen (s := s4) fun s5 hk5' => ?_
      have hk5a := Keeps.trans hk4 hk5'
      clear hk4 hk5' F4
      refine execs_one (if_eq (FC.kept hk5a).rd hE hkind fun s5 hk5' => ?_)
      have hk5 := Keeps.trans hk5a hk5'
      clear hk5a hk5'
      have F5 := FC.kept hk5
      rw [if_neg (by simpa using c4)]
      -- kind < 7
      refine execs_one (wpAny_If (wpAny_isTrue_Compare1 (ev_local F5.rd hE hkind (wpAny_Constant_int (P.lt_int (wpAny_truthy_bool ?_))))))
      by_cases c7 : kd < 7
      · rw [decide_eq_true c7, if_pos rfl]
        refine tok_gen (s := s5) fun s6 hk6' => ?_
        have hk6 := Keeps.trans hk5 hk6'
        clear hk5 hk6' F5
        have F6 := FC.kept hk6
        refine wpAny_execs_cons (comp_assign (y := "items") (clos_of hcl fun _ => rfl) (by decide) rfl (by decide) ?_ (by rw [Env.kindOf, hE.sc]; rfl) (by rw [hE.sc]; rfl) (ev_ty1 (amF F6) hE (g_range w) b_range (wpAny_BinOp (ev_cell F6.rd hE hcL hB (wpAny_Constant_int (mod_int' (by decide) ?_))))))
        · simp only [swapsWith, Env.blockKind, Env.kindOf, hE.sc]; rfl
        obtain ⟨q0, q1⟩ := fmod_bounds lf (b := 4) (by decide)
        obtain ⟨nn, hnn⟩ : ∃ nn : Nat, lf.fmod 4 = (nn : Int) := ⟨_, (Int.toNat_of_nonneg q0).symm⟩
        rw [hnn]
        refine call_range fun r s7 tt tu tv hk7 hr7 hR7 => ?_
        have k67 : Keeps s6 s7 := Keeps.trans (Keeps.tok s6 _) hk7
        have kC7 := Keeps.trans hk6 k67
        have F7 := FC.kept kC7
        have hpl7 : s7.heap.PlainList PP us.toArray := hplC.at fun o e => Keeps.keep kC7 _ o e
        have hall7 := hallC.keep (Keeps.keep kC7)
        refine ⟨nn, _, fun v mm => mm "k" = some v, fun _ _ => true, fun _ _ _ v y => ∃ p, wt p ≤ 12 ∧ PAt s7.heap PP y p, mC, sz4 (by omega), F7.toInCall.ns, (itb_range (A := A.deeper env) hh hR7 (by omega)).bound, ?_, ?_⟩
        · refine ⟨fun I v s₃ E' Q' _ hq => lets_name hq, fun C i v s₃ m₃ E' Q' _ hn₃ _ hq => bind_name hn₃ hq rfl rfl, fun C i v s₃ m₃ E' _ _ _ _ => wpAny_tests_nil ⟨rfl, Keeps.refl _⟩, fun lo C i v s₃ m₃ E' hP _ hn₃ hb₃ hk₃ _ hlo => ?_, fun lo h h' i v y hF _ => hF⟩
          have X : ∀ sc', Rd (compEnvC sc' [(Str.ofString "pool", s.heap.objs.size + 1), (Str.ofString "left", s.heap.objs.size + 1 + 1)] C env) m₃ cmB s₃.heap := fun sc' => comp_rd F7.rd (Keeps.keep hk₃) hn₃ (fun n c e => by
            rcases look_two e with ⟨rfl, rfl⟩ | ⟨rfl, rfl⟩
            · exact hcP
            · exact hcL)
          obtain ⟨hi4, tv, rfl⟩ := hP
          have hp4 : ((4 : Int) ^ (((i : Int) + 1).toNat)) = 4 ^ (i + 1) := by congr 1
          have hpn : ((4 : Int) ^ (i + 1)) ≠ 0 ∧ ((4 : Int) ^ (i + 1)).natAbs < 2 ^ 64 := by
            have : i = 0 ∨ i = 1 ∨ i = 2 := by omega
            rcases this with rfl | rfl | rfl <;> decide
          refine sub_item (ev_cell (X _) (comp_okc hE) rfl hcpB (wpAny_BinOp (UnaryOp_ (wpAny_Constant_int (P.neg_int (wpAny_BinOp (wpAny_BinOp ?_)))))))
          refine tok_gen (s := s₃) fun sq hkq => ?_
          have Xq : ∀ sc', Rd (compEnvC sc' [(Str.ofString "pool", s.heap.objs.size + 1), (Str.ofString "left", s.heap.objs.size + 1 + 1)] C env) m₃ cmB sq.heap := fun sc' => (X sc').keep (Keeps.keep hkq)
          refine ev_cell (Xq _) (comp_okc hE) rfl hB (wpAny_BinOp (wpAny_Constant_int (wpAny_BinOp ?_)))
          refine ev_local (Xq _) (comp_okc hE) hb₃ (wpAny_Constant_int (P.add_int (pow_int_small (by omega) (by omega) (by decide) ?_)))
          rw [hp4]
          refine floordiv_small hpn.1 hpn.2 ?_
          refine tok_gen (s := sq) fun sr hkr => ?_
          have kqr := Keeps.trans hkq hkr
          have Xr : ∀ sc', Rd (compEnvC sc' [(Str.ofString "pool", s.heap.objs.size + 1), (Str.ofString "left", s.heap.objs.size + 1 + 1)] C env) m₃ cmB sr.heap := fun sc' => (X sc').keep (Keeps.keep kqr)
          have k7r := Keeps.trans hk₃ kqr
          have hplr : sr.heap.PlainList PP us.toArray := hpl7.at fun o e => Keeps.keep k7r _ o e
          refine ev_bi1 ((amF F7).keep (Keeps.keep k7r)) (comp_okc hE) (g_len w) b_len (ev_cell (Xr _) (comp_okc hE) rfl hcpB (call_len hplr.isList hus4 fun tG sG hkG => ?_))
          have hsz : ((us.toArray.size : Nat) : Int) = ps.length := by rw [List.size_toArray, husl]
          rw [hsz]
          refine mod_int' hpl0 (P.sub_int ?_)
          obtain ⟨hr0, hr1⟩ := fmod_bounds (lf.fdiv (4 ^ (i + 1))) (b := ps.length) (by omega)
          obtain ⟨yv, yp, itY, hym, hYP⟩ := pool_item hall7 (by omega) hr0 hr1
          refine ⟨_, _, _, _, _, rfl, rfl, IsList.keep hplr.isList fun o e => Keeps.keep hkG _ o e, itY, ⟨yp, hwt yp hym, hYP⟩, Keeps.trans kqr (Keeps.trans hkG (Keeps.tok _ _))⟩
        · intro D lo s8 ys vs8 hD hDlo hk8 hns8 hpl8 hlen8 hP8 hF8
          obtain ⟨h1, h2⟩ := outs_all (P := fun i v => i < nn ∧ ∃ t, v = Value.int (i : Int) t) hlen8 hP8 hF8
          obtain ⟨qs, hqA, hqw, hql⟩ := PAll.of (h := s7.heap) (bad := PP) (Pr := fun p => wt p ≤ 12) (vs := ys.toList) fun v hv => by
            obtain ⟨j, hj⟩ := List.getElem?_of_mem hv
            obtain ⟨_, _, p, hp, hP⟩ := h2 j v hj
            exact ⟨p, hp, hP⟩
          have kb78 := kb_but hk8
          have hqA8 := hqA.keepS (F7.keepS kb78.l PP)
          have kC8 : KeepL env sC.heap s8.heap := KeepL.trans (Keep.l (Keeps.keep kC7)) kb78.l
          obtain ⟨m8, hm8i, hm8k, F8⟩ : ∃ m8 : Str → Option Value, m8 "items" = some (.ref D) ∧ m8 "kind" = mC "kind" ∧ Inn s env m8 cmB s8 := ⟨_, by
            show (if _ then _ else _) = _
            rw [if_pos rfl], by
            show (if _ then _ else _) = _
            rw [if_neg (by decide)], F7.but hns8 hk8⟩
          have hDP : D ≠ PP := ne kC7 hD
          have ne8 : ∀ {a : Addr}, s8.heap.objs.size ≤ a → a ≠ PP := fun ha => by
            obtain ⟨n, ho⟩ := F7.plain_but hk8 hpl7
            exact Nat.ne_of_gt (Nat.lt_of_lt_of_le (Heap.lt_size ho) ha)
          have hww := wts_le hqw
          have hql3 : qs.length ≤ 3 := by rw [hql, h1]; omega
          have hw36 : wts qs ≤ 36 := Nat.le_trans hww (Nat.mul_le_mul_left 12 hql3)
          refine execs_one (wpAny_Assign_Name (List_ (args_cons (IfExp_ (wpAny_isTrue_Compare1 (ev_local F8.rd hE (hm8k.trans hkind) (wpAny_Constant_int (P.eq_int (wpAny_truthy_bool ?_)))))) rfl)))
          by_cases c5 : kd = 5
          · rw [if_pos (by simpa using c5)]
            refine Constant_str (args_cons (ev_local (F8.tok _).rd hE hm8i (args_nil (new_list (fun a9 s9 hk9 ha9 hpl9 => ?_) (sz4 (by simp))))) rfl)
            have F9 : Inn s env m8 cmB s9 := (F8.tok _).kept hk9
            have hk9' : Keep s8.heap s9.heap := Keeps.keep hk9
            exact fin F9 (KeepL.trans kC8 (Keep.l hk9')) (.list (vs := ys.toList) (ne8 ha9) hDP hpl9.isList (by simpa using IsList.keep hpl8.isList fun o e => hk9' _ o e) (hqA8.keep hk9')) (by simp only [wt]; omega)
          · rw [if_neg (by simpa using c5)]
            refine Constant_str (args_cons (ev_local (F8.tok _).rd hE hm8i (args_nil (new_list (fun a9 s9 hk9 ha9 hpl9 => ?_) (sz4 (by simp))))) rfl)
            have F9 : Inn s env m8 cmB s9 := (F8.tok _).kept hk9
            have hk9' : Keep s8.heap s9.heap := Keeps.keep hk9
            exact fin F9 (KeepL.trans kC8 (Keep.l hk9')) (.tup (vs := ys.toList) (ne8 ha9) hDP hpl9.isList (by simpa using IsList.keep hpl8.isList fun o e => hk9' _ o e) (hqA8.keep hk9')) (by simp only [wt]; omega)
      · rw [decide_eq_false c7, if_neg (by decide)]
        refine tok_gen (s := s5) fun s6 hk6' => ?_
        have hk6 := Keeps.trans hk5 hk6'
        clear hk5 hk6' F5
        have F6 := FC.kept hk6
        obtain ⟨aL, tL, cL, rfl, hneL, hlL, hcL'⟩ := hLa.shape
        have lL : ∀ {h' : Heap}, Keep sC.heap h' → h'.IsList aL #[.str (kindOf lastp) tL, cL] := fun hk => IsList.keep hlL fun o e => hk _ o e
        have kl : ((kindOf lastp).cps.toList != (Str.ofString "list").cps.toList) = !is_list lastp := by cases lastp <;> rfl
        have kt : ((kindOf lastp).cps.toList != (Str.ofString "tuple").cps.toList) = !is_tup lastp := by cases lastp <;> rfl
        refine execs_one (wpAny_If (wpAny_mono (Q := fun c s7 => c = (!is_list lastp && !is_tup lastp) ∧ Keeps sC s7) ?_ (fun c s7 h7 => ?_) fun _ _ e => e))
        · refine isTrue_and (wpAny_isTrue_Compare1 (sub_item (ev_local F6.rd hE hlast (wpAny_Constant_int ⟨_, _, _, _, _, rfl, rfl, lL (h' := s6.heap) (Keeps.keep hk6), item0, Constant_str (P.ne_str (wpAny_truthy_bool ?_))⟩))))
          rw [kl]
          cases is_list lastp with
          | true => exact ⟨rfl, Keeps.trans hk6 (Keeps.tok _ _)⟩
          | false =>
            rw [if_pos (by decide)]
            refine isTrue_and (wpAny_isTrue_Compare1 (sub_item (ev_local ((F6.tok _).tok _).rd hE hlast (wpAny_Constant_int ⟨_, _, _, _, _, rfl, rfl, lL (h' := s6.heap) (Keeps.keep hk6), item0, Constant_str (P.ne_str (wpAny_truthy_bool ?_))⟩))))
            rw [kt]
            cases is_tup lastp with
            | true => exact ⟨rfl, Keeps.trans hk6 (Keeps.tok _ _)⟩
            | false =>
              rw [if_pos (by decide)]
              exact isTrue_and_nil ⟨rfl, Keeps.trans hk6 (Keeps.tok _ _)⟩
        · obtain ⟨rfl, hk7⟩ := h7
          have F7 := FC.kept hk7
          clear hk6 F6
          cases hb2 : (!is_list lastp && !is_tup lastp) with
          | true =>
            rw [if_pos rfl]
            refine execs_one (wpAny_Assign_Name (ev_pair fun t8 s8 hk8 => ?_))
            have k8 := Keeps.trans hk7 hk8
            refine List_ (args_cons (ev_local (FC.kept k8).rd hE hlast (args_cons (ev_local (FC.kept k8).rd hE hC (args_nil (new_list (fun a9 s9 hk9 ha9 hpl9 aA sA hkA haA hlA => ?_) (sz4 (by simp))))) rfl)) rfl)
            have k9 := Keeps.trans k8 hk9
            have kA := Keeps.trans k9 hkA
            exact fine kA (.list (ps := [lastp, pickp]) (ne k9 haA) (ne k8 ha9) hlA (IsList.keep hpl9.isList fun o e => Keeps.keep hkA _ o e) (.cons (hLa.keep (Keeps.keep kA)) (.cons (hPk.keep (Keeps.keep kA)) .nil))) (by simp only [wt, wts]; omega)
          | false =>
            rw [if_neg (by decide)]
            have hseq : (∃ ps0, lastp = .list ps0) ∨ (∃ ps0, lastp = .tup ps0) := by
              cases lastp <;> first | exact .inl ⟨_, rfl⟩ | exact .inr ⟨_, rfl⟩ | (simp [is_list, is_tup] at hb2)
            obtain ⟨ps0, b0, vs0, rfl, hb0P, hlb0, hall0, hw0, hlv0, hmk⟩ : ∃ ps0 b0 vs0, cL = .ref b0 ∧ b0 ≠ PP ∧ sC.heap.IsList b0 (vs0 : List Value).toArray ∧ PAll sC.heap PP vs0 ps0 ∧ wts ps0 ≤ 11 ∧ vs0.length ≤ 11 ∧
                (∀ {h' : Heap} {a b : Addr} {ws : List Value} {qs : List Plan} {t : Tok}, a ≠ PP → b ≠ PP → h'.IsList a #[.str (kindOf lastp) t, .ref b] → h'.IsList b ws.toArray → PAll h' PP ws qs → ∃ p', PAt h' PP (.ref a) p' ∧ wt p' = wts qs + 1) := by
              rcases hseq with ⟨ps0, rfl⟩ | ⟨ps0, rfl⟩
              · obtain ⟨b0, vs0, e1, e2, e3, e4⟩ := hcL'
                have hll := length_le_wts ps0
                simp only [wt] at hwl
                exact ⟨ps0, b0, vs0, e1, e2, e3, e4, by omega, by rw [e4.length]; omega, fun h1 h2 h3 h4 h5 => ⟨_, .list h1 h2 h3 h4 h5, rfl⟩⟩
              · obtain ⟨b0, vs0, e1, e2, e3, e4⟩ := hcL'
                have hll := length_le_wts ps0
                simp only [wt] at hwl
                exact ⟨ps0, b0, vs0, e1, e2, e3, e4, by omega, by rw [e4.length]; omega, fun h1 h2 h3 h4 h5 => ⟨_, .tup h1 h2 h3 h4 h5, rfl⟩⟩
            have lB : ∀ {h' : Heap}, Keep sC.heap h' → h'.IsList b0 vs0.toArray := fun hk => IsList.keep hlb0 fun o e => hk _ o e
            have hsz0 : vs0.toArray.size ≤ sizeLine := by rw [List.size_toArray]; exact sz4 (by omega)
            have ecut : slicePick vs0.toArray none (some (-1)) none = (vs0.take (vs0.length - 1)).toArray := by
              have := slicePick_butLast vs0.toArray 1 (by decide)
              simpa using this
            refine execs_one (wpAny_Assign_Name (List_ (args_cons (sub_item (ev_local F7.rd hE hlast (wpAny_Constant_int ⟨_, _, _, _, _, rfl, rfl, lL (h' := s7.heap) (Keeps.keep hk7), item0, args_cons (sub_item (List_ (args_cons ?_ rfl))) rfl⟩))) rfl)))
            refine tok_gen (s := s7) fun s8 hk8' => ?_
            have k8 := Keeps.trans hk7 hk8'
            have F8 := FC.kept k8
            -- last[1][:-1] + [pick]
            refine wpAny_BinOp (sub_slice (sub_item (ev_local F8.rd hE hlast (wpAny_Constant_int ⟨_, _, _, _, _, rfl, rfl, lL (h' := s8.heap) (Keeps.keep k8), item1, evalPart_none_step (evalPart_some_step (UnaryOp_ (wpAny_Constant_int (P.neg_int ⟨_, _, none, some (-1), rfl, lB (h' := s8.heap) (Keeps.keep k8), hsz0, .none, .int _ _, fun a1 s9 hk9 ha1 hpl1 => ?_⟩))))⟩))))
            rw [ecut] at hpl1
            have k9 := Keeps.trans k8 (Keeps.trans (Keeps.tok s8 _) hk9)
            have F9 := FC.kept k9
            refine List_ (args_cons (ev_local F9.rd hE hC (args_nil (new_list (fun a2 sA hkA ha2 hpl2 => ?_) (sz4 (by simp))))) rfl)
            have kA := Keeps.trans k9 hkA
            refine add_list2 (IsList.keep hpl1.isList fun o e => Keeps.keep hkA _ o e) hpl2.isList (by rw [List.length_take, List.length_singleton]; omega) fun a3 sB hkB ha3 hpl3 => args_cons ?_ rfl
            have kB := Keeps.trans kA hkB
            have FB := FC.kept kB
            -- last[1] + [pick]
            refine wpAny_BinOp (sub_item (ev_local FB.rd hE hlast (wpAny_Constant_int ⟨_, _, _, _, _, rfl, rfl, lL (h' := sB.heap) (Keeps.keep kB), item1, List_ (args_cons (ev_local (FB.tok _).rd hE hC (args_nil (new_list (fun a4 sD hkD ha4 hpl4 => ?_) (sz4 (by simp))))) rfl)⟩)))
            have kBD := Keeps.trans (Keeps.tok sB _) hkD
            have kD := Keeps.trans kB kBD
            refine add_list2 (lB (h' := sD.heap) (Keeps.keep kD)) hpl4.isList (by rw [List.length_singleton]; omega) fun a5 sE hkE ha5 hpl5 => args_cons ?_ rfl
            have kE := Keeps.trans kD hkE
            have FE := FC.kept kE
            -- last[1][:-1]
            refine sub_slice (sub_item (ev_local FE.rd hE hlast (wpAny_Constant_int ⟨_, _, _, _, _, rfl, rfl, lL (h' := sE.heap) (Keeps.keep kE), item1, evalPart_none_step (evalPart_some_step (UnaryOp_ (wpAny_Constant_int (P.neg_int ⟨_, _, none, some (-1), rfl, lB (h' := sE.heap) (Keeps.keep kE), hsz0, .none, .int _ _, fun a6 sG hkG ha6 hpl6 => args_nil (new_list (fun a7 sH hkH ha7 hpl7 => ?_) (sz4 (by simp)))⟩))))⟩)))
            rw [ecut] at hpl6
            have kEG := Keeps.trans (Keeps.tok sE _) hkG
            have kG := Keeps.trans kE kEG
            have kH := Keeps.trans kG hkH
            have FH := FC.kept kH
            refine wpAny_BinOp (ev_cell FH.rd hE hcL hB (wpAny_Constant_int (mod_int' (by decide) ?_)))
            obtain ⟨hr0, hr1⟩ := fmod_bounds lf (b := 3) (by decide)
            have hall0H := hall0.keep (Keeps.keep kH)
            have hPkH := hPk.keep (Keeps.keep kH)
            have k9H : Keeps sB sH := Keeps.trans kBD (Keeps.trans hkE (Keeps.trans kEG hkH))
            have hch : ∃ ax ws qs, ItemAt #[Value.ref a3, Value.ref a5, Value.ref a6] (lf.fmod 3) (.ref ax) ∧ sH.heap.IsList ax (ws : List Value).toArray ∧ ax ≠ PP ∧ PAll sH.heap PP ws qs ∧ wts qs ≤ 23 := by
              have hwt1 : wts (ps0.take (vs0.length - 1) ++ [pickp]) ≤ 23 := by
                rw [wts_append]
                have := wts_take (vs0.length - 1) ps0
                simp only [wts]; omega
              have hwt2 : wts (ps0 ++ [pickp]) ≤ 23 := by
                rw [wts_append]
                simp only [wts]; omega
              have hwt3 : wts (ps0.take (vs0.length - 1)) ≤ 23 := Nat.le_trans (wts_take _ _) (by omega)
              generalize lf.fmod 3 = r at hr0 hr1
              have h3 : r = 0 ∨ r = 1 ∨ r = 2 := by omega
              rcases h3 with rfl | rfl | rfl
              · exact ⟨a3, _, _, .inl ⟨by decide, by decide, rfl⟩, IsList.keep hpl3.isList fun o e => Keeps.keep k9H _ o e, ne kA ha3, (hall0H.take _).append (.cons hPkH .nil), hwt1⟩
              · exact ⟨a5, _, _, .inl ⟨by decide, by decide, rfl⟩, IsList.keep hpl5.isList fun o e => Keeps.keep (Keeps.trans kEG hkH) _ o e, ne kD ha5, hall0H.append (.cons hPkH .nil), hwt2⟩
              · exact ⟨a6, _, _, .inl ⟨by decide, by decide, rfl⟩, IsList.keep hpl6.isList fun o e => Keeps.keep hkH _ o e, ne kE ha6, hall0H.take _, hwt3⟩
            obtain ⟨ax, ws, qs, itx, hlx, hxP, hqx, hwx⟩ := hch
            refine ⟨_, _, _, _, _, rfl, rfl, hpl7.isList, itx, args_nil (new_list (fun a8 sI hkI ha8 hpl8 => ?_) (sz4 (by simp)))⟩
            have kHI : Keeps sH sI := Keeps.trans (Keeps.tok sH _) hkI
            have kI := Keeps.trans kH kHI
            obtain ⟨p', hp', hwp'⟩ := hmk (h' := sI.heap) (ne kH ha8) hxP hpl8.isList (IsList.keep hlx fun o e => Keeps.keep kHI _ o e) (hqx.keep (Keeps.keep kHI))
            exact fine kI hp' (by omega)
    · obtain ⟨rfl, mP, pv, pp, FP, hplan, hPA, hwpp, hkP⟩ := (hR _ _).mp hf
      show wpAny _ _ (execs _ env) _ _ _
      have hdp := deep_le_wt pp
      obtain ⟨R2, hR2⟩ : ∃ R2 : Flow → Shared → Prop, ∀ f s', R2 f s' ↔ (f = .next ∧ ∃ m' v p, Inn s env m' cmB s' ∧ m' "plan" = some v ∧ PAt s'.heap PP v p ∧ wt p ≤ 12 ∧ KeepL env sC.heap s'.heap) := ⟨_, fun _ _ => Iff.rfl⟩
      refine wpAny_execs_cons (wpAny_mono (Q := R2) ?_ (fun f s₂ hf2 => ?_) fun _ _ e => e)
      · refine wpAny_If (wpAny_isTrue_Compare1 (ev_call1 (amF FP) hE (g_weight w) rfl rfl (ev_local FP.rd hE hplan ⟨amF FP, weight_call (sizeOf pp + 1) pp (Nat.lt_succ_self _) (amF FP) hPA hh (by show A.depth + 1 + _ < _; omega) (by omega) fun t2 s2 hk2 => wpAny_Constant_int (P.gt_int (wpAny_truthy_bool ?_))⟩)))
        have F2 := FP.kept hk2
        by_cases h12 : (wt pp : Int) > 12
        · rw [decide_eq_true h12, if_pos rfl]
          refine execs_one (wpAny_Assign_Name (ev_pair fun t3 s3 hk3 => wpAny_BinOp (wpAny_BinOp (ev_cell ((F2.tok _).kept hk3).rd hE hcL hB (wpAny_Constant_int (mod_int' (by decide) (wpAny_Constant_int (P.sub_int fun a4 s4 hk4 ha4 hl4 => ?_))))))))
          have k24 : Keeps s2 s4 := Keeps.trans (Keeps.tok s2 _) (Keeps.trans hk3 (Keeps.trans (Keeps.tok s3 _) hk4))
          have F4 := F2.kept k24
          have hPP2 : PP < s2.heap.objs.size := by
            obtain ⟨n, ho⟩ := FC.keepPlain hkP hplC
            exact Heap.lt_size (Keeps.keep hk2 _ _ ho)
          have hPP3 : PP < s3.heap.objs.size := by
            obtain ⟨n, ho⟩ := FC.keepPlain hkP hplC
            exact Heap.lt_size (Keeps.keep hk3 _ _ (Keeps.keep hk2 _ _ ho))
          have hPA4 : PAt s4.heap PP (.ref a4) (.num (lf.fmod 3 - 1)) := .num (Nat.ne_of_gt (Nat.lt_of_lt_of_le hPP3 ha4)) hl4
          exact st_local F4 hE fun s5 m5 F5 b1 _ b3 => (hR2 _ _).mpr ⟨rfl, m5, _, _, F5, b1, hPA4.keepS (F4.keepS b3 PP), by simp [wt], KeepL.trans hkP (KeepL.trans (Keep.l (Keeps.keep (Keeps.trans hk2 k24))) b3)⟩
        · rw [decide_eq_false h12, if_neg (by decide)]
          have hPA2 := hPA.keep (Keeps.keep hk2)
          have hkP2 : KeepL env sC.heap s2.heap := KeepL.trans hkP (Keep.l (Keeps.keep hk2))
          exact wpAny_execs_nil ((hR2 _ _).mpr ⟨rfl, mP, pv, pp, F2.tok _, hplan, hPA2, by omega, hkP2⟩)
      · obtain ⟨rfl, mQ, qv, qp, FQ, hplanQ, hPQ, hwQ, hkQ⟩ := (hR2 _ _).mp hf2
        show wpAny _ _ (execs _ env) _ _ _
        have hplQ := FC.keepPlain hkQ hplC
        have hallQ := hallC.keepS (FC.keepS hkQ PP)
        obtain ⟨nn, hoQ⟩ := id hplQ
        refine wpAny_execs_cons (wpAny_Expr (MethodCall_ (ev_cell FQ.rd hE hcP hcpB (getMethod_list_append hoQ rfl rfl (callWith_method1 (args_cons (ev_local FQ.rd hE hplanQ (args_nil ?_)) rfl) rfl rfl)))) (by simp only [interactive, hE.sc]; rfl))
        refine list_append (s₀ := s) (env := env) (sc := default) (m := mQ) (cm := cmB) hplQ (by omega) fun hZ hplZ hsZ => ?_
        have FZ : Inn s env mQ cmB { s₂ with heap := hZ } := FQ.app hsZ hsP hPL hPc
        refine wpAny_execs_nil ⟨mQ, cmB, FZ, fun b o h1 h2 h3 e => hsZ.extBut b o (by simpa using h3) (hkQ b o h1 h2 (kXC b o h1 h2 e)), hcpB, us ++ [qv], ps ++ [qp], hplZ, ?_, ?_, by rw [List.length_append]; omega, by rw [List.length_append, List.length_singleton]; omega⟩
        · exact (hallQ.append (.cons hPQ .nil)).keepS fun b o hb e _ => hsZ.extBut b o hb e
        · intro p hp
          rcases List.mem_append.mp hp with hp | hp
          · exact hwt p hp
          · rw [List.mem_singleton] at hp; subst hp; exact hwQ
  · rintro m' cm' s' F' ⟨hcp, us, ps, hpl, hall, hwt, hge, hle⟩
    refine wpAny_execs_cons (wpAny_Return_some (ev_cell F'.rd hE hcP hcp ?_))
    refine h PP s' us ps F'.done hpl.isList hall hwt ?_
    have : (vs.take 63).toArray.size ≤ 63 := by rw [List.size_toArray, List.length_take]; omega
    omega
end Mine

theorem PySem.Challenge.cw_dz0118_01_holds : PySem.Challenge.rw_dz0118_01.Holds := by
  exact Mine.hd (by
    k_go0
    rename (Mine.hd.heap_39 _).In _ => KX
    rename Top _ _ _ _ _ _ => T
    rename Glob _ _ _ _ _ _ _ _ => GL
    rename Fr _ _ _ _ => F
    rename IntsAre _ _ => hI
    rename Heap.IsList _ _ _ => hL
    rename Below _ _ _ _ => K0
    rename ¬ ((63 : Nat) : Int) < _ => hlen
    have am : Mine.Amb _ _ := ⟨KX, ⟨_, _, _, _, topRead_of T⟩, GL.seer⟩
    refine Mine.law_body rfl rfl rfl (Mine.plans_say _ _) K0 am (topRead_of T) ?_ ?_ ?_ ?_ ?_ (Mine.Inn.ofFr rfl F ⟨_, _, rfl⟩) rfl hL hI ?_ fun s' m' F' => ?_
    · decide +kernel
    · decide +kernel
    · decide +kernel
    · decide +kernel
    · exact Heap.lt_size (KX 21 _ rfl) |> fun h => Nat.lt_trans (by decide) h
    · omega
    · rename Shared.gens _ = #[] => hg
      have hs : ∃ h tk, s' = { (_ : Shared) with heap := h, toks := tk } := F'.toInCall.same
      obtain ⟨h', tk', rfl⟩ := hs
      refine goodW_bool F'.fr hg ?_ ?_ rfl
      · intro cls; rfl
      · first | kc_post | wrow_post)
