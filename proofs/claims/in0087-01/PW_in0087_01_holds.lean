import PyProof.Rows.All
import Wide.All
import OpenK.AllK
import Wide.FinOn
import KE.KTryDeep
import PySem.Challenge.RW_in0087_01
open PySem PySem.W PyProof.Rows
set_option Elab.async false
set_option compiler.extract_closed false
set_option maxRecDepth 100000
set_option maxHeartbeats 8000000
noncomputable section
namespace Mine
local macro_rules | `(tactic| walk_at $s:str) => `(tactic| k_extra $s)

-- L_head
section
open_top hd for PySem.Challenge.rw_in0087_01
end

-- L_key
section
theorem words_L_key : True := by
  w_top off
  k_with_none
  (k_with "ne" => with_reducible first | exact Nat.ne_of_lt (‹@LT.lt _ _ _ _ ∧ _›).1 | exact Nat.ne_of_gt (‹@LT.lt _ _ _ _ ∧ _›).1 | exact Nat.ne_of_lt (‹_ ∧ @LT.lt _ _ _ _ ∧ _›).2.1 | exact Nat.ne_of_gt (‹_ ∧ @LT.lt _ _ _ _ ∧ _›).2.1 | exact Nat.ne_of_lt (‹_ ∧ _ ∧ @LT.lt _ _ _ _ ∧ _›).2.2.1 | exact Nat.ne_of_gt (‹_ ∧ _ ∧ @LT.lt _ _ _ _ ∧ _›).2.2.1 | exact Nat.ne_of_lt (‹_ ∧ _ ∧ _ ∧ @LT.lt _ _ _ _ ∧ _›).2.2.2.1 | exact Nat.ne_of_gt (‹_ ∧ _ ∧ _ ∧ @LT.lt _ _ _ _ ∧ _›).2.2.2.1 | exact Nat.ne_of_lt (‹_ ∧ _ ∧ _ ∧ _ ∧ @LT.lt _ _ _ _ ∧ _›).2.2.2.2.1 | exact Nat.ne_of_gt (‹_ ∧ _ ∧ _ ∧ _ ∧ @LT.lt _ _ _ _ ∧ _›).2.2.2.2.1 | exact Nat.ne_of_lt (‹_ ∧ _ ∧ _ ∧ _ ∧ _ ∧ @LT.lt _ _ _ _ ∧ _›).2.2.2.2.2.1 | exact Nat.ne_of_gt (‹_ ∧ _ ∧ _ ∧ _ ∧ _ ∧ @LT.lt _ _ _ _ ∧ _›).2.2.2.2.2.1 | exact Nat.ne_of_lt (‹_ ∧ _ ∧ _ ∧ _ ∧ _ ∧ _ ∧ @LT.lt _ _ _ _ ∧ _›).2.2.2.2.2.2.1 | exact Nat.ne_of_gt (‹_ ∧ _ ∧ _ ∧ _ ∧ _ ∧ _ ∧ @LT.lt _ _ _ _ ∧ _›).2.2.2.2.2.2.1 | exact Nat.ne_of_lt (‹_ ∧ _ ∧ _ ∧ _ ∧ _ ∧ _ ∧ _ ∧ @LT.lt _ _ _ _ ∧ _›).2.2.2.2.2.2.2.1 | exact Nat.ne_of_gt (‹_ ∧ _ ∧ _ ∧ _ ∧ _ ∧ _ ∧ _ ∧ @LT.lt _ _ _ _ ∧ _›).2.2.2.2.2.2.2.1 | exact Nat.ne_of_lt (‹_ ∧ _ ∧ _ ∧ _ ∧ _ ∧ _ ∧ _ ∧ _ ∧ @LT.lt _ _ _ _ ∧ _›).2.2.2.2.2.2.2.2.1 | exact Nat.ne_of_gt (‹_ ∧ _ ∧ _ ∧ _ ∧ _ ∧ _ ∧ _ ∧ _ ∧ @LT.lt _ _ _ _ ∧ _›).2.2.2.2.2.2.2.2.1 | exact Nat.ne_of_lt (‹_ ∧ _ ∧ _ ∧ _ ∧ _ ∧ _ ∧ _ ∧ _ ∧ _ ∧ @LT.lt _ _ _ _ ∧ _›).2.2.2.2.2.2.2.2.2.1 | exact Nat.ne_of_gt (‹_ ∧ _ ∧ _ ∧ _ ∧ _ ∧ _ ∧ _ ∧ _ ∧ _ ∧ @LT.lt _ _ _ _ ∧ _›).2.2.2.2.2.2.2.2.2.1 | exact Nat.ne_of_lt (‹_ ∧ _ ∧ _ ∧ _ ∧ _ ∧ _ ∧ _ ∧ _ ∧ _ ∧ _ ∧ @LT.lt _ _ _ _ ∧ _›).2.2.2.2.2.2.2.2.2.2.1 | exact Nat.ne_of_gt (‹_ ∧ _ ∧ _ ∧ _ ∧ _ ∧ _ ∧ _ ∧ _ ∧ _ ∧ _ ∧ @LT.lt _ _ _ _ ∧ _›).2.2.2.2.2.2.2.2.2.2.1 | exact Nat.ne_of_lt (‹_ ∧ _ ∧ _ ∧ _ ∧ _ ∧ _ ∧ _ ∧ _ ∧ _ ∧ _ ∧ _ ∧ @LT.lt _ _ _ _ ∧ _›).2.2.2.2.2.2.2.2.2.2.2.1 | exact Nat.ne_of_gt (‹_ ∧ _ ∧ _ ∧ _ ∧ _ ∧ _ ∧ _ ∧ _ ∧ _ ∧ _ ∧ _ ∧ @LT.lt _ _ _ _ ∧ _›).2.2.2.2.2.2.2.2.2.2.2.1 | exact Nat.ne_of_lt (‹_ ∧ _ ∧ _ ∧ _ ∧ _ ∧ _ ∧ _ ∧ _ ∧ _ ∧ _ ∧ _ ∧ _ ∧ @LT.lt _ _ _ _ ∧ _›).2.2.2.2.2.2.2.2.2.2.2.2.1 | exact Nat.ne_of_gt (‹_ ∧ _ ∧ _ ∧ _ ∧ _ ∧ _ ∧ _ ∧ _ ∧ _ ∧ _ ∧ _ ∧ _ ∧ @LT.lt _ _ _ _ ∧ _›).2.2.2.2.2.2.2.2.2.2.2.2.1 | exact Nat.ne_of_lt (‹_ ∧ _ ∧ _ ∧ _ ∧ _ ∧ _ ∧ _ ∧ _ ∧ _ ∧ _ ∧ _ ∧ _ ∧ _ ∧ @LT.lt _ _ _ _ ∧ _›).2.2.2.2.2.2.2.2.2.2.2.2.2.1 | exact Nat.ne_of_gt (‹_ ∧ _ ∧ _ ∧ _ ∧ _ ∧ _ ∧ _ ∧ _ ∧ _ ∧ _ ∧ _ ∧ _ ∧ _ ∧ @LT.lt _ _ _ _ ∧ _›).2.2.2.2.2.2.2.2.2.2.2.2.2.1)
  (k_with "adr" => (repeat (first | exact List.Mem.head _ | refine List.Mem.tail _ ?_)))
  (k_with "mine cx" => exact ⟨by assumption, by assumption, by assumption, by assumption, rfl, rfl, rfl, by (first | exact Nat.le_trans (Nat.succ_le_succ (show _ ≤ 330 by assumption)) (by decide) | exact Nat.le_trans (Nat.succ_le_succ (show _ ≤ 340 by assumption)) (by decide) | exact Nat.le_trans (Nat.succ_le_succ (show _ ≤ 345 by assumption)) (by decide) | exact Nat.le_trans (Nat.succ_le_succ (show _ ≤ 350 by assumption)) (by decide) | (simp only [depth_deeper]; omega)), by (first | exact Nat.le_trans (Nat.add_le_add_right (show _ ≤ 100 by assumption) 3) (by decide) | exact Nat.le_trans (Nat.add_le_add_right (show _ ≤ 130 by assumption) 3) (by decide) | exact Nat.le_trans (Nat.add_le_add_right (show _ ≤ 140 by assumption) 3) (by decide) | exact Nat.le_trans (Nat.add_le_add_right (show _ ≤ 150 by assumption) 3) (by decide) | (simp only [units_deeper]; omega)), rfl, by assumption, by assumption, by assumption⟩)
  trivial
theorem allC {α : Type} {p : α → Prop} {a : α} {l : List α} (h : p a) (g : ∀ x ∈ l, p x) : ∀ x ∈ a :: l, p x := List.forall_mem_cons.mpr ⟨h, g⟩
theorem allA {α : Type} {p : α → Prop} {k l : List α} (h : ∀ x ∈ k, p x) (g : ∀ x ∈ l, p x) : ∀ x ∈ k ++ l, p x := List.forall_mem_append.mpr ⟨h, g⟩

/-- the built-in types that the law's things come to -/
noncomputable def tyNames : List String := ["bool", "int", "object", "str", "bytes", "list", "tuple", "dict", "NoneType", "KeyError", "LookupError", "Exception", "BaseException"]

/-- a key of a table of handlers: a text, None, a type -/
inductive MK where
  | str (x : Str)
  | none
  | ty (n : { n : String // n ∈ tyNames })
  deriving DecidableEq

noncomputable def MK.is : MK → Value → Bool
  | .str x, .str y _ => y == x
  | .none, .none => true
  | .ty n, .type m => m == n.1
  | _, _ => false

theorem MK.is_str {x : Str} {v : Value} (h : MK.is (.str x) v = true) : ∃ t, v = .str x t := by
  cases v <;> simp_all [MK.is]
theorem MK.is_none {v : Value} (h : MK.is .none v = true) : v = .none := by
  cases v <;> simp_all [MK.is]
theorem MK.is_ty {n} {v : Value} (h : MK.is (.ty n) v = true) : v = .type n.1 := by
  cases v <;> simp_all [MK.is]

theorem MK.is_inj (v : Value) (a b : MK) (ha : MK.is a v = true) (hb : MK.is b v = true) : a = b := by
  cases a with
  | str x =>
    obtain ⟨t, rfl⟩ := MK.is_str ha
    cases b with
    | str y => obtain ⟨u, h⟩ := MK.is_str hb; injection h with h; rw [h]
    | none => cases MK.is_none hb
    | ty n => cases MK.is_ty hb
  | none =>
    obtain rfl := MK.is_none ha
    cases b with
    | str y => obtain ⟨u, h⟩ := MK.is_str hb; cases h
    | none => rfl
    | ty n => cases MK.is_ty hb
  | ty n =>
    obtain rfl := MK.is_ty ha
    cases b with
    | str y => obtain ⟨u, h⟩ := MK.is_str hb; cases h
    | none => cases MK.is_none hb
    | ty m => have h := MK.is_ty hb; injection h with h; exact congrArg MK.ty (Subtype.ext h)

/-- the hash of a type: by its id in this world -/
noncomputable def hashTy (w : World) (n : String) : Int :=
  let y : Nat := ((w.params.idOfImm (.type n)) % (2 ^ 64 : Int)).toNat
  let r : Nat := (y / 16 + (y % 16) * 2 ^ 60) % 2 ^ 64
  let h : Int := if r < 2 ^ 63 then (r : Int) else (r : Int) - 2 ^ 64
  if h == -1 then -2 else h

noncomputable def MK.hash (w : World) : MK → Int
  | .str x => hashStr w x
  | .none => 0xFCA86420
  | .ty n => hashTy w n.1

section
variable {prog : Program} {w : World} {A : Around} {E : Value → Shared → Prop} {s : Shared}

theorem meta_of {n : String} (h : n ∈ tyNames) (s' : Shared) : s'.TypeIs (.type n) "type" := by
  have : ∀ n ∈ tyNames, typeOf (.type n) = pure (.type "type") := by
    intro n h
    simp only [tyNames, List.mem_cons, List.not_mem_nil, or_false] at h
    rcases h with rfl | rfl | rfl | rfl | rfl | rfl | rfl | rfl | rfl | rfl | rfl | rfl | rfl <;> kernel_rfl
  exact this n h

theorem slot_none_hash : Slot "NoneType" "__hash__" "NoneType.__hash__" :=
  .of (owner := "NoneType") (n := "__hash__") (by rw [typeLookup_type, builtinLookup_eq_fast]; kernel_rfl) (by decide +kernel) (by decide +kernel) (by decide +kernel)
    (by first | exact .inl (by decide +kernel) | exact .inr (by decide +kernel)) (by rw [isSubtype_type]; kernel_rfl)
theorem entry_none_hash : entryFor table "NoneType.__hash__" = some Builtin.«NoneType.__hash__» := entryFor_of_tree (by kernel_rfl)
theorem args_none_hash (a : Value) : argsOk "NoneType.__hash__" ⟨[a], []⟩ := by unfold argsOk; kernel_rfl
theorem slot_type_hash : Slot "type" "__hash__" "object.__hash__" :=
  .of (owner := "object") (n := "__hash__") (by rw [typeLookup_type, builtinLookup_eq_fast]; kernel_rfl) (by decide +kernel) (by decide +kernel) (by decide +kernel)
    (by first | exact .inl (by decide +kernel) | exact .inr (by decide +kernel)) (by rw [isSubtype_type]; kernel_rfl)
theorem entry_object_hash : entryFor table "object.__hash__" = some Builtin.«object.__hash__» := entryFor_of_tree (by kernel_rfl)
theorem args_object_hash (a : Value) : argsOk "object.__hash__" ⟨[a], []⟩ := by unfold argsOk; kernel_rfl

theorem pyHash_none {Q : Int → Shared → Prop} (h : Q 0xFCA86420 { s with toks := s.toks + 1 }) : wpAny (model prog w) A (pyHash .none) Q E s := by
  have hT : s.TypeIs .none "NoneType" := rfl
  unfold pyHash pyHashByItsType
  have hv : [Value.none].any Value.onHeap = false := rfl
  refine wpAny_bind ?_
  rw [cRoomFor, if_neg (by rw [hv]; exact Bool.false_ne_true)]; refine wpAny_pure ?_
  refine wpAny_bind (wpAny_specialOf hT slot_none_hash.lookup ?_)
  show wpAny _ _ (if (some (Value.builtin "NoneType.__hash__") == some Value.none) = true then _ else _) Q E s
  rw [if_neg (by rw [beq_builtin_none]; exact Bool.false_ne_true)]
  refine wpAny_bind (wpAny_specialOf hT slot_none_hash.lookup ?_)
  show wpAny _ _ (callSpecialIfBoundUnlessNone? .none "__hash__" _ >>= _) Q E s
  refine wpAny_bind (wpAny_callSpecialIfBoundUnlessNone?_slot hT slot_none_hash
    (wpAny_call_entry slot_none_hash hT entry_none_hash
      (show wpAny _ _ (do ret (← mkInt 0xFCA86420)) _ _ s from wpAny_ret_mkInt ?_) (args_none_hash _)))
  show wpAny _ _ (if (decide (-(2 : Int) ^ 63 ≤ 0xFCA86420) && decide ((0xFCA86420 : Int) < 2 ^ 63)) = true then _ else _) Q E _
  rw [if_pos (by decide)]
  exact wpAny_pure h

theorem hashTy_range (n : String) : -2 ^ 63 ≤ hashTy w n ∧ hashTy w n < 2 ^ 63 ∧ hashTy w n ≠ -1 := by
  unfold hashTy
  dsimp only
  generalize ((w.params.idOfImm (.type n)) % (2 ^ 64 : Int)).toNat = y
  generalize hr : (y / 16 + (y % 16) * 2 ^ 60) % 2 ^ 64 = r
  have : r < 2 ^ 64 := by rw [← hr]; exact Nat.mod_lt _ (by decide)
  split <;> split <;> simp_all <;> omega

theorem pyHash_type {n : String} (hn : n ∈ tyNames) {Q : Int → Shared → Prop} (h : Q (hashTy w n) { s with toks := s.toks + 1 }) : wpAny (model prog w) A (pyHash (.type n)) Q E s := by
  have hT : ∀ s' : Shared, s'.TypeIs (.type n) "type" := meta_of hn
  unfold pyHash pyHashByItsType
  have hv : [Value.type n].any Value.onHeap = false := rfl
  refine wpAny_bind ?_
  rw [cRoomFor, if_neg (by rw [hv]; exact Bool.false_ne_true)]; refine wpAny_pure ?_
  refine wpAny_bind (wpAny_specialOf (hT s) slot_type_hash.lookup ?_)
  show wpAny _ _ (if (some (Value.builtin "object.__hash__") == some Value.none) = true then _ else _) Q E s
  rw [if_neg (by rw [beq_builtin_none]; exact Bool.false_ne_true)]
  refine wpAny_bind (wpAny_specialOf (hT s) slot_type_hash.lookup ?_)
  show wpAny _ _ (callSpecialIfBoundUnlessNone? (.type n) "__hash__" _ >>= _) Q E s
  obtain ⟨r1, r2, r3⟩ := hashTy_range (w := w) n
  refine wpAny_bind (wpAny_callSpecialIfBoundUnlessNone?_slot (hT s) slot_type_hash
    (wpAny_call_entry slot_type_hash (hT s) entry_object_hash
      (show wpAny _ _ (idOf (.type n) >>= fun i => _) _ _ s from ?_) (args_object_hash _)))
  refine wpAny_bind ?_
  show wpAny _ _ (ask >>= fun x => pure (x.params.idOfImm (.type n))) _ _ s
  refine wpAny_bind (wpAny_askSetting (wpAny_pure ?_))
  show wpAny _ _ (do ret (← mkInt (hashTy w n))) _ _ s
  refine wpAny_ret_mkInt ?_
  show wpAny _ _ (if (decide (-(2 : Int) ^ 63 ≤ hashTy w n) && decide (hashTy w n < 2 ^ 63)) = true then pure (if (hashTy w n == -1) = true then -2 else hashTy w n) else _) Q E _
  rw [if_pos (by rw [decide_eq_true r1, decide_eq_true r2]; rfl), if_neg (by simpa using r3)]
  exact wpAny_pure h

theorem sub_type_str : isSubtype (.type "type") (.type "str") = pure false := by rw [isSubtype_type]; kernel_rfl
theorem sub_str_type : isSubtype (.type "str") (.type "type") = pure false := by rw [isSubtype_type]; kernel_rfl
theorem sub_type_none : isSubtype (.type "type") (.type "NoneType") = pure false := by rw [isSubtype_type]; kernel_rfl
theorem sub_none_type : isSubtype (.type "NoneType") (.type "type") = pure false := by rw [isSubtype_type]; kernel_rfl
theorem str_eq_type (a : Str) (t : Tok) (n : String) : Gives (Builtin.«str.__eq__» ⟨[.str a t, .type n], []⟩) (.val (Value.notImplemented)) :=
  .of_wp fun M A E s Q h => by obtain ⟨hp, g, d, tk, os⟩ := s; wp_walk; exact ⟨_, rfl, h⟩
theorem none_eq_type (n : String) : Gives (Builtin.«NoneType.__eq__» ⟨[.none, .type n], []⟩) (.val (Value.notImplemented)) :=
  .of_wp fun M A E s Q h => by obtain ⟨hp, g, d, tk, os⟩ := s; wp_walk; exact ⟨_, rfl, h⟩

theorem rc_str_type {a : Str} {t : Tok} {n : String} (hn : n ∈ tyNames) {Q : Value → Shared → Prop} (h : Q (.bool false) s) : wpAny (model prog w) A (richCompare .Eq (.str a t) (.type n)) Q E s :=
  EqNone.wpAny_richCompare_eq_decline (k := false) (fun s' => typeIs_str s' a t) (meta_of hn) (by decide) sub_type_str F.slot_str_eq TypeEq.slot_type_eq_refl rfl
    (call_gives F.slot_str_eq (typeIs_str s a t) F.entry_str_eq (F.args_str_eq_2 _ _) (str_eq_type a t n)
      ⟨rfl, call_gives TypeEq.slot_type_eq_refl (meta_of hn s) F.entry_object_eq (F.args_object_eq_2 _ _) (TypeEq.object_eq_other rfl rfl) ⟨rfl, h⟩⟩)
theorem rc_type_str {a : Str} {t : Tok} {n : String} (hn : n ∈ tyNames) {Q : Value → Shared → Prop} (h : Q (.bool false) s) : wpAny (model prog w) A (richCompare .Eq (.type n) (.str a t)) Q E s :=
  EqNone.wpAny_richCompare_eq_decline (k := false) (meta_of hn) (fun s' => typeIs_str s' a t) (by decide) sub_str_type TypeEq.slot_type_eq F.slot_str_eq_refl rfl
    (call_gives TypeEq.slot_type_eq (meta_of hn s) F.entry_object_eq (F.args_object_eq_2 _ _) (TypeEq.object_eq_other rfl rfl)
      ⟨rfl, call_gives F.slot_str_eq_refl (typeIs_str s a t) F.entry_str_eq (F.args_str_eq_2 _ _) (str_eq_type a t n) ⟨rfl, h⟩⟩)
theorem rc_none_type {n : String} (hn : n ∈ tyNames) {Q : Value → Shared → Prop} (h : Q (.bool false) s) : wpAny (model prog w) A (richCompare .Eq .none (.type n)) Q E s :=
  EqNone.wpAny_richCompare_eq_decline (k := false) (fun _ => rfl) (meta_of hn) (by decide) sub_type_none F.slot_NoneType_eq TypeEq.slot_type_eq_refl rfl
    (call_gives F.slot_NoneType_eq rfl F.entry_NoneType_eq (F.args_NoneType_eq_2 _ _) (none_eq_type n)
      ⟨rfl, call_gives TypeEq.slot_type_eq_refl (meta_of hn s) F.entry_object_eq (F.args_object_eq_2 _ _) (TypeEq.object_eq_other rfl rfl) ⟨rfl, h⟩⟩)
theorem rc_type_none {n : String} (hn : n ∈ tyNames) {Q : Value → Shared → Prop} (h : Q (.bool false) s) : wpAny (model prog w) A (richCompare .Eq (.type n) .none) Q E s :=
  EqNone.wpAny_richCompare_eq_decline (k := false) (meta_of hn) (fun _ => rfl) (by decide) sub_none_type TypeEq.slot_type_eq F.slot_NoneType_eq_refl rfl
    (call_gives TypeEq.slot_type_eq (meta_of hn s) F.entry_object_eq (F.args_object_eq_2 _ _) (TypeEq.object_eq_other rfl rfl)
      ⟨rfl, call_gives F.slot_NoneType_eq_refl rfl F.entry_NoneType_eq (F.args_NoneType_eq_2 _ _) (none_eq_type n) ⟨rfl, h⟩⟩)

theorem eqBool_rc {a b : Value} {r : Bool} (hne : (a == b) = false) (hf : ∀ x t y u, (a, b) ≠ (.float x t, .float y u)) {Q : Bool → Shared → Prop}
    (h : wpAny (model prog w) A (richCompare .Eq a b) (fun v s' => v = .bool r ∧ Q r s') E s) : wpAny (model prog w) A (eqBool a b) Q E s := by
  unfold eqBool
  refine wpAny_holding ?_
  rw [if_neg (by rw [hne]; exact Bool.false_ne_true)]
  split
  · rename_i e; exact absurd e (hf _ _ _ _)
  · refine wpAny_bind (wpAny_mono h (fun v s' ⟨e, q⟩ => ?_) fun _ _ x => x)
    subst e
    exact wpAny_truthy_bool q

end

noncomputable def mixKind (prog : Program) (w : World) : KeyKind prog w MK where
  is := MK.is
  hash := MK.hash w
  inj := MK.is_inj
  byValue := fun k v h => by
    cases k with
    | str x => obtain ⟨t, rfl⟩ := MK.is_str h; rfl
    | none => obtain rfl := MK.is_none h; rfl
    | ty n => obtain rfl := MK.is_ty h; rfl
  pyHash := fun {A E s k v Q} h q => by
    cases k with
    | str x => obtain ⟨t, rfl⟩ := MK.is_str h; exact wpAny_pyHash_str q
    | none => obtain rfl := MK.is_none h; exact pyHash_none q
    | ty n => obtain rfl := MK.is_ty h; exact pyHash_type n.2 q
  eqBool := fun {A E s a b u v Q} ha hb q => by
    cases a with
    | str x =>
      obtain ⟨t, rfl⟩ := MK.is_str ha
      cases b with
      | str y =>
        obtain ⟨u, rfl⟩ := MK.is_str hb
        refine wpAny_eqBool_str ?_
        have e : decide (MK.str x = MK.str y) = decide (x = y) := by simp
        rw [← e]; exact q
      | none =>
        obtain rfl := MK.is_none hb
        exact eqBool_rc (r := false) rfl (by rintro _ _ _ _ ⟨⟩) (EqNone.eq_str_none ⟨rfl, q⟩)
      | ty n =>
        obtain rfl := MK.is_ty hb
        exact eqBool_rc (r := false) rfl (by rintro _ _ _ _ ⟨⟩) (rc_str_type n.2 ⟨rfl, q⟩)
    | none =>
      obtain rfl := MK.is_none ha
      cases b with
      | str y =>
        obtain ⟨u, rfl⟩ := MK.is_str hb
        exact eqBool_rc (r := false) rfl (by rintro _ _ _ _ ⟨⟩) (EqNone.eq_none_str ⟨rfl, q⟩)
      | none =>
        obtain rfl := MK.is_none hb
        unfold PySem.eqBool
        refine wpAny_holding ?_
        rw [if_pos (beq_self_eq_true _)]
        exact wpAny_bind (wpAny_rule (wpAny_pure q))
      | ty n =>
        obtain rfl := MK.is_ty hb
        exact eqBool_rc (r := false) rfl (by rintro _ _ _ _ ⟨⟩) (rc_none_type n.2 ⟨rfl, q⟩)
    | ty n =>
      obtain rfl := MK.is_ty ha
      cases b with
      | str y =>
        obtain ⟨u, rfl⟩ := MK.is_str hb
        exact eqBool_rc (r := false) rfl (by rintro _ _ _ _ ⟨⟩) (rc_type_str n.2 ⟨rfl, q⟩)
      | none =>
        obtain rfl := MK.is_none hb
        exact eqBool_rc (r := false) rfl (by rintro _ _ _ _ ⟨⟩) (rc_type_none n.2 ⟨rfl, q⟩)
      | ty m =>
        obtain rfl := MK.is_ty hb
        by_cases e : n = m
        · subst e
          unfold PySem.eqBool
          refine wpAny_holding ?_
          rw [if_pos (beq_self_eq_true _)]
          rw [decide_eq_true rfl] at q
          exact wpAny_bind (wpAny_rule (wpAny_pure q))
        · have hne : (Value.type n.1 == Value.type m.1) = false := beq_eq_false_iff_ne.mpr fun z => e (Subtype.ext (by injection z))
          have hd : decide (MK.ty n = MK.ty m) = false := decide_eq_false fun z => e (by injection z)
          rw [hd] at q
          exact eqBool_rc (r := false) hne (by rintro _ _ _ _ ⟨⟩) (TypeEq.eq_type_other (meta_of n.2) (meta_of m.2) hne ⟨rfl, q⟩)
  «strs» := fun k x t v h => by
    cases k with
    | str y =>
      obtain ⟨u, e⟩ := MK.is_str h
      injection e with e
      subst e
      cases v <;> rfl
    | none => cases MK.is_none h
    | ty n => cases MK.is_ty h

section
variable {prog : Program} {w : World}
theorem mix_str (x : Str) (t : Tok) : (mixKind prog w).is (.str x) (.str x t) = true := by simp [mixKind, MK.is]
theorem mix_none : (mixKind prog w).is .none .none = true := rfl
theorem mix_ty (n) : (mixKind prog w).is (.ty n) (.type n.1) = true := by simp [mixKind, MK.is]

/-- a dict just made is a table of no handlers -/
theorem mix_empty {o : Obj} (h : o.IsDictOf (strKind prog w) []) : o.IsDictOf (mixKind prog w) [] := by
  obtain ⟨es, ep, h1, h2, h3, h4, h5⟩ := h
  have e : es.toList = [] := by cases hl : es.toList with
    | nil => rfl
    | cons a r => rw [hl] at h4; cases h4
  have e' : es = #[] := by cases es; simp_all
  subst e'
  exact ⟨#[], ep, h1, h2, fun e he => by simp at he, .nil, List.nodup_nil⟩
end
end

-- L_rules
section
section
variable {prog : Program} {w : World} {A : Around} {E : Value → Shared → Prop} {s : Shared} {h₀ : Heap} {L d : Addr} {m : Str → Option Value} {news : List (Addr × Obj)} {o : Obj} {kvs : List (MK × Value)} {k : MK} {key : Value}

theorem mix_at (N : News h₀ L s.heap news) (hm : (d, o) ∈ news) (hd : o.IsDictOf (mixKind prog w) kvs) : s.heap.DictOf (mixKind prog w) d kvs :=
  Heap.dictOf_iff.mpr ⟨o, (N _ hm).1, hd⟩

theorem in_mix {Q : Value → Shared → Prop} (N : News h₀ L s.heap news) (hm : (d, o) ∈ news) (hd : o.IsDictOf (mixKind prog w) kvs) (hs : (d == sysModules) = false) (hk : (mixKind prog w).is k key = true)
    (h : Q (.bool (valueAt kvs k).isSome) { s with toks := s.toks + 1 }) : wpAny (model prog w) A (compareOp .In key (.ref d)) Q E s :=
  wpAny_in_of hk hs (mix_at N hm hd).mapOf h

theorem item_mix {value slice : Expr} {v : Value} {Q : Value → Shared → Prop} (N : News h₀ L s.heap news) (hm : (d, o) ∈ news) (hd : o.IsDictOf (mixKind prog w) kvs) (hk : (mixKind prog w).is k key = true)
    (hv : valueAt kvs k = some v) (h : Q v { s with toks := s.toks + 1 })
    (hs : subscripted slice false (.ref d) key = operate [.ref d, key] (getItem (.ref d) key)) :
    wpAny (model prog w) A (subscriptTail value slice (.ref d) key) Q E s :=
  tail_any (mix_at N hm hd).typeIs slot_dict_getitem.lookup (wpAny_getItem_of hk (mix_at N hm hd).mapOf hv h) hs

theorem item_mixD {value slice : Expr} {Q : Value → Shared → Prop} (N : News h₀ L s.heap news) (hm : (d, o) ∈ news) (hd : o.IsDictOf (mixKind prog w) kvs) (hk : (mixKind prog w).is k key = true)
    (hv : (valueAt kvs k).isSome = true) (h : Q ((valueAt kvs k).getD .none) { s with toks := s.toks + 1 })
    (hs : subscripted slice false (.ref d) key = operate [.ref d, key] (getItem (.ref d) key)) :
    wpAny (model prog w) A (subscriptTail value slice (.ref d) key) Q E s := by
  cases e : valueAt kvs k with
  | none => rw [e] at hv; cases hv
  | some v => rw [e] at h; exact item_mix N hm hd hk e h hs

theorem set_mix {v : Value} {Q : Unit → Shared → Prop} {g : Obj → List (Addr × Obj)} (F : Fr h₀ L s.heap m) (N : News h₀ L s.heap news) (U : UpdF d o news g) (hd : o.IsDictOf (mixKind prog w) kvs) (hk : (mixKind prog w).is k key = true)
    (hz : kvs.length ≤ sizeLine)
    (h : ∀ h' o', Fr h₀ L h' m → News h₀ L h' (g o') → o'.IsDictOf (mixKind prog w) (stored kvs k v) → Q () { s with heap := h', toks := s.toks + 1 }) :
    wpAny (model prog w) A (setItem (.ref d) key v) Q E s := by
  obtain ⟨own, rest, rfl, hg, h1, h2⟩ := U.split
  have hmem := N (d, o) (List.mem_append_right _ (.head _))
  refine wpAny_setItem_pairs (hsz := hz) hk (mix_at N (List.mem_append_right _ (.head _)) hd) fun h' hm' hs' => ?_
  obtain ⟨o', ho', hd'⟩ := Heap.dictOf_iff.mp hm'
  refine h h' o' ⟨F.ns.sameBut hs' (Ne.symm hmem.2.1), fun b ob e => (hs'.2 b (fun q => ?_)).trans (F.keep b ob e), F.above⟩ (hg o' ▸ N.setAt h1 h2 hs' ho') hd'
  rw [q, hmem.2.2] at e; cases e

/-- the last item of a made list -/
theorem last_list {value slice : Expr} {l : Addr} {its : Array Value} {n : Nat} {u : Tok} {v : Value} {Q : Value → Shared → Prop} (N : News h₀ L s.heap news) (hm : (l, W.listOf its n) ∈ news) (hv : its.back? = some v) (h : Q v s)
    (hs : subscripted slice false (.ref l) (.int (-1) u) = operate [.ref l, .int (-1) u] (getItem (.ref l) (.int (-1) u))) :
    wpAny (model prog w) A (subscriptTail value slice (.ref l) (.int (-1) u)) Q E s := by
  have hl : s.heap.IsList l its := ⟨_, (N _ hm).1, rfl, n, rfl⟩
  have hne : 0 < its.size := by
    rcases Nat.eq_zero_or_pos its.size with z | z
    · have : its = #[] := Array.eq_empty_of_size_eq_zero z
      subst this
      simp at hv
    · exact z
  refine tail_any hl.typeIs slot_list_getitem.lookup (wpAny_getItem_list_neg hl (by decide) (by omega) (by decide) ?_ h) hs
  have : ((-1 : Int) + its.size).toNat = its.size - 1 := by omega
  rw [this, ← Array.back?_eq_getElem?]
  exact hv

theorem news_swap {h : Heap} {a b : List (Addr × Obj)} (N : News h₀ L h (a ++ b)) : News h₀ L h (b ++ a) := fun p hp => N p ((List.mem_append.mp hp).elim (List.mem_append_right _) (List.mem_append_left _))
theorem news_sub {h : Heap} {a b : List (Addr × Obj)} (N : News h₀ L h a) (hs : ∀ p ∈ b, p ∈ a) : News h₀ L h b := fun p hp => N p (hs p hp)
end
theorem allLt_get {d : Addr} {l : List (Addr × Obj)} (h : AllLt d l) : ∀ q ∈ l, @LT.lt Nat _ q.1 d := by
  induction l with
  | nil => intro q hq; cases hq
  | cons a r ih =>
    intro q hq
    rcases List.mem_cons.mp hq with rfl | hq
    · exact h.1
    · exact ih h.2 q hq
end

-- L_ks
section
/-- the written part without the statics of the machine -/
noncomputable def KS : Params → Frag := by
  refine' (?f : (K : Params → Frag) → (∀ P, K P = (Mine.hd.heap_39 P).tail) → Params → Frag) _ ?h
  case h => intro P; unfold Mine.hd.heap_39; exact List.tail_cons.symm
  case f => exact fun K _ => K
theorem KS_eq (P : Params) : KS P = (Mine.hd.heap_39 P).tail := rfl
theorem KS_no2 (P : Params) : (KS P).lookup cStatics = none := rfl
theorem in_tail {p : Addr × Obj} {K : Frag} {h : Heap} (X : Frag.In (p :: K) h) (hn : K.lookup p.1 = none) : Frag.In K h := fun a o e => X a o (by
  show (p :: K).lookup a = some o
  rw [List.lookup_cons]
  by_cases q : a == p.1
  · rw [eq_of_beq q, hn] at e
    cases e
  · simp only [q]
    exact e)
theorem K_head (P : Params) : ∃ p, Mine.hd.heap_39 P = p :: KS P ∧ p.1 = cStatics := ⟨_, rfl, rfl⟩
theorem KS_in {P : Params} {h : Heap} (X : (Mine.hd.heap_39 P).In h) : (KS P).In h := by
  obtain ⟨p, h1, h2⟩ := K_head P
  rw [h1] at X
  exact in_tail X (h2 ▸ KS_no2 P)
end

-- L_turn
section
set_option maxHeartbeats 4000000

/-- the ground under a frame has turned: the frames' own slots, and the statics of the machine, which have grown by first uses -/
structure Turn (fs : List Addr) (g g' : Heap) : Prop where
  size : g'.objs.size = g.objs.size
  none_ : ∀ b, g.get? b = none → g'.get? b = none
  other : ∀ b o, g.get? b = some o → b ≠ cStatics → b ∉ fs → g'.get? b = some o
  frame : ∀ b o, g.get? b = some o → b ≠ cStatics → b ∈ fs → ∃ sl, g'.get? b = some { o with slots := sl }
  stat : ∀ mc, g.Ns cStatics mc → ∃ mc', g'.Ns cStatics mc' ∧ ∀ k, mc' k = mc k ∨ (firstUseKey k = true ∧ mc k = none)
  cls : ∀ o, g.get? cStatics = some o → ∃ o', g'.get? cStatics = some o' ∧ o'.cls = o.cls

theorem Turn.refl {fs : List Addr} {g : Heap} : Turn fs g g := ⟨rfl, fun _ e => e, fun _ _ e _ _ => e, fun _ o e _ _ => ⟨o.slots, e⟩, fun mc h => ⟨mc, h, fun _ => .inl rfl⟩, fun o e => ⟨o, e, rfl⟩⟩
theorem Turn.trans {fs : List Addr} {g g₁ g₂ : Heap} (x : Turn fs g g₁) (y : Turn fs g₁ g₂) : Turn fs g g₂ where
  size := y.size.trans x.size
  none_ b e := y.none_ b (x.none_ b e)
  other b o e n m := y.other b o (x.other b o e n m) n m
  frame b o e n m := by
    obtain ⟨s1, h1⟩ := x.frame b o e n m
    obtain ⟨s2, h2⟩ := y.frame b _ h1 n m
    exact ⟨s2, h2⟩
  stat mc h := by
    obtain ⟨m1, h1, k1⟩ := x.stat mc h
    obtain ⟨m2, h2, k2⟩ := y.stat m1 h1
    refine ⟨m2, h2, fun k => ?_⟩
    rcases k2 k with e2 | ⟨f2, e2⟩ <;> rcases k1 k with e1 | ⟨f1, e1⟩
    · exact .inl (e2.trans e1)
    · exact .inr ⟨f1, e1⟩
    · exact .inr ⟨f2, e1 ▸ e2⟩
    · exact .inr ⟨f1, e1⟩
  cls o e := by
    obtain ⟨o1, h1, c1⟩ := x.cls o e
    obtain ⟨o2, h2, c2⟩ := y.cls o1 h1
    exact ⟨o2, h2, c2.trans c1⟩
theorem Turn.mono {fs fs' : List Addr} {g g' : Heap} (x : Turn fs g g') (h : ∀ b ∈ fs, b ∈ fs') : Turn fs' g g' where
  size := x.size
  none_ := x.none_
  other b o e n m := x.other b o e n fun q => m (h b q)
  frame b o e n _ := by
    by_cases q : b ∈ fs
    · exact x.frame b o e n q
    · exact ⟨o.slots, x.other b o e n q⟩
  stat := x.stat
  cls := x.cls
theorem Turn.ofKts {fs : List Addr} {g g' : Heap} (x : KtsTurn fs g g') (hn : cStatics ∉ fs) : Turn fs g g' where
  size := x.size
  none_ := x.none_
  other b o e _ m := x.other b o e m
  frame b o e _ m := x.frame b o e m
  stat mc h := ⟨mc, let ⟨o, es, ep, e, r⟩ := h; ⟨o, es, ep, x.other _ _ e hn, r⟩, fun _ => .inl rfl⟩
  cls o e := ⟨o, x.other _ _ e hn, rfl⟩

noncomputable def tHeap (h : Heap) : List Addr → Heap → Heap
  | [], g => g
  | b :: r, g => (tHeap h r g).update b fun o => (h.get? b).getD o
theorem tHeap_size : ∀ (l : List Addr) (h g : Heap), (tHeap h l g).objs.size = g.objs.size
  | [], _, _ => rfl
  | b :: r, h, g => by
    show ((tHeap h r g).update b _).objs.size = g.objs.size
    rw [Heap.size_after_update]
    exact tHeap_size r h g
theorem tHeap_ne : ∀ (l : List Addr) {h g : Heap} {b : Addr}, b ∉ l → (tHeap h l g).get? b = g.get? b
  | [], _, _, _, _ => rfl
  | a :: r, h, g, b, n => by
    show ((tHeap h r g).update a _).get? b = _
    rw [Heap.get?_update_other _ _ (fun q : a = b => n (by rw [q]; exact List.Mem.head _))]
    exact tHeap_ne r fun q => n (List.Mem.tail _ q)
theorem tHeap_some : ∀ (l : List Addr) {h g : Heap} {b : Addr} {o o' : Obj}, b ∈ l → g.get? b = some o → h.get? b = some o' → (tHeap h l g).get? b = some o'
  | [], _, _, _, _, _, m, _, _ => nomatch m
  | a :: r, h, g, b, o, o', m, hg, hh => by
    show ((tHeap h r g).update a _).get? b = _
    by_cases q : a = b
    · subst q
      have inner : ∃ o1, (tHeap h r g).get? a = some o1 := by
        by_cases m' : a ∈ r
        · exact ⟨o', tHeap_some r m' hg hh⟩
        · exact ⟨o, by rw [tHeap_ne r m']; exact hg⟩
      obtain ⟨o1, hi⟩ := inner
      rw [Heap.get?_update_self (fun o => (h.get? a).getD o) hi (by rw [hh]; exact (Heap.get?_some_iff.mp hh).2), hh]
      rfl
    · rw [Heap.get?_update_other _ _ q]
      refine tHeap_some r ?_ hg hh
      rcases List.mem_cons.mp m with e | e
      · exact absurd e.symm q
      · exact e

theorem ff_turn {h h' base base' : Heap} (kb : ∀ b, base.get? b = none → base'.get? b = none) (k : ∀ b o, h.get? b = some o → base.get? b = none → ∃ o', h'.get? b = some o' ∧ o'.data = o.data) :
    ∀ {l : List Env}, h.FunFrames base l → h'.FunFrames base' l
  | [], _ => trivial
  | env :: rest, ⟨hk, ⟨L, o, hf, hn, ho, hd⟩, hr⟩ => by
    obtain ⟨o', ho', hd'⟩ := k L o ho hn
    exact ⟨hk, ⟨L, o', hf, kb _ hn, ho', fun vs => hd' ▸ hd vs⟩, ff_turn kb k hr⟩

section
variable {A₀ : Around} {base base' h₀ g g' : Heap} {outer : List Env} {env : Env} {L : Addr} {m : Str → Option Value}
theorem ground (K : Below A₀ base outer h₀) (FG : Fr h₀ L g m) (TB : Turn [] base base') (TG : Turn ((env :: outer).filterMap (·.frame)) g g') (hf : env.frame = some L) (St : base'.StaysIn g') (hcs : ∃ o, base.get? cStatics = some o) :
    ∃ h₀', Turn (outer.filterMap (·.frame)) h₀ h₀' ∧ Fr h₀' L g' m ∧ Below A₀ base' outer h₀' := by
  obtain ⟨oc, hc⟩ := hcs
  have hc0 := K.stays _ _ hc
  have nL : h₀.get? L = none := by
    cases q : h₀.get? L with
    | none => rfl
    | some o => exact absurd (Nat.lt_of_lt_of_le (Heap.lt_size q) FG.above) (Nat.lt_irrefl _)
  have hLc : L ≠ cStatics := fun q => by rw [q, hc0] at nL; cases nL
  have mem' : ∀ b, b ∈ (env :: outer).filterMap (·.frame) → b = L ∨ b ∈ outer.filterMap (·.frame) := fun b hb => by
    rw [List.filterMap_cons, hf] at hb
    exact List.mem_cons.mp hb
  have memL : L ∈ (env :: outer).filterMap (·.frame) := by rw [List.filterMap_cons, hf]; exact .head _
  have mem2 : ∀ b, b ∈ outer.filterMap (·.frame) → b ∈ (env :: outer).filterMap (·.frame) := fun b hb => by rw [List.filterMap_cons, hf]; exact .tail _ hb
  have frc : ∀ b ∈ outer.filterMap (·.frame), b ≠ cStatics := fun b hb q => by
    have := (K.frames.mem hb).1
    rw [q, hc] at this; cases this
  -- what stands in h₀ stands in g', turned
  have up : ∀ b o, h₀.get? b = some o → ∃ o', g'.get? b = some o' := fun b o e => by
    by_cases q : b = cStatics
    · subst q
      obtain ⟨o', h1, _⟩ := TG.cls _ (FG.keep _ _ e)
      exact ⟨o', h1⟩
    · by_cases q2 : b ∈ (env :: outer).filterMap (·.frame)
      · obtain ⟨sl, h1⟩ := TG.frame b o (FG.keep _ _ e) q q2
        exact ⟨_, h1⟩
      · exact ⟨o, TG.other b o (FG.keep _ _ e) q q2⟩
  have lt : ∀ b, b ∈ cStatics :: outer.filterMap (·.frame) → ∃ o, h₀.get? b = some o := fun b hb => by
    rcases List.mem_cons.mp hb with rfl | hb
    · exact ⟨_, hc0⟩
    · obtain ⟨_, o, ho, _⟩ := K.frames.mem hb
      exact ⟨o, ho⟩
  have low : ∀ b o, b ∈ cStatics :: outer.filterMap (·.frame) → g'.get? b = some o → (tHeap g' (cStatics :: outer.filterMap (·.frame)) h₀).get? b = some o := fun b o hb e => by
    obtain ⟨o0, h0⟩ := lt b hb
    exact tHeap_some _ hb h0 e
  have rest : ∀ b o, b ∉ cStatics :: outer.filterMap (·.frame) → h₀.get? b = some o → g'.get? b = some o := fun b o hb e => by
    refine TG.other b o (FG.keep _ _ e) (fun q => hb (q ▸ .head _)) fun q => ?_
    rcases mem' b q with rfl | q
    · rw [nL] at e; cases e
    · exact hb (.tail _ q)
  have keep : ∀ b o, (tHeap g' (cStatics :: outer.filterMap (·.frame)) h₀).get? b = some o → g'.get? b = some o := fun b o e => by
    by_cases q : b ∈ cStatics :: outer.filterMap (·.frame)
    · obtain ⟨o0, h0⟩ := lt b q
      obtain ⟨o1, h1⟩ := up b o0 h0
      rw [low b o1 q h1] at e
      cases e
      exact h1
    · rw [tHeap_ne _ q] at e
      exact rest b o q e
  refine ⟨tHeap g' (cStatics :: outer.filterMap (·.frame)) h₀, ⟨tHeap_size .., fun b e => ?_, fun b o e n nm => ?_, fun b o e n hm => ?_, fun mc hN => ?_, fun o e => ?_⟩, ⟨?_, keep, by rw [tHeap_size]; exact FG.above⟩, ⟨K.stack, fun b o e => ?_, ?_⟩⟩
  · rw [tHeap_ne]
    · exact e
    · intro q
      obtain ⟨o, h⟩ := lt b q
      rw [e] at h; cases h
  · rw [tHeap_ne]
    · exact e
    · intro q
      rcases List.mem_cons.mp q with q | q
      · exact n q
      · exact nm q
  · obtain ⟨sl, h1⟩ := TG.frame b o (FG.keep _ _ e) n (mem2 b hm)
    exact ⟨sl, low b _ (.tail _ hm) h1⟩
  · obtain ⟨oN, es, ep, eN, r⟩ := hN
    obtain ⟨mc', ⟨o', es', ep', e', r'⟩, h2⟩ := TG.stat mc ⟨oN, es, ep, FG.keep _ _ eN, r⟩
    exact ⟨mc', ⟨o', es', ep', low _ _ (.head _) e', r'⟩, h2⟩
  · obtain ⟨o', h1, h2⟩ := TG.cls o (FG.keep _ _ e)
    exact ⟨o', low _ _ (.head _) h1, h2⟩
  · obtain ⟨oL, es, ep, hL, hd, r⟩ := FG.ns
    obtain ⟨sl, h1⟩ := TG.frame L oL hL hLc memL
    exact ⟨_, es, ep, h1, hd, r⟩
  · by_cases q : b ∈ cStatics :: outer.filterMap (·.frame)
    · exact low b o q (St b o e)
    · rw [tHeap_ne _ q]
      cases q1 : base.get? b with
      | none => rw [TB.none_ b q1] at e; cases e
      | some o1 =>
        have := TB.other b o1 q1 (fun z => q (z ▸ .head _)) List.not_mem_nil
        rw [e] at this
        cases this
        exact K.stays b o q1
  · refine ff_turn TB.none_ (fun b o e en => ?_) K.frames
    have n : b ≠ cStatics := fun z => by rw [z, hc] at en; cases en
    by_cases q : b ∈ outer.filterMap (·.frame)
    · obtain ⟨sl, h1⟩ := TG.frame b o (FG.keep _ _ e) n (mem2 b q)
      exact ⟨_, low b _ (.tail _ q) h1, rfl⟩
    · refine ⟨o, ?_, rfl⟩
      rw [tHeap_ne]
      · exact e
      · intro z
        rcases List.mem_cons.mp z with z | z
        · exact n z
        · exact q z
end
end

-- L_cx
section
abbrev PR : Program := PySem.Challenge.rw_in0087_01.row.prog

/-- what stands around a call that the law makes -/
structure Cx (w : World) (A₀ A : Around) (base h₀ h : Heap) (L : Addr) (m : Str → Option Value) (p : Program) (loose : List Str) (mean : ExcName → Option Value) (mg mb : Str → Option Value) (env : Env) (outer : List Env) : Prop where
  B : Below A₀ base outer h₀
  F : Fr h₀ L h m
  X : (Mine.KS w.params).In h₀
  T : Top p loose mean mg mb h₀
  hA : A.frames = some (env :: outer)
  hf : env.frame = some L
  hke : env.scope.kind = .function
  room : A.depth ≤ 360
  units : A.units ≤ 200
  hh : A.handled = none
  hc : CodeHd base 90 86
  XB : (Mine.KS w.params).In base
  TB : Top p loose mean mg mb base

section
variable {w : World} {A A₀ : Around} {E : Value → Shared → Prop} {s : Shared} {h₀ base : Heap} {L : Addr} {m mg mb : Str → Option Value} {news : List (Addr × Obj)} {p : Program} {loose : List Str} {mean : ExcName → Option Value} {env : Env} {outer : List Env}

theorem enter {name qual : Str} {params : Arguments} {body : List Stmt} {scope : Scope} {dV kV doc pm cdv ct oc : Value} {an od : Option Addr} {osl : Array (Option Value)} {f : Addr} {pos : List Value} {kw : List (Str × Value)} {binds : List (Str × Value)} {Q : Value → Shared → Prop}
    (C : Cx w A₀ A base h₀ s.heap L m p loose mean mg mb env outer) (N : News h₀ L s.heap news)
    (ho : (Mine.KS w.params).lookup f = some ⟨oc, od, .func (fnOf name qual params body scope dV kV doc pm an cdv ct), osl⟩) (hcd : codeIn (Mine.KS w.params) cdv qual = true)
    (hbind : BindsTo s (fnOf name qual params body scope dV kV doc pm an cdv ct) ⟨pos, kw⟩ binds) (hloc : ∀ y ∈ binds, scope.names.lookup y.1 = some .local)
    (hco : scope.isCoroutine = false) (hgen : scope.isGenerator = false) (hk : scope.kind = .function)
    (hcell : ∀ x ∈ scope.names, x.2 ≠ .cell)
    (h : ∀ g L' h₁, Fr h₀ L g m → Fr g L' h₁ (fun y => binds.reverse.lookup y) → News g L' h₁ news → Below A base (env :: outer) g → (Mine.KS w.params).In g → Top p loose mean mg mb g →
      wpAny (model PySem.Challenge.rw_in0087_01.row.prog w) (A.deeper (envOf qual scope L' f cdv)) (execs body (envOf qual scope L' f cdv))
        (fun fl s' => LeaveK h₀ L m g (fun r s' => match r with | .ok (.ret v) => Q v s' | .ok _ => False | .error e => E e s') (match fl with | .ret v => v | _ => .none) s')
        (fun e s' => wpAny (model PySem.Challenge.rw_in0087_01.row.prog w) (A.deeper (envOf qual scope L' f cdv)) (leaving (envOf qual scope L' f cdv) e) (fun _ s'' => E e s'') (fun e' s'' => E e' s'') s')
        { s with heap := h₁, toks := s.toks + binds.length }) :
    wpAny (model PySem.Challenge.rw_in0087_01.row.prog w) A (call (.ref f) pos kw) Q E s :=
  wpAny_call (code_def (R := fun r s' => match r with | .ok (.ret v) => Q v s' | .ok _ => False | .error e => E e s') C.B C.F C.X N C.T C.hA C.hf C.hke ho hcd (Nat.lt_of_le_of_lt C.room (by decide)) hbind hloc h hco hgen hk hcell)

theorem enterC {name qual : Str} {params : Arguments} {body : List Stmt} {scope : Scope} {dV kV doc pm cdv ct oc : Value} {an od : Option Addr} {osl : Array (Option Value)} {f : Addr} {pos : List Value} {kw : List (Str × Value)} {binds : List (Str × Value)} {Q : Value → Shared → Prop}
    (C : Cx w A₀ A base h₀ s.heap L m p loose mean mg mb env outer) (N : News h₀ L s.heap news)
    (ho : (Mine.KS w.params).lookup f = some ⟨oc, od, .func (fnOf name qual params body scope dV kV doc pm an cdv ct), osl⟩) (hcd : codeIn (Mine.KS w.params) cdv qual = true)
    (hbind : BindsTo s (fnOf name qual params body scope dV kV doc pm an cdv ct) ⟨pos, kw⟩ binds)
    (hkind : (binds.all fun y => scope.names.lookup y.1 == some .local || scope.names.lookup y.1 == some .cell) = true)
    (hnd : ((cellsFrom 0 scope.names []).map (·.1)).Nodup)
    (hco : scope.isCoroutine = false) (hgen : scope.isGenerator = false) (hk : scope.kind = .function)
    (h : ∀ g L' h₁ tk cells, Fr h₀ L g m → Fr g L' h₁ (bindL (envOfC qual scope L' f cdv).kindOf binds fun _ => none) → News g L' h₁ (cells ++ news) →
      CellsAre (bindC (envOfC qual scope L' f cdv).kindOf binds fun _ => none) (cellsFrom (L' + 1) scope.names []) cells → Below A base (env :: outer) g → (Mine.KS w.params).In g → Top p loose mean mg mb g → (∀ p ∈ news, p.1 < L') →
      wpAny (model PySem.Challenge.rw_in0087_01.row.prog w) (A.deeper (envOfC qual scope L' f cdv)) (execs body (envOfC qual scope L' f cdv))
        (fun fl s' => LeaveK h₀ L m g (fun r s' => match r with | .ok (.ret v) => Q v s' | .ok _ => False | .error e => E e s') (match fl with | .ret v => v | _ => .none) s')
        (fun e s' => wpAny (model PySem.Challenge.rw_in0087_01.row.prog w) (A.deeper (envOfC qual scope L' f cdv)) (leaving (envOfC qual scope L' f cdv) e) (fun _ s'' => E e s'') (fun e' s'' => E e' s'') s')
        { s with heap := h₁, toks := tk }) :
    wpAny (model PySem.Challenge.rw_in0087_01.row.prog w) A (call (.ref f) pos kw) Q E s :=
  wpAny_call (code_defC (R := fun r s' => match r with | .ok (.ret v) => Q v s' | .ok _ => False | .error e => E e s') C.B C.F C.X N C.T C.hA C.hf C.hke ho hcd (Nat.lt_of_le_of_lt C.room (by decide)) hbind hkind hnd h hco hgen hk)
end

/-- the def that stands first in the body of _law_handler, as the written part holds it -/
noncomputable def hNest (K : Frag) : Str × Arguments × List Stmt × Scope := match K.lookup 91 with
  | some ⟨_, _, .func fd, _⟩ => (match fd.body with
    | .stmts (.FunctionDef name params body _ _ _ scope _ _ _ :: _) => (name, params, body, scope)
    | _ => (default, default, default, default))
  | _ => (default, default, default, default)
noncomputable def hQ : Str := (Str.ofString "_law_handler" ++ ".<locals>.") ++ Str.ofString "handler"
/-- a handler that the law has made -/
noncomputable def hObj (K : Frag) (cT cN : Addr) (dc pm ct : Value) (c : Addr) : Obj :=
  fnMade (hNest K).1 hQ (hNest K).2.1 (hNest K).2.2.1 (hNest K).2.2.2 [(Str.ofString "told", cT), (Str.ofString "number", cN)] dc pm c ct

/-- f is the handler of number n, and it writes to told -/
noncomputable def HandlerAt (w : World) (news : List (Addr × Obj)) (told f : Addr) (n : Int) : Prop :=
  ∃ (cT cN c : Addr) (dc pm ct : Value) (oT oN oc : Obj) (vs : Array Value) (t tn : Tok), (f, hObj (Mine.KS w.params) cT cN dc pm ct c) ∈ news ∧ (cT, oT) ∈ news ∧ oT.data = .cell (some (.ref told)) ∧
    (cN, oN) ∈ news ∧ oN.data = .cell (some (.int n tn)) ∧ (c, oc) ∈ news ∧ oc.data = .fields vs ∧ vs[1]? = some (.str hQ t)
theorem HandlerAt.mono {w : World} {news news' : List (Addr × Obj)} {told f : Addr} {n : Int} (h : HandlerAt w news told f n) (hs : ∀ p ∈ news, p ∈ news') : HandlerAt w news' told f n := by
  obtain ⟨cT, cN, c, dc, pm, ct, oT, oN, oc, vs, t, tn, h1, h2, h3, h4, h5, h6, h7, h8⟩ := h
  exact ⟨cT, cN, c, dc, pm, ct, oT, oN, oc, vs, t, tn, hs _ h1, hs _ h2, h3, hs _ h4, h5, hs _ h6, h7, h8⟩

/-- what the code of _law_handler has noted: nothing yet, or the code of its def -/
noncomputable def TabOk (news : List (Addr × Obj)) (tab : Array Value) : Prop :=
  tab = #[] ∨ ∃ (c : Addr) (oc : Obj) (vs : Array Value) (t : Tok), tab = #[rawInt (73 : Nat), rawInt (4 : Nat), .ref c] ∧ (c, oc) ∈ news ∧ oc.data = .fields vs ∧ vs[1]? = some (.str hQ t)
theorem TabOk.mono {news news' : List (Addr × Obj)} {tab : Array Value} (h : TabOk news tab) (hs : ∀ p ∈ news, p ∈ news') : TabOk news' tab := by
  rcases h with h | ⟨c, oc, vs, t, h1, h2, h3, h4⟩
  · exact .inl h
  · exact .inr ⟨c, oc, vs, t, h1, hs _ h2, h3, h4⟩
/-- all of own lies above all of news -/
noncomputable def Above (own news : List (Addr × Obj)) : Prop := ∀ p ∈ own, ∀ q ∈ news, @LT.lt Nat _ q.1 p.1
end

local macro_rules | `(tactic| k_room) => `(tactic| k_extra "kind k_room")
local macro_rules | `(tactic| k_mem) => `(tactic| k_extra "kind k_mem")
-- L_found
section
theorem words_L_found : True := by
  w_top off
  k_with_none
  (k_with "ne" => with_reducible first | exact Nat.ne_of_lt (‹@LT.lt _ _ _ _ ∧ _›).1 | exact Nat.ne_of_gt (‹@LT.lt _ _ _ _ ∧ _›).1 | exact Nat.ne_of_lt (‹_ ∧ @LT.lt _ _ _ _ ∧ _›).2.1 | exact Nat.ne_of_gt (‹_ ∧ @LT.lt _ _ _ _ ∧ _›).2.1 | exact Nat.ne_of_lt (‹_ ∧ _ ∧ @LT.lt _ _ _ _ ∧ _›).2.2.1 | exact Nat.ne_of_gt (‹_ ∧ _ ∧ @LT.lt _ _ _ _ ∧ _›).2.2.1 | exact Nat.ne_of_lt (‹_ ∧ _ ∧ _ ∧ @LT.lt _ _ _ _ ∧ _›).2.2.2.1 | exact Nat.ne_of_gt (‹_ ∧ _ ∧ _ ∧ @LT.lt _ _ _ _ ∧ _›).2.2.2.1 | exact Nat.ne_of_lt (‹_ ∧ _ ∧ _ ∧ _ ∧ @LT.lt _ _ _ _ ∧ _›).2.2.2.2.1 | exact Nat.ne_of_gt (‹_ ∧ _ ∧ _ ∧ _ ∧ @LT.lt _ _ _ _ ∧ _›).2.2.2.2.1 | exact Nat.ne_of_lt (‹_ ∧ _ ∧ _ ∧ _ ∧ _ ∧ @LT.lt _ _ _ _ ∧ _›).2.2.2.2.2.1 | exact Nat.ne_of_gt (‹_ ∧ _ ∧ _ ∧ _ ∧ _ ∧ @LT.lt _ _ _ _ ∧ _›).2.2.2.2.2.1 | exact Nat.ne_of_lt (‹_ ∧ _ ∧ _ ∧ _ ∧ _ ∧ _ ∧ @LT.lt _ _ _ _ ∧ _›).2.2.2.2.2.2.1 | exact Nat.ne_of_gt (‹_ ∧ _ ∧ _ ∧ _ ∧ _ ∧ _ ∧ @LT.lt _ _ _ _ ∧ _›).2.2.2.2.2.2.1 | exact Nat.ne_of_lt (‹_ ∧ _ ∧ _ ∧ _ ∧ _ ∧ _ ∧ _ ∧ @LT.lt _ _ _ _ ∧ _›).2.2.2.2.2.2.2.1 | exact Nat.ne_of_gt (‹_ ∧ _ ∧ _ ∧ _ ∧ _ ∧ _ ∧ _ ∧ @LT.lt _ _ _ _ ∧ _›).2.2.2.2.2.2.2.1 | exact Nat.ne_of_lt (‹_ ∧ _ ∧ _ ∧ _ ∧ _ ∧ _ ∧ _ ∧ _ ∧ @LT.lt _ _ _ _ ∧ _›).2.2.2.2.2.2.2.2.1 | exact Nat.ne_of_gt (‹_ ∧ _ ∧ _ ∧ _ ∧ _ ∧ _ ∧ _ ∧ _ ∧ @LT.lt _ _ _ _ ∧ _›).2.2.2.2.2.2.2.2.1 | exact Nat.ne_of_lt (‹_ ∧ _ ∧ _ ∧ _ ∧ _ ∧ _ ∧ _ ∧ _ ∧ _ ∧ @LT.lt _ _ _ _ ∧ _›).2.2.2.2.2.2.2.2.2.1 | exact Nat.ne_of_gt (‹_ ∧ _ ∧ _ ∧ _ ∧ _ ∧ _ ∧ _ ∧ _ ∧ _ ∧ @LT.lt _ _ _ _ ∧ _›).2.2.2.2.2.2.2.2.2.1 | exact Nat.ne_of_lt (‹_ ∧ _ ∧ _ ∧ _ ∧ _ ∧ _ ∧ _ ∧ _ ∧ _ ∧ _ ∧ @LT.lt _ _ _ _ ∧ _›).2.2.2.2.2.2.2.2.2.2.1 | exact Nat.ne_of_gt (‹_ ∧ _ ∧ _ ∧ _ ∧ _ ∧ _ ∧ _ ∧ _ ∧ _ ∧ _ ∧ @LT.lt _ _ _ _ ∧ _›).2.2.2.2.2.2.2.2.2.2.1 | exact Nat.ne_of_lt (‹_ ∧ _ ∧ _ ∧ _ ∧ _ ∧ _ ∧ _ ∧ _ ∧ _ ∧ _ ∧ _ ∧ @LT.lt _ _ _ _ ∧ _›).2.2.2.2.2.2.2.2.2.2.2.1 | exact Nat.ne_of_gt (‹_ ∧ _ ∧ _ ∧ _ ∧ _ ∧ _ ∧ _ ∧ _ ∧ _ ∧ _ ∧ _ ∧ @LT.lt _ _ _ _ ∧ _›).2.2.2.2.2.2.2.2.2.2.2.1 | exact Nat.ne_of_lt (‹_ ∧ _ ∧ _ ∧ _ ∧ _ ∧ _ ∧ _ ∧ _ ∧ _ ∧ _ ∧ _ ∧ _ ∧ @LT.lt _ _ _ _ ∧ _›).2.2.2.2.2.2.2.2.2.2.2.2.1 | exact Nat.ne_of_gt (‹_ ∧ _ ∧ _ ∧ _ ∧ _ ∧ _ ∧ _ ∧ _ ∧ _ ∧ _ ∧ _ ∧ _ ∧ @LT.lt _ _ _ _ ∧ _›).2.2.2.2.2.2.2.2.2.2.2.2.1 | exact Nat.ne_of_lt (‹_ ∧ _ ∧ _ ∧ _ ∧ _ ∧ _ ∧ _ ∧ _ ∧ _ ∧ _ ∧ _ ∧ _ ∧ _ ∧ @LT.lt _ _ _ _ ∧ _›).2.2.2.2.2.2.2.2.2.2.2.2.2.1 | exact Nat.ne_of_gt (‹_ ∧ _ ∧ _ ∧ _ ∧ _ ∧ _ ∧ _ ∧ _ ∧ _ ∧ _ ∧ _ ∧ _ ∧ _ ∧ @LT.lt _ _ _ _ ∧ _›).2.2.2.2.2.2.2.2.2.2.2.2.2.1)
  (k_with "adr" => (repeat (first | exact List.Mem.head _ | refine List.Mem.tail _ ?_)))
  (k_with "mine cx" => exact ⟨by assumption, by assumption, by assumption, by assumption, rfl, rfl, rfl, by (first | exact Nat.le_trans (Nat.succ_le_succ (show _ ≤ 330 by assumption)) (by decide) | exact Nat.le_trans (Nat.succ_le_succ (show _ ≤ 340 by assumption)) (by decide) | exact Nat.le_trans (Nat.succ_le_succ (show _ ≤ 345 by assumption)) (by decide) | exact Nat.le_trans (Nat.succ_le_succ (show _ ≤ 350 by assumption)) (by decide) | (simp only [depth_deeper]; omega)), by (first | exact Nat.le_trans (Nat.add_le_add_right (show _ ≤ 100 by assumption) 3) (by decide) | exact Nat.le_trans (Nat.add_le_add_right (show _ ≤ 130 by assumption) 3) (by decide) | exact Nat.le_trans (Nat.add_le_add_right (show _ ≤ 140 by assumption) 3) (by decide) | exact Nat.le_trans (Nat.add_le_add_right (show _ ≤ 150 by assumption) 3) (by decide) | (simp only [units_deeper]; omega)), rfl, by assumption, by assumption, by assumption⟩)
  (k_with "kind k_mem" => first | assumption | (refine List.mem_append_left _ ?_; k_mem) | (refine List.mem_append_right _ ?_; k_mem))
  (k_with "kind k_room" => (show _ < _; simp only [depth_under_make, depth_under_kw, depth_in1, depth_deeper, depth_caller, recursionLimit]; omega))
  (k_with "compareOp In" => (k_here; (refine' in_mix ?w3N ?w3m ?w3d ?w3s ?w3k ?_; (case w3N => k_asm); (case w3m => k_mem); (case w3d => assumption); (case w3s => assumption); (case w3k => assumption))))
  (k_with "subscriptTail" => (k_here; (refine' item_mixD (hs := by with_unfolding_all rfl) ?w4N ?w4m ?w4d ?w4k ?w4v ?_; (case w4N => k_asm); (case w4m => k_mem); (case w4d => assumption); (case w4k => assumption); (case w4v => assumption))))
  (k_with "exec For Name Name cons nil" => (k_here; (rename Fr _ _ _ _ => lF'); (with_unfolding_all refine' For_invVF lF' ?w5k1 ?w5k2 ?_; (case w5k1 => exact rfl); (case w5k2 => exact rfl); k_whole)))
  trivial
section
variable {w : World} {A A₀ : Around} {E : Value → Shared → Prop} {s : Shared} {h₀ base : Heap} {L : Addr} {m mg mb : Str → Option Value} {news : List (Addr × Obj)} {p : Program} {loose : List Str} {mean : ExcName → Option Value} {env : Env} {outer : List Env}

/-- the values at hand are the keys -/
noncomputable def KeysAre (w : World) (vs : List Value) (ks : List MK) : Prop := vs.length = ks.length ∧ ∀ (i : Nat) (v : Value) (k : MK), vs[i]? = some v → ks[i]? = some k → (mixKind PR w).is k v = true

theorem findSome_at {f : MK → Option Value} {ks : List MK} {i : Nat} {k : MK} (hk : ks[i]? = some k) (hJ : ∀ j < i, ∀ k, ks[j]? = some k → f k = none) (e : (f k).isSome = true) : ks.findSome? f = f k := by
  induction ks generalizing i with
  | nil => simp at hk
  | cons a r ih =>
    rw [List.findSome?_cons]
    cases i with
    | zero =>
      simp only [List.getElem?_cons_zero, Option.some.injEq] at hk
      subst hk
      cases hv : f a with
      | none => rw [hv] at e; cases e
      | some v => rfl
    | succ i =>
      have h0 : f a = none := hJ 0 (Nat.succ_pos _) a rfl
      rw [h0]
      exact ih (i := i) (by simpa using hk) (fun j hj k hk => hJ (j + 1) (by omega) k (by simpa using hk))

theorem found_ok {d l : Addr} {o : Obj} {kvs : List (MK × Value)} {ks : List MK} {vs : List Value} {n : Nat} {Q : Value → Shared → Prop}
    (C : Cx w A₀ A base h₀ s.heap L m p loose mean mg mb env outer) (N : News h₀ L s.heap news) (hT : (d, o) ∈ news) (hd : o.IsDictOf (mixKind PR w) kvs) (hds : (d == sysModules) = false)
    (hN : (l, W.listOf vs.toArray n) ∈ news) (hks : KeysAre w vs ks)
    (h : ∀ h' tk own, Fr h₀ L h' m → News h₀ L h' (own ++ news) → Q ((ks.findSome? (valueAt kvs)).getD .none) { s with heap := h', toks := tk }) :
    wpAny (model PySem.Challenge.rw_in0087_01.row.prog w) A (call (.ref 105) [.ref d, .ref l] []) Q E s := by
  have kX0 := C.X
  revert kX0
  k_fill
  intro kX0
  refine' enter C N ?k6 ?k7 ?k8 ?k9 ?c1 ?c2 ?c3 ?c4 ?_
  case k6 => k_dflt k_is
  case k7 => k_dflt k_is
  case k8 => exact BindsTo.of_eq rfl
  case k9 => exact locs rfl
  case c1 => exact rfl
  case c2 => exact rfl
  case c3 => exact rfl
  case c4 => decide
  clear kX0
  obtain ⟨B, F, X, T, hA, hf, hke, hroom, hun, hh⟩ := C
  obtain ⟨hd', dep, fr, gs, un⟩ := A
  dsimp only at hA hroom hun hh
  subst hA
  subst hh
  clear B F T X
  intro g' L' h' FG' F' N' B' X' T'
  (try dsimp only); k_fold
  k_steps
  rename Fr _ _ _ _ => lF'
  refine kdl_iter (m₀ := fun y => ([(Str.ofString "table", Value.ref d), (Str.ofString "names", Value.ref l)] : List (Str × Value)).reverse.lookup y) (fun i m' nx => nx = news ∧ (∀ y, y ≠ Str.ofString "name" → m' y = ([(Str.ofString "table", Value.ref d), (Str.ofString "names", Value.ref l)] : List (Str × Value)).reverse.lookup y) ∧ ∀ j < i, ∀ k, ks[j]? = some k → valueAt kvs k = none) rfl hN lF' N' ⟨rfl, fun _ _ => rfl, fun j hj => absurd hj (Nat.not_lt_zero _)⟩ ?_ ?_
  · rintro i v m₁ news₁ h1 tk1 own hv hoff hl1 ⟨rfl, hm1, hJ⟩ F1 N1
    have e : (fun y => if y = Str.ofString "name" then some v else m₁ y) = fun y => if y = Str.ofString "name" then some v else ([(Str.ofString "table", Value.ref d), (Str.ofString "names", Value.ref l)] : List (Str × Value)).reverse.lookup y := by
      funext y
      by_cases hy : y = Str.ofString "name"
      · simp [hy]
      · simp only [if_neg hy]; exact hm1 y hy
    rw [e] at F1
    clear e hm1 m₁ lF' N'
    have hlt : i < ks.length := by
      rw [← hks.1]
      exact (List.getElem?_eq_some_iff.mp hv).1
    have hk : (mixKind PR w).is ks[i] v = true := hks.2 i v _ hv (List.getElem?_eq_getElem hlt)
    have hfind : (valueAt kvs ks[i]).isSome = true → ks.findSome? (valueAt kvs) = valueAt kvs ks[i] := fun e => findSome_at (List.getElem?_eq_getElem hlt) hJ e
    k_steps
    · rename (valueAt kvs ks[i]).isSome = true => hq
      refine leaveK_ F1 N1 fun F2 N2 => ?_
      rw [hfind hq] at h
      exact h _ _ own F2 (news_swap N2)
    · rename (valueAt kvs ks[i]).isSome = false => hq
      refine InvEndG.intro F1 N1 ⟨hl1, rfl, fun y hy => ?_, fun j hj k hkj => ?_⟩ hoff (fun p hp => List.mem_append_left _ hp) (fun p hp => List.mem_append_right _ hp)
      · simp only [if_neg hy]
      · rcases Nat.lt_or_ge j i with hji | hji
        · exact hJ j hji k hkj
        · obtain rfl : j = i := by omega
          rw [List.getElem?_eq_getElem hlt] at hkj
          cases hkj
          cases hv : valueAt kvs ks[j] with
          | none => rfl
          | some v => rw [hv] at hq; cases hq
  · rintro m₁ news₁ h1 tk1 ⟨rfl, hm1, hJ⟩ F1 N1
    clear lF' N'
    have hnone : ks.findSome? (valueAt kvs) = none := List.findSome?_eq_none_iff.mpr fun k hk => by
      obtain ⟨j, hj, rfl⟩ := List.getElem_of_mem hk
      exact hJ j (by rw [hks.1]; exact hj) _ (List.getElem?_eq_getElem _)
    rw [hnone] at h
    k_steps
    exact leaveK_ F1 N1 fun F2 N2 => h _ _ [] F2 N2
end
end

-- L_disp
section
set_option maxHeartbeats 4000000
theorem KeysAre.nil {w : World} : KeysAre w [] [] := ⟨rfl, fun i v k h => by simp at h⟩
theorem KeysAre.cons {w : World} {v : Value} {k : MK} {vs : List Value} {ks : List MK} (h : (mixKind PR w).is k v = true) (r : KeysAre w vs ks) : KeysAre w (v :: vs) (k :: ks) :=
  ⟨congrArg Nat.succ r.1, fun i v' k' h1 h2 => by
    cases i with
    | zero =>
      simp only [List.getElem?_cons_zero, Option.some.injEq] at h1 h2
      subst h1 h2
      exact h
    | succ i => exact r.2 i v' k' (by simpa using h1) (by simpa using h2)⟩
/-- a display of written texts and Nones -/
inductive ConstEs : List Expr → List MK → Prop
  | nil : ConstEs [] []
  | str {x : Str} {k : Nat} {p : Pos} {es : List Expr} {ks : List MK} : ConstEs es ks → ConstEs (.Constant (.str x) k p :: es) (.str x :: ks)
  | none {k : Nat} {p : Pos} {es : List Expr} {ks : List MK} : ConstEs es ks → ConstEs (.Constant .none k p :: es) (.none :: ks)
/-- a display of written texts -/
inductive StrEs : List Expr → List Str → Prop
  | nil : StrEs [] []
  | cons {x : Str} {k : Nat} {p : Pos} {es : List Expr} {xs : List Str} : StrEs es xs → StrEs (.Constant (.str x) k p :: es) (x :: xs)
noncomputable def addN : Nat → Nat → Nat
  | 0, t => t
  | n + 1, t => addN n (t + 1)
section
variable {w : World} {A : Around} {E : Value → Shared → Prop} {env : Env} {pos : Pos}
theorem consts_spliced {es : List Expr} {ks : List MK} (h : ConstEs es ks) : ∀ {Q : List Value → Shared → Prop} {s : Shared}, (∀ vs tk, KeysAre w vs ks → Q vs { s with toks := tk }) → wpAny (model PySem.Challenge.rw_in0087_01.row.prog w) A (spliced (backTo pos (starEach es env))) Q E s := by
  induction h with
  | nil => intro Q s h; exact args_nil (h [] s.toks .nil)
  | str _ ih => intro Q s h; exact args_cons (Calls.Constant_str (ih fun vs tk hk => h _ _ (.cons (mix_str _ _) hk)))
  | none _ ih => intro Q s h; exact args_cons (wpAny_Constant_none (ih fun vs tk hk => h _ _ (.cons mix_none hk)))
theorem strs_spliced {es : List Expr} {xs : List Str} (h : StrEs es xs) : ∀ {Q : List Value → Shared → Prop} {s : Shared}, (∀ vs, StrsAre vs xs → Q vs { s with toks := addN xs.length s.toks }) → wpAny (model PySem.Challenge.rw_in0087_01.row.prog w) A (spliced (backTo pos (starEach es env))) Q E s := by
  induction h with
  | nil => intro Q s h; exact args_nil (h [] .nil)
  | cons _ ih => intro Q s h; exact args_cons (Calls.Constant_str (ih fun vs hk => h _ (.cons _ _ hk)))
theorem strs_display {es : List Expr} {xs : List Str} {Q : List Value → Shared → Prop} {s : Shared} (h : StrEs es xs) (k : ∀ vs, StrsAre vs xs → Q vs { s with toks := addN xs.length s.toks }) : wpAny (model PySem.Challenge.rw_in0087_01.row.prog w) A (spliced (backTo pos (starEach es env))) Q E s := strs_spliced h k
theorem consts_display {es : List Expr} {ks : List MK} {Q : List Value → Shared → Prop} {s : Shared} (h : ConstEs es ks) (hz : ks.length ≤ 1000) (k : ∀ vs tk, KeysAre w vs ks → vs.length ≤ sizeLine → Q vs { s with toks := tk }) :
    wpAny (model PySem.Challenge.rw_in0087_01.row.prog w) A (spliced (backTo pos (starEach es env))) Q E s :=
  consts_spliced h fun vs tk hk => k vs tk hk (by rw [hk.1, sizeLine_eq]; omega)
end
end

local macro_rules | `(tactic| k_all) => `(tactic| assumption)
-- L_mkh
section
theorem words_L_mkh : True := by
  w_top off
  k_with_none
  (k_with "ne" => with_reducible first | exact Nat.ne_of_lt (‹@LT.lt _ _ _ _ ∧ _›).1 | exact Nat.ne_of_gt (‹@LT.lt _ _ _ _ ∧ _›).1 | exact Nat.ne_of_lt (‹_ ∧ @LT.lt _ _ _ _ ∧ _›).2.1 | exact Nat.ne_of_gt (‹_ ∧ @LT.lt _ _ _ _ ∧ _›).2.1 | exact Nat.ne_of_lt (‹_ ∧ _ ∧ @LT.lt _ _ _ _ ∧ _›).2.2.1 | exact Nat.ne_of_gt (‹_ ∧ _ ∧ @LT.lt _ _ _ _ ∧ _›).2.2.1 | exact Nat.ne_of_lt (‹_ ∧ _ ∧ _ ∧ @LT.lt _ _ _ _ ∧ _›).2.2.2.1 | exact Nat.ne_of_gt (‹_ ∧ _ ∧ _ ∧ @LT.lt _ _ _ _ ∧ _›).2.2.2.1 | exact Nat.ne_of_lt (‹_ ∧ _ ∧ _ ∧ _ ∧ @LT.lt _ _ _ _ ∧ _›).2.2.2.2.1 | exact Nat.ne_of_gt (‹_ ∧ _ ∧ _ ∧ _ ∧ @LT.lt _ _ _ _ ∧ _›).2.2.2.2.1 | exact Nat.ne_of_lt (‹_ ∧ _ ∧ _ ∧ _ ∧ _ ∧ @LT.lt _ _ _ _ ∧ _›).2.2.2.2.2.1 | exact Nat.ne_of_gt (‹_ ∧ _ ∧ _ ∧ _ ∧ _ ∧ @LT.lt _ _ _ _ ∧ _›).2.2.2.2.2.1 | exact Nat.ne_of_lt (‹_ ∧ _ ∧ _ ∧ _ ∧ _ ∧ _ ∧ @LT.lt _ _ _ _ ∧ _›).2.2.2.2.2.2.1 | exact Nat.ne_of_gt (‹_ ∧ _ ∧ _ ∧ _ ∧ _ ∧ _ ∧ @LT.lt _ _ _ _ ∧ _›).2.2.2.2.2.2.1 | exact Nat.ne_of_lt (‹_ ∧ _ ∧ _ ∧ _ ∧ _ ∧ _ ∧ _ ∧ @LT.lt _ _ _ _ ∧ _›).2.2.2.2.2.2.2.1 | exact Nat.ne_of_gt (‹_ ∧ _ ∧ _ ∧ _ ∧ _ ∧ _ ∧ _ ∧ @LT.lt _ _ _ _ ∧ _›).2.2.2.2.2.2.2.1 | exact Nat.ne_of_lt (‹_ ∧ _ ∧ _ ∧ _ ∧ _ ∧ _ ∧ _ ∧ _ ∧ @LT.lt _ _ _ _ ∧ _›).2.2.2.2.2.2.2.2.1 | exact Nat.ne_of_gt (‹_ ∧ _ ∧ _ ∧ _ ∧ _ ∧ _ ∧ _ ∧ _ ∧ @LT.lt _ _ _ _ ∧ _›).2.2.2.2.2.2.2.2.1 | exact Nat.ne_of_lt (‹_ ∧ _ ∧ _ ∧ _ ∧ _ ∧ _ ∧ _ ∧ _ ∧ _ ∧ @LT.lt _ _ _ _ ∧ _›).2.2.2.2.2.2.2.2.2.1 | exact Nat.ne_of_gt (‹_ ∧ _ ∧ _ ∧ _ ∧ _ ∧ _ ∧ _ ∧ _ ∧ _ ∧ @LT.lt _ _ _ _ ∧ _›).2.2.2.2.2.2.2.2.2.1 | exact Nat.ne_of_lt (‹_ ∧ _ ∧ _ ∧ _ ∧ _ ∧ _ ∧ _ ∧ _ ∧ _ ∧ _ ∧ @LT.lt _ _ _ _ ∧ _›).2.2.2.2.2.2.2.2.2.2.1 | exact Nat.ne_of_gt (‹_ ∧ _ ∧ _ ∧ _ ∧ _ ∧ _ ∧ _ ∧ _ ∧ _ ∧ _ ∧ @LT.lt _ _ _ _ ∧ _›).2.2.2.2.2.2.2.2.2.2.1 | exact Nat.ne_of_lt (‹_ ∧ _ ∧ _ ∧ _ ∧ _ ∧ _ ∧ _ ∧ _ ∧ _ ∧ _ ∧ _ ∧ @LT.lt _ _ _ _ ∧ _›).2.2.2.2.2.2.2.2.2.2.2.1 | exact Nat.ne_of_gt (‹_ ∧ _ ∧ _ ∧ _ ∧ _ ∧ _ ∧ _ ∧ _ ∧ _ ∧ _ ∧ _ ∧ @LT.lt _ _ _ _ ∧ _›).2.2.2.2.2.2.2.2.2.2.2.1 | exact Nat.ne_of_lt (‹_ ∧ _ ∧ _ ∧ _ ∧ _ ∧ _ ∧ _ ∧ _ ∧ _ ∧ _ ∧ _ ∧ _ ∧ @LT.lt _ _ _ _ ∧ _›).2.2.2.2.2.2.2.2.2.2.2.2.1 | exact Nat.ne_of_gt (‹_ ∧ _ ∧ _ ∧ _ ∧ _ ∧ _ ∧ _ ∧ _ ∧ _ ∧ _ ∧ _ ∧ _ ∧ @LT.lt _ _ _ _ ∧ _›).2.2.2.2.2.2.2.2.2.2.2.2.1 | exact Nat.ne_of_lt (‹_ ∧ _ ∧ _ ∧ _ ∧ _ ∧ _ ∧ _ ∧ _ ∧ _ ∧ _ ∧ _ ∧ _ ∧ _ ∧ @LT.lt _ _ _ _ ∧ _›).2.2.2.2.2.2.2.2.2.2.2.2.2.1 | exact Nat.ne_of_gt (‹_ ∧ _ ∧ _ ∧ _ ∧ _ ∧ _ ∧ _ ∧ _ ∧ _ ∧ _ ∧ _ ∧ _ ∧ _ ∧ @LT.lt _ _ _ _ ∧ _›).2.2.2.2.2.2.2.2.2.2.2.2.2.1)
  (k_with "adr" => (repeat (first | exact List.Mem.head _ | refine List.Mem.tail _ ?_)))
  (k_with "mine cx" => exact ⟨by assumption, by assumption, by assumption, by assumption, rfl, rfl, rfl, by (first | exact Nat.le_trans (Nat.succ_le_succ (show _ ≤ 330 by assumption)) (by decide) | exact Nat.le_trans (Nat.succ_le_succ (show _ ≤ 340 by assumption)) (by decide) | exact Nat.le_trans (Nat.succ_le_succ (show _ ≤ 345 by assumption)) (by decide) | exact Nat.le_trans (Nat.succ_le_succ (show _ ≤ 350 by assumption)) (by decide) | (simp only [depth_deeper]; omega)), by (first | exact Nat.le_trans (Nat.add_le_add_right (show _ ≤ 100 by assumption) 3) (by decide) | exact Nat.le_trans (Nat.add_le_add_right (show _ ≤ 130 by assumption) 3) (by decide) | exact Nat.le_trans (Nat.add_le_add_right (show _ ≤ 140 by assumption) 3) (by decide) | exact Nat.le_trans (Nat.add_le_add_right (show _ ≤ 150 by assumption) 3) (by decide) | (simp only [units_deeper]; omega)), rfl, by assumption, by assumption, by assumption⟩)
  (k_with "kind k_mem" => first | assumption | (refine List.mem_append_left _ ?_; k_mem) | (refine List.mem_append_right _ ?_; k_mem))
  (k_with "kind k_room" => (show _ < _; simp only [depth_under_make, depth_under_kw, depth_in1, depth_deeper, depth_caller, recursionLimit]; omega))
  trivial
section
variable {w : World} {A A₀ : Around} {E : Value → Shared → Prop} {s : Shared} {h₀ base : Heap} {L : Addr} {m mg mb : Str → Option Value} {news : List (Addr × Obj)} {p : Program} {loose : List Str} {mean : ExcName → Option Value} {env : Env} {outer : List Env}

theorem mkh_new {told : Addr} {i : Int} {t : Tok} {rest : List (Addr × Obj)} {Q : Value → Shared → Prop}
    (C : Cx w A₀ A base h₀ s.heap L m p loose mean mg mb env outer) (N : News h₀ L s.heap ((86, tabObj #[]) :: rest)) (h86 : ∀ p ∈ rest, p.1 ≠ 86)
    (h : ∀ h' tk own tab f, Fr h₀ L h' m → News h₀ L h' (own ++ (86, tabObj tab) :: rest) → TabOk own tab → HandlerAt w own told f i → Above own ((86, tabObj #[]) :: rest) → Q (.ref f) { s with heap := h', toks := tk }) :
    wpAny (model PySem.Challenge.rw_in0087_01.row.prog w) A (call (.ref 91) [.int i t, .ref told] []) Q E s := by
  have kX0 := C.X
  revert kX0
  k_fill
  intro kX0
  refine' enterC C N ?k6 ?k7 ?k8 ?kB ?kD ?c2 ?c3 ?c4 ?_
  case k6 => k_dflt k_is
  case k7 => k_dflt k_is
  case k8 => exact BindsTo.of_eq rfl
  case kB => exact rfl
  case kD => decide +kernel
  case c2 => exact rfl
  case c3 => exact rfl
  case c4 => exact rfl
  clear kX0
  obtain ⟨B, F, X, T, hA, hf, hke, hroom, hun, hh, hc90⟩ := C
  obtain ⟨hd', dep, fr, gs, un⟩ := A
  dsimp only at hA hroom hun hh
  subst hA
  subst hh
  clear F T X
  intro g' L' h' tk' cells' FG' F' N' Y' B' X' T' l1
  have h86L : @LT.lt Nat _ 86 L' := l1 _ (.head _)
  have hrL : ∀ p ∈ rest, @LT.lt Nat _ p.1 L' := fun p hp => l1 p (.tail _ hp)
  clear l1
  k_cells Y'
  have hc90' : CodeHd g' 90 86 := CodeHd.keeps hc90 (Below.stays B')
  (try simp only [List.cons_append, List.nil_append] at N')
  try dsimp only
  try k_fold
  k_steps
  rename_i o1 o2 e1 e2 f c oc vs t3 ct dc h2 tk2 e3 e4 l1 l2 h3 F3 N3
  refine leaveK_ F3 N3 fun F4 N4 => ?_
  refine h _ _ [(f, _), (c, oc), (L' + 1 + 1, o1), (L' + 1, o2)] _ f F4 N4 (.inr ⟨c, oc, vs, t3, rfl, .tail _ (.head _), e3, e4⟩) ?_ ?_
  · exact ⟨L' + 1 + 1, L' + 1, c, dc, _, ct, o1, o2, oc, vs, t3, t, .head _, .tail _ (.tail _ (.head _)), e1, .tail _ (.tail _ (.tail _ (.head _))), e2, .tail _ (.head _), e3, e4⟩
  · obtain ⟨l3, l4, l5, l6⟩ := l1
    have l7 : ∀ q ∈ (86, tabObj #[]) :: rest, @LT.lt Nat _ q.1 L' := fun q hq => by
      rcases List.mem_cons.mp hq with rfl | hq
      · exact h86L
      · exact hrL q hq
    intro p hp q hq
    have := l7 q hq
    simp only [List.mem_cons, List.not_mem_nil, or_false] at hp
    rcases hp with rfl | rfl | rfl | rfl <;> (try dsimp only) <;> first | exact Nat.lt_trans this (by omega) | omega

theorem mkh_hit {told c : Addr} {oc : Obj} {vs : Array Value} {t3 : Tok} {i : Int} {t : Tok} {rest : List (Addr × Obj)} {Q : Value → Shared → Prop}
    (C : Cx w A₀ A base h₀ s.heap L m p loose mean mg mb env outer) (N : News h₀ L s.heap ((86, tabObj #[rawInt (73 : Nat), rawInt (4 : Nat), .ref c]) :: rest)) (h86 : ∀ p ∈ rest, p.1 ≠ 86)
    (hc : (c, oc) ∈ rest) (e3 : oc.data = .fields vs) (e4 : vs[1]? = some (.str hQ t3))
    (h : ∀ h' tk own f, Fr h₀ L h' m → News h₀ L h' (own ++ (86, tabObj #[rawInt (73 : Nat), rawInt (4 : Nat), .ref c]) :: rest) → HandlerAt w ((c, oc) :: own) told f i → Above own ((86, tabObj #[rawInt (73 : Nat), rawInt (4 : Nat), .ref c]) :: rest) → Q (.ref f) { s with heap := h', toks := tk }) :
    wpAny (model PySem.Challenge.rw_in0087_01.row.prog w) A (call (.ref 91) [.int i t, .ref told] []) Q E s := by
  have kX0 := C.X
  revert kX0
  k_fill
  intro kX0
  refine' enterC C N ?k6 ?k7 ?k8 ?kB ?kD ?c2 ?c3 ?c4 ?_
  case k6 => k_dflt k_is
  case k7 => k_dflt k_is
  case k8 => exact BindsTo.of_eq rfl
  case kB => exact rfl
  case kD => decide +kernel
  case c2 => exact rfl
  case c3 => exact rfl
  case c4 => exact rfl
  clear kX0
  obtain ⟨B, F, X, T, hA, hf, hke, hroom, hun, hh, hc90⟩ := C
  obtain ⟨hd', dep, fr, gs, un⟩ := A
  dsimp only at hA hroom hun hh
  subst hA
  subst hh
  clear F T X
  intro g' L' h' tk' cells' FG' F' N' Y' B' X' T' l1
  have h86L : @LT.lt Nat _ 86 L' := l1 _ (.head _)
  have hrL : ∀ p ∈ rest, @LT.lt Nat _ p.1 L' := fun p hp => l1 p (.tail _ hp)
  clear l1
  k_cells Y'
  have hc90' : CodeHd g' 90 86 := CodeHd.keeps hc90 (Below.stays B')
  (try simp only [List.cons_append, List.nil_append] at N')
  try dsimp only
  try k_fold
  k_steps
  rename_i o1 o2 e1 e2 f ct dc h2 tk2 l1 h3 F3 N3
  refine leaveK_ F3 N3 fun F4 N4 => ?_
  refine h _ _ [(f, _), (L' + 1 + 1, o1), (L' + 1, o2)] f F4 N4 ?_ ?_
  · exact ⟨L' + 1 + 1, L' + 1, c, dc, _, ct, o1, o2, oc, vs, t3, t, .tail _ (.head _), .tail _ (.tail _ (.head _)), e1, .tail _ (.tail _ (.tail _ (.head _))), e2, .head _, e3, e4⟩
  · obtain ⟨l3, l4, l5, l6⟩ := l1
    have l7 : ∀ q ∈ (86, tabObj #[rawInt (73 : Nat), rawInt (4 : Nat), .ref c]) :: rest, @LT.lt Nat _ q.1 L' := fun q hq => by
      rcases List.mem_cons.mp hq with rfl | hq
      · exact h86L
      · exact hrL q hq
    intro p hp q hq
    have := l7 q hq
    simp only [List.mem_cons, List.not_mem_nil, or_false] at hp
    rcases hp with rfl | rfl | rfl <;> (try dsimp only) <;> first | exact Nat.lt_trans this (by omega) | omega

theorem mk_handler {told : Addr} {i : Int} {t : Tok} {rest : List (Addr × Obj)} {tab : Array Value} {Q : Value → Shared → Prop}
    (C : Cx w A₀ A base h₀ s.heap L m p loose mean mg mb env outer) (N : News h₀ L s.heap ((86, tabObj tab) :: rest)) (h86 : ∀ p ∈ rest, p.1 ≠ 86) (hT : TabOk rest tab)
    (h : ∀ h' tk own tab' f, Fr h₀ L h' m → News h₀ L h' (own ++ (86, tabObj tab') :: rest) → TabOk (own ++ rest) tab' → HandlerAt w (own ++ rest) told f i → Above own ((86, tabObj tab) :: rest) → Q (.ref f) { s with heap := h', toks := tk }) :
    wpAny (model PySem.Challenge.rw_in0087_01.row.prog w) A (call (.ref 91) [.int i t, .ref told] []) Q E s := by
  rcases hT with rfl | ⟨c, oc, vs, t3, rfl, hc, e3, e4⟩
  · exact mkh_new C N h86 fun h' tk own tab f F' N' hT hH hA => h h' tk own tab f F' N' (hT.mono fun _ => List.mem_append_left _) (hH.mono fun _ => List.mem_append_left _) hA
  · exact mkh_hit C N h86 hc e3 e4 fun h' tk own f F' N' hH hA => h h' tk own _ f F' N' (.inr ⟨c, oc, vs, t3, rfl, List.mem_append_right _ hc, e3, e4⟩) (hH.mono fun p hp => (List.mem_cons.mp hp).elim (fun e => e ▸ List.mem_append_right _ hc) (List.mem_append_left _)) hA

theorem updOut {d : Addr} {o : Obj} {news : List (Addr × Obj)} {g : Obj → List (Addr × Obj)} (U : UpdF d o news g) :
    ∃ R, (∀ p ∈ R, p.1 ≠ d) ∧ (∀ o', ∀ p ∈ g o', p ∈ (d, o') :: R) ∧ (∀ p ∈ (d, o) :: R, p ∈ news) ∧ (∀ p ∈ news, p.1 ≠ d → p ∈ R) := by
  obtain ⟨own, post, rfl, hg, h1, h2⟩ := U.split
  refine ⟨own ++ post, fun p hp => (List.mem_append.mp hp).elim (h1 p) (h2 p), fun o' p hp => ?_, fun p hp => ?_, fun p hp hn => ?_⟩
  · rw [hg] at hp
    rcases List.mem_append.mp hp with hp | hp
    · exact .tail _ (List.mem_append_left _ hp)
    · rcases List.mem_cons.mp hp with rfl | hp
      · exact .head _
      · exact .tail _ (List.mem_append_right _ hp)
  · rcases List.mem_cons.mp hp with rfl | hp
    · exact List.mem_append_right _ (.head _)
    · rcases List.mem_append.mp hp with hp | hp
      · exact List.mem_append_left _ hp
      · exact List.mem_append_right _ (.tail _ hp)
  · rcases List.mem_append.mp hp with hp | hp
    · exact List.mem_append_left _ hp
    · rcases List.mem_cons.mp hp with rfl | hp
      · exact absurd rfl hn
      · exact List.mem_append_right _ hp

/-- _law_handler within any ledger -/
theorem mk_handlerU {told : Addr} {i : Int} {t : Tok} {led : List (Addr × Obj)} {g : Obj → List (Addr × Obj)} {tab : Array Value} {Q : Value → Shared → Prop}
    (C : Cx w A₀ A base h₀ s.heap L m p loose mean mg mb env outer) (N : News h₀ L s.heap news) (U : UpdF 86 (tabObj tab) news g) (hT : TabOk led tab) (hs : ∀ p ∈ led, p ∈ news) (hn : ∀ p ∈ led, p.1 ≠ 86)
    (h : ∀ h' tk own tab' f, Fr h₀ L h' m → News h₀ L h' (own ++ g (tabObj tab')) → TabOk (own ++ led) tab' → HandlerAt w (own ++ led) told f i → Above own news → Q (.ref f) { s with heap := h', toks := tk }) :
    wpAny (model PySem.Challenge.rw_in0087_01.row.prog w) A (call (.ref 91) [.int i t, .ref told] []) Q E s := by
  obtain ⟨R, r1, r2, r3, r4⟩ := updOut U
  have N1 : News h₀ L s.heap ((86, tabObj tab) :: R) := fun p hp => N p (r3 p hp)
  have sub : ∀ (own : List (Addr × Obj)) (o' : Obj), ∀ p ∈ own ++ g o', p ∈ own ++ (86, o') :: R := fun own o' p hp => (List.mem_append.mp hp).elim (List.mem_append_left _) fun hp => List.mem_append_right _ (r2 o' p hp)
  have abv : ∀ own : List (Addr × Obj), Above own ((86, tabObj tab) :: R) → Above own news := fun own ab p hp q hq => by
    by_cases e : q.1 = 86
    · have := ab p hp _ (.head _)
      rw [e]; exact this
    · exact ab p hp q (.tail _ (r4 q hq e))
  rcases hT with rfl | ⟨c, oc, vs, t3, rfl, hc, e3, e4⟩
  · exact mkh_new C N1 r1 fun h' tk own tab f F' N' hT hH hA => h h' tk own tab f F' (fun p hp => N' p (sub own _ p hp)) (hT.mono fun _ => List.mem_append_left _) (hH.mono fun _ => List.mem_append_left _) (abv own hA)
  · exact mkh_hit C N1 r1 (r4 _ (hs _ hc) (hn _ hc)) e3 e4 fun h' tk own f F' N' hH hA => h h' tk own _ f F' (fun p hp => N' p (sub own _ p hp)) (.inr ⟨c, oc, vs, t3, rfl, List.mem_append_right _ hc, e3, e4⟩)
      (hH.mono fun p hp => (List.mem_cons.mp hp).elim (fun e => e ▸ List.mem_append_right _ hc) (List.mem_append_left _)) (abv own hA)
end
end

-- L_star
section
theorem words_L_star : True := by
  w_top off
  k_with_none
  (k_with "ne" => with_reducible first | exact Nat.ne_of_lt (‹@LT.lt _ _ _ _ ∧ _›).1 | exact Nat.ne_of_gt (‹@LT.lt _ _ _ _ ∧ _›).1 | exact Nat.ne_of_lt (‹_ ∧ @LT.lt _ _ _ _ ∧ _›).2.1 | exact Nat.ne_of_gt (‹_ ∧ @LT.lt _ _ _ _ ∧ _›).2.1 | exact Nat.ne_of_lt (‹_ ∧ _ ∧ @LT.lt _ _ _ _ ∧ _›).2.2.1 | exact Nat.ne_of_gt (‹_ ∧ _ ∧ @LT.lt _ _ _ _ ∧ _›).2.2.1 | exact Nat.ne_of_lt (‹_ ∧ _ ∧ _ ∧ @LT.lt _ _ _ _ ∧ _›).2.2.2.1 | exact Nat.ne_of_gt (‹_ ∧ _ ∧ _ ∧ @LT.lt _ _ _ _ ∧ _›).2.2.2.1 | exact Nat.ne_of_lt (‹_ ∧ _ ∧ _ ∧ _ ∧ @LT.lt _ _ _ _ ∧ _›).2.2.2.2.1 | exact Nat.ne_of_gt (‹_ ∧ _ ∧ _ ∧ _ ∧ @LT.lt _ _ _ _ ∧ _›).2.2.2.2.1 | exact Nat.ne_of_lt (‹_ ∧ _ ∧ _ ∧ _ ∧ _ ∧ @LT.lt _ _ _ _ ∧ _›).2.2.2.2.2.1 | exact Nat.ne_of_gt (‹_ ∧ _ ∧ _ ∧ _ ∧ _ ∧ @LT.lt _ _ _ _ ∧ _›).2.2.2.2.2.1 | exact Nat.ne_of_lt (‹_ ∧ _ ∧ _ ∧ _ ∧ _ ∧ _ ∧ @LT.lt _ _ _ _ ∧ _›).2.2.2.2.2.2.1 | exact Nat.ne_of_gt (‹_ ∧ _ ∧ _ ∧ _ ∧ _ ∧ _ ∧ @LT.lt _ _ _ _ ∧ _›).2.2.2.2.2.2.1 | exact Nat.ne_of_lt (‹_ ∧ _ ∧ _ ∧ _ ∧ _ ∧ _ ∧ _ ∧ @LT.lt _ _ _ _ ∧ _›).2.2.2.2.2.2.2.1 | exact Nat.ne_of_gt (‹_ ∧ _ ∧ _ ∧ _ ∧ _ ∧ _ ∧ _ ∧ @LT.lt _ _ _ _ ∧ _›).2.2.2.2.2.2.2.1 | exact Nat.ne_of_lt (‹_ ∧ _ ∧ _ ∧ _ ∧ _ ∧ _ ∧ _ ∧ _ ∧ @LT.lt _ _ _ _ ∧ _›).2.2.2.2.2.2.2.2.1 | exact Nat.ne_of_gt (‹_ ∧ _ ∧ _ ∧ _ ∧ _ ∧ _ ∧ _ ∧ _ ∧ @LT.lt _ _ _ _ ∧ _›).2.2.2.2.2.2.2.2.1 | exact Nat.ne_of_lt (‹_ ∧ _ ∧ _ ∧ _ ∧ _ ∧ _ ∧ _ ∧ _ ∧ _ ∧ @LT.lt _ _ _ _ ∧ _›).2.2.2.2.2.2.2.2.2.1 | exact Nat.ne_of_gt (‹_ ∧ _ ∧ _ ∧ _ ∧ _ ∧ _ ∧ _ ∧ _ ∧ _ ∧ @LT.lt _ _ _ _ ∧ _›).2.2.2.2.2.2.2.2.2.1 | exact Nat.ne_of_lt (‹_ ∧ _ ∧ _ ∧ _ ∧ _ ∧ _ ∧ _ ∧ _ ∧ _ ∧ _ ∧ @LT.lt _ _ _ _ ∧ _›).2.2.2.2.2.2.2.2.2.2.1 | exact Nat.ne_of_gt (‹_ ∧ _ ∧ _ ∧ _ ∧ _ ∧ _ ∧ _ ∧ _ ∧ _ ∧ _ ∧ @LT.lt _ _ _ _ ∧ _›).2.2.2.2.2.2.2.2.2.2.1 | exact Nat.ne_of_lt (‹_ ∧ _ ∧ _ ∧ _ ∧ _ ∧ _ ∧ _ ∧ _ ∧ _ ∧ _ ∧ _ ∧ @LT.lt _ _ _ _ ∧ _›).2.2.2.2.2.2.2.2.2.2.2.1 | exact Nat.ne_of_gt (‹_ ∧ _ ∧ _ ∧ _ ∧ _ ∧ _ ∧ _ ∧ _ ∧ _ ∧ _ ∧ _ ∧ @LT.lt _ _ _ _ ∧ _›).2.2.2.2.2.2.2.2.2.2.2.1 | exact Nat.ne_of_lt (‹_ ∧ _ ∧ _ ∧ _ ∧ _ ∧ _ ∧ _ ∧ _ ∧ _ ∧ _ ∧ _ ∧ _ ∧ @LT.lt _ _ _ _ ∧ _›).2.2.2.2.2.2.2.2.2.2.2.2.1 | exact Nat.ne_of_gt (‹_ ∧ _ ∧ _ ∧ _ ∧ _ ∧ _ ∧ _ ∧ _ ∧ _ ∧ _ ∧ _ ∧ _ ∧ @LT.lt _ _ _ _ ∧ _›).2.2.2.2.2.2.2.2.2.2.2.2.1 | exact Nat.ne_of_lt (‹_ ∧ _ ∧ _ ∧ _ ∧ _ ∧ _ ∧ _ ∧ _ ∧ _ ∧ _ ∧ _ ∧ _ ∧ _ ∧ @LT.lt _ _ _ _ ∧ _›).2.2.2.2.2.2.2.2.2.2.2.2.2.1 | exact Nat.ne_of_gt (‹_ ∧ _ ∧ _ ∧ _ ∧ _ ∧ _ ∧ _ ∧ _ ∧ _ ∧ _ ∧ _ ∧ _ ∧ _ ∧ @LT.lt _ _ _ _ ∧ _›).2.2.2.2.2.2.2.2.2.2.2.2.2.1)
  (k_with "adr" => (repeat (first | exact List.Mem.head _ | refine List.Mem.tail _ ?_)))
  (k_with "mine cx" => exact ⟨by assumption, by assumption, by assumption, by assumption, rfl, rfl, rfl, by (first | exact Nat.le_trans (Nat.succ_le_succ (show _ ≤ 330 by assumption)) (by decide) | exact Nat.le_trans (Nat.succ_le_succ (show _ ≤ 340 by assumption)) (by decide) | exact Nat.le_trans (Nat.succ_le_succ (show _ ≤ 345 by assumption)) (by decide) | exact Nat.le_trans (Nat.succ_le_succ (show _ ≤ 350 by assumption)) (by decide) | (simp only [depth_deeper]; omega)), by (first | exact Nat.le_trans (Nat.add_le_add_right (show _ ≤ 100 by assumption) 3) (by decide) | exact Nat.le_trans (Nat.add_le_add_right (show _ ≤ 130 by assumption) 3) (by decide) | exact Nat.le_trans (Nat.add_le_add_right (show _ ≤ 140 by assumption) 3) (by decide) | exact Nat.le_trans (Nat.add_le_add_right (show _ ≤ 150 by assumption) 3) (by decide) | (simp only [units_deeper]; omega)), rfl, by assumption, by assumption, by assumption⟩)
  (k_with "kind k_mem" => first | assumption | (refine List.mem_append_left _ ?_; k_mem) | (refine List.mem_append_right _ ?_; k_mem))
  (k_with "kind k_room" => (show _ < _; simp only [depth_under_make, depth_under_kw, depth_in1, depth_deeper, depth_caller, recursionLimit]; omega))
  trivial
set_option maxHeartbeats 4000000

/-- the further things by name: none, or one under «key» -/
noncomputable def KwOk (kws : List (Str × Value)) : Prop := kws = [] ∨ ∃ v, kws = [(Str.ofString "key", v)]

section
variable {prog : Program} {w : World} {A : Around} {E : Value → Shared → Prop}

theorem strDict_nil {o : Obj} (h : o.IsDictOf (strKind prog w) []) : ∃ n, o = dictOf [] n := by
  obtain ⟨es, ep, ⟨h1, h2, h2'⟩, h3, h4, h5, h6⟩ := h
  obtain ⟨c, d, dt, sl⟩ := o
  dsimp only at h1 h2 h2' h3
  subst h1 h2 h2' h3
  have e : es = #[] := by
    cases hl : es.toList with
    | nil => cases es; simp_all
    | cons a r => rw [hl] at h5; cases h5
  subst e
  exact ⟨ep, rfl⟩
theorem strDict_one {o : Obj} {x : Str} {v : Value} (h : o.IsDictOf (strKind prog w) [(x, v)]) : ∃ t n, o = dictOf [⟨hashStr w x, .str x t, v⟩] n := by
  obtain ⟨es, ep, ⟨h1, h2, h2'⟩, h3, h4, h5, h6⟩ := h
  obtain ⟨c, d, dt, sl⟩ := o
  dsimp only at h1 h2 h2' h3
  subst h1 h2 h2' h3
  obtain ⟨l⟩ := es
  dsimp only at h5
  cases h5 with
  | @cons e kv es kvs hk hv hr =>
    cases hr
    obtain ⟨k, hk2, hh⟩ := h4 e (by simp)
    obtain ⟨eh, ek, ev⟩ := e
    dsimp only at hk hv hk2 hh
    obtain ⟨t, rfl⟩ := Value.isStrOf_shape hk
    have : k = x := Value.isStrOf_inj (.str x t) k x hk2 (by simp [Value.isStrOf])
    subst this hv hh
    exact ⟨t, ep, rfl⟩

theorem merge_nil {hp : Heap} {g d tk os} {D dd : Addr} {n : Nat} {Q : Unit → Shared → Prop} (hD : hp.get? D = some (dictOf [] n)) (hs : (D == sysModules) = false) (hd : hp.get? dd = some (dictOf [] 0))
    (h : Q () ⟨hp, g, d, tk, os⟩) : wpAny (model prog w) A (mergeMapping dd (.ref D) true) Q E ⟨hp, g, d, tk, os⟩ := by
  have hT : Shared.TypeIs ⟨hp, g, d, tk, os⟩ (.ref D) "dict" := ⟨_, hD, rfl⟩
  unfold mergeMapping
  with_reducible refine wpAny_bind ?_
  refine wpAny_isInstance hT F.sub_dict_dict ?_
  wp_walk using wpAny_specialOf hT F.slot_dict_iter.lookup, wpAny_loadPart' hD, wpAny_loadPart' hd
  exact h

theorem merge_one {hp : Heap} {g d tk os} {D dd : Addr} {n : Nat} {hsh : Int} {x : Str} {t : Tok} {v : Value} {Q : Unit → Shared → Prop} (hD : hp.get? D = some (dictOf [⟨hsh, .str x t, v⟩] n)) (hs : (D == sysModules) = false) (hd : hp.get? dd = some (dictOf [] 0)) (hne : D ≠ dd)
    (h : Q () ⟨hp.update dd (Obj.mapDictKeys (·.push ⟨hsh, .str x t, v⟩)), g, d, tk, os⟩) : wpAny (model prog w) A (mergeMapping dd (.ref D) true) Q E ⟨hp, g, d, tk, os⟩ := by
  have hT : Shared.TypeIs ⟨hp, g, d, tk, os⟩ (.ref D) "dict" := ⟨_, hD, rfl⟩
  have hD' : (hp.update dd (Obj.mapDictKeys (·.push ⟨hsh, .str x t, v⟩))).get? D = some (dictOf [⟨hsh, .str x t, v⟩] n) := (Heap.get?_update_ne _ _ _ _ hne).trans hD
  have hd' : (hp.update dd (Obj.mapDictKeys (·.push ⟨hsh, .str x t, v⟩))).get? dd = some (dictOf [⟨hsh, .str x t, v⟩] 1) := Heap.get?_update_self _ hd rfl
  unfold mergeMapping
  with_reducible refine wpAny_bind ?_
  refine wpAny_isInstance hT F.sub_dict_dict ?_
  wp_walk using wpAny_specialOf hT F.slot_dict_iter.lookup, wpAny_loadPart' hD, wpAny_loadPart' hd, wpAny_loadPart' hD', wpAny_loadPart' hd'
  have hnone : Array.findIdx? (fun e : DictEntry => e.key.isStr x) #[] = none := by simp
  rw [hnone]
  wp_walk using wpAny_loadPart' hD, wpAny_loadPart' hd, wpAny_loadPart' hD', wpAny_loadPart' hd'
  rw [hnone]
  wp_walk using wpAny_loadPart' hD, wpAny_loadPart' hd, wpAny_loadPart' hD', wpAny_loadPart' hd'
  exact h
end

/-- the entries that stand for the further things by name -/
noncomputable def kwEnts (t : Tok) (hsh : Str → Int) : List (Str × Value) → List DictEntry
  | [] => []
  | (x, v) :: r => ⟨hsh x, .str x t, v⟩ :: kwEnts t hsh r

section
variable {prog : Program} {w : World} {A : Around} {E : Value → Shared → Prop} {s : Shared} {h₀ : Heap} {L : Addr} {m : Str → Option Value} {news : List (Addr × Obj)}

theorem wpAny_tryC {α : Type} {M : Model} {m : Sem α} {k : Value → Sem α} {Q : α → Shared → Prop} (h : wpAny M A m Q (fun e s' => wpAny M A (k e) Q E s') s) : wpAny M A (Sem.tryCatch m k) Q E s := wpAny_tryCatch h

theorem merged_kw {f : Value} {x : Sem Value} {pos : Pos} {D : Addr} {oD : Obj} {kws : List (Str × Value)} {Q : Addr → Shared → Prop} (F : Fr h₀ L s.heap m) (N : News h₀ L s.heap news) (hm : (D, oD) ∈ news)
    (hD : oD.IsDictOf (strKind prog w) kws) (hk : KwOk kws) (hs : (D == sysModules) = false)
    (hx : ∀ (E' : Value → Shared → Prop) (Q' : Value → Shared → Prop) (s' : Shared), Fr h₀ L s'.heap m → Q' (.ref D) s' → wpAny (model prog w) A x Q' E' s')
    (h : ∀ h' dd n t, Fr h₀ L h' m → News h₀ L h' ((dd, dictOf (kwEnts t (hashStr w) kws) n) :: news) → Q dd { s with heap := h' }) :
    wpAny (model prog w) A (mergedKeywords f [(none, do let v ← x; standAt pos; pure v)]) Q E s := by
  obtain ⟨hp, g, d, tk, os⟩ := s
  have hDa := (N _ hm).1
  have F1 := F.push ({ cls := .type "dict", data := .dict #[] } : Obj)
  have N1 := N.push F ({ cls := .type "dict", data := .dict #[] } : Obj)
  have hDa1 := (N1 _ (.tail _ hm)).1
  have hd1 := (N1 _ (.head _)).1
  have hne : D ≠ hp.objs.size := Nat.ne_of_lt (Heap.lt_size hDa)
  unfold mergedKeywords
  rcases hk with rfl | ⟨v, rfl⟩
  · obtain ⟨n, rfl⟩ := strDict_nil hD
    have M1 : ∀ (A : Around) (E : Value → Shared → Prop) (Q : Unit → Shared → Prop), Q () ⟨hp.push ({ cls := .type "dict", data := .dict #[] } : Obj), g, d, tk, os⟩ →
        wpAny (model prog w) A (mergeMapping hp.objs.size (.ref D) true) Q E ⟨hp.push ({ cls := .type "dict", data := .dict #[] } : Obj), g, d, tk, os⟩ := fun A E Q q => merge_nil hDa1 hs hd1 q
    wp_walk using wpAny_tryC, wpAny_onRaise, hx _ _ _ F1, M1
    exact h _ _ 0 0 F1 N1
  · obtain ⟨t, n, rfl⟩ := strDict_one hD
    have M1 : ∀ (A : Around) (E : Value → Shared → Prop) (Q : Unit → Shared → Prop), Q () ⟨(hp.push ({ cls := .type "dict", data := .dict #[] } : Obj)).update hp.objs.size (Obj.mapDictKeys (·.push ⟨hashStr w (Str.ofString "key"), .str (Str.ofString "key") t, v⟩)), g, d, tk, os⟩ →
        wpAny (model prog w) A (mergeMapping hp.objs.size (.ref D) true) Q E ⟨hp.push ({ cls := .type "dict", data := .dict #[] } : Obj), g, d, tk, os⟩ := fun A E Q q => merge_one hDa1 hs hd1 hne q
    wp_walk using wpAny_tryC, wpAny_onRaise, hx _ _ _ F1, M1
    have U := news_upd (pre := []) (post := news) (f := Obj.mapDictKeys (·.push ⟨hashStr w (Str.ofString "key"), .str (Str.ofString "key") t, v⟩)) F1 N1 (fun _ hp => nomatch hp) (fun p hp => Nat.ne_of_lt (Heap.lt_size (N p hp).1)) rfl rfl
    exact h _ _ 1 t U.1 U.2

theorem keywordsIn_ok {f : Value} {dd : Addr} {kws : List (Str × Value)} {n : Nat} {t : Tok} {hsh : Str → Int} {Q : List (Str × Value) → Shared → Prop} (hk : KwOk kws) (hd : s.heap.get? dd = some (dictOf (kwEnts t hsh kws) n)) (h : Q kws s) :
    wpAny (model prog w) A (keywordsIn f dd) Q E s := by
  obtain ⟨hp, g, d, tk, os⟩ := s
  unfold keywordsIn
  rcases hk with rfl | ⟨v, rfl⟩
  · wp_walk using wpAny_loadPart' hd
    exact h
  · wp_walk using wpAny_loadPart' hd
    exact h


/-- what stands behind ** is read as names -/
noncomputable def KwRead (M : Model) (A : Around) (E : Value → Shared → Prop) (f : Value) (x : Sem Value) (pos : Pos) (Q : List (Str × Value) → Shared → Prop) (s : Shared) : Prop :=
  wpAny M A (mergedKeywords f [(none, do let v ← x; standAt pos; pure v)]) (fun d s₂ => wpAny M A (keywordsIn f d) Q E s₂) E s

theorem kwRead_ok {f : Value} {x : Sem Value} {pos : Pos} {D : Addr} {oD : Obj} {kws : List (Str × Value)} {Q : List (Str × Value) → Shared → Prop} (F : Fr h₀ L s.heap m) (N : News h₀ L s.heap news) (hm : (D, oD) ∈ news)
    (hD : oD.IsDictOf (strKind prog w) kws) (hk : KwOk kws) (hs : (D == sysModules) = false)
    (hx : ∀ (E' : Value → Shared → Prop) (Q' : Value → Shared → Prop) (s' : Shared), Fr h₀ L s'.heap m → Q' (.ref D) s' → wpAny (model prog w) A x Q' E' s')
    (h : ∀ h', Fr h₀ L h' m → News h₀ L h' news → Q kws { s with heap := h' }) :
    KwRead (model prog w) A E f x pos Q s := by
  unfold KwRead
  refine merged_kw F N hm hD hk hs hx fun h' dd n t F' N' => ?_
  exact keywordsIn_ok (s := { s with heap := h' }) hk (N' _ (.head _)).1 (h h' F' fun p hp => N' p (.tail _ hp))

theorem evalArgs_B {f : Value} {lone : Bool} {args : List (Bool × Sem Value)} {x : Sem Value} {pos : Pos} {Q : Args → Shared → Prop} (hl : ∀ y, args ≠ [(true, y)])
    (h : wpAny (model prog w) A (spliced args) (fun vs s₁ => KwRead (model prog w) A E f x pos (fun kws s₂ => Q ⟨vs, kws⟩ s₂) s₁) E s) :
    wpAny (model prog w) A (evalArgs f lone args [(none, do let v ← x; standAt pos; pure v)]) Q E s := by
  unfold evalArgs
  dsimp only
  split
  · exact absurd rfl (hl _)
  · with_reducible refine wpAny_bind ?_
    refine wpAny_mono h (fun vs s₁ h₁ => ?_) fun _ _ x => x
    unfold KwRead at h₁
    have M1 : ∀ Q' : Addr → Shared → Prop, (∀ d s₂, wpAny (model prog w) A (keywordsIn f d) (fun kws s₂ => Q ⟨vs, kws⟩ s₂) E s₂ → Q' d s₂) →
        wpAny (model prog w) A (mergedKeywords f [(none, do let v ← x; standAt pos; pure v)]) Q' E s₁ := fun Q' hq => wpAny_mono h₁ hq fun _ _ x => x
    wp_walk using M1
    intro d s₂ h₂
    have M2 : ∀ Q' : List (Str × Value) → Shared → Prop, (∀ kws s₃, Q ⟨vs, kws⟩ s₃ → Q' kws s₃) → wpAny (model prog w) A (keywordsIn f d) Q' E s₂ := fun Q' hq => wpAny_mono h₂ hq fun _ _ x => x
    wp_walk using M2
    intro kws s₃ h₃
    wp_walk
    exact h₃

theorem callWith_B {f : Value} {first : List Value} {pos : Pos} {x : Sem Value} {Q : Value → Shared → Prop} {P : Heap → Prop} {args : List (Bool × Sem Value)} (hl : ∀ y, args ≠ [(true, y)])
    (hk : ∀ h, P h → ∃ k, (k = Keeper.frame ∨ k = Keeper.machine ∨ k = Keeper.boundFrame) ∧ Looks (model prog w) h (keeperOf f) k)
    (h : wpAny (model prog w) A (spliced args) (fun vs s₁ => KwRead (model prog w) A E f x pos (fun kws s₂ => P s₂.heap ∧ wpAny (model prog w) A (call f (first ++ vs) kws) Q E s₂) s₁) E s) :
    wpAny (model prog w) A (callWith pos f first args [(none, do let v ← x; standAt pos; pure v)]) Q E s := by
  unfold callWith
  refine wpAny_bind (wpAny_holding (wpAny_mono (evalArgs_B (Q := fun a s₂ => P s₂.heap ∧ wpAny (model prog w) A (call f (first ++ a.pos) a.kw) Q E s₂) hl h) (fun a s₁ h₁ => wpAny_bind (wpAny_standAt ?_)) fun _ _ x => x))
  obtain ⟨k, hk', L⟩ := hk _ h₁.1
  have hst : (args.any (·.1) || ([(none, do let v ← x; standAt pos; pure v)] : List (Option Str × Sem Value)).any (·.1.isNone)) = true := by simp
  simp only [hst]
  refine wpAny_bind (L.here ?_)
  have tail : ∀ {t : Sem Value}, wpAny (model prog w) A t Q E s₁ → wpAny (model prog w) A (t >>= fun r => holding [r] point >>= fun _ => pure r) Q E s₁ :=
    fun ht => wpAny_bind (wpAny_mono ht (fun r s₂ hr => wpAny_bind (wpAny_holding (wpAny_point (wpAny_pure hr)))) fun _ _ x => x)
  have marked (mk : Value) : wpAny (model prog w) A (callMarked mk f (first ++ a.pos) a.kw) Q E s₁ := by unfold callMarked; exact Calls.wpAny_keep h₁.2
  rcases hk' with rfl | rfl | rfl <;> dsimp only <;> first | exact tail (marked _) | exact tail (wpAny_operating h₁.2)
end
end

-- L_bind
section
set_option maxHeartbeats 4000000
/-- the further things by place: three at most -/
noncomputable def PsOk (ps : List Value) : Prop := ps = [] ∨ (∃ a, ps = [a]) ∨ (∃ a b, ps = [a, b]) ∨ ∃ a b c, ps = [a, b, c]
theorem inNil (h : Heap) : Frag.In [] h := fun a o e => nomatch (show List.lookup a ([] : List (Addr × Obj)) = some o from e)

section
variable {prog : Program} {w : World} {A : Around} {E : Value → Shared → Prop} {s : Shared} {h₀ : Heap} {L : Addr} {m : Str → Option Value} {news : List (Addr × Obj)}

theorem bindB {fd : FuncData} {args : Args} {vs : List Value} {nm nr : Str} {ex front : List (Str × Value)} {g₁ : Addr → Sem (List (Str × Value))} {g₂ : Addr → Addr → Sem (List (Str × Value))} {Q : List (Str × Value) → Shared → Prop}
    (F : Fr h₀ L s.heap m) (N : News h₀ L s.heap news) (hlim : h₀.NoLimit) (hk : KwOk ex)
    (hp : peekA [] ⟨prog, w.params⟩ (bindArgs fd args) = some (({ cls := .type "tuple", data := .seq vs.toArray } : Obj), g₁))
    (hp₂ : ∀ D, peekA [] ⟨prog, w.params⟩ (g₁ D) = some (dictOf [] 0, g₂ D))
    (hk₂ : ∀ C D, g₂ C D = (forIn ex PUnit.unit (fun x _ => (nsSet D x.1 x.2 >>= fun _ => pure (ForInStep.yield PUnit.unit))) >>= fun _ => pure (front ++ [(nr, Value.ref C)] ++ [(nm, Value.ref D)])))
    (h : ∀ C D o h' tk, (∀ p ∈ news, p.1 < C) → C < D → (D == sysModules) = false → o.IsDictOf (strKind prog w) ex → Fr h₀ L h' m → News h₀ L h' ((D, o) :: (C, ({ cls := .type "tuple", data := .seq vs.toArray } : Obj)) :: news) →
      Q (front ++ [(nr, Value.ref C)] ++ [(nm, Value.ref D)]) { s with heap := h', toks := tk }) :
    wpAny (model prog w) A (bindArgs fd args) Q E s := by
  have hn' : (ex.map (·.1)).Nodup := by
    rcases hk with rfl | ⟨v, rfl⟩
    · exact List.nodup_nil
    · simp
  refine wp_of_peekA (o := ({ cls := .type "tuple", data := .seq vs.toArray } : Obj)) F N (inNil _) rfl _ g₁ hp fun h' F' N' l => ?_
  refine wp_of_peekA (s := { s with heap := h' }) (o := dictOf [] 0) F' N' (inNil _) rfl _ (g₂ s.heap.objs.size) (hp₂ _) fun h'' F'' N'' l' => ?_
  rw [hk₂]
  refine wpAny_bind (kp_fill ex { s with heap := h'' } [] 0 F'' N'' (fun p hp => Nat.ne_of_lt (l' p hp)) (fun _ he => nomatch he) (fun _ he => nomatch he) hn' fun h₃ F₃ N₃ => wpAny_pure ?_)
  exact h _ _ _ _ _ l (l' _ (.head _)) (F'.notModules (modules_low hlim)) (kp_isDict s.toks (0 + ex.length) hn') F₃ N₃


theorem bind1 {fd : FuncData} {va ka : Arg} {an1 : Option Expr} {p1 : Pos} (hp : fd.params = { posonlyargs := [], args := [{ arg := Str.ofString "message", annotation := an1, pos := p1 }], vararg := some va, kwonlyargs := [], kw_defaults := [], kwarg := some ka, defaults := [] }) (hd : fd.defaults = .none)
    {v1 : Value} {ps : List Value} {kws : List (Str × Value)} (hps : PsOk ps) (hk : KwOk kws) {Q : List (Str × Value) → Shared → Prop} (F : Fr h₀ L s.heap m) (N : News h₀ L s.heap news) (hlim : h₀.NoLimit)
    (h : ∀ C D o h' tk, (∀ p ∈ news, p.1 < C) → C < D → (D == sysModules) = false → o.IsDictOf (strKind prog w) kws → Fr h₀ L h' m → News h₀ L h' ((D, o) :: (C, ({ cls := .type "tuple", data := .seq ps.toArray } : Obj)) :: news) →
      Q ([(Str.ofString "message", v1)] ++ [(va.arg, .ref C)] ++ [(ka.arg, .ref D)]) { s with heap := h', toks := tk }) :
    wpAny (model prog w) A (bindArgs fd ⟨v1 :: ps, kws⟩) Q E s := by
  have hk' := hk
  obtain ⟨f1, f2, f3, f4, f5, f6, f7, f8, f9, f10, f11, f12, f13, f14, f15⟩ := fd
  dsimp only at hp hd
  subst hp hd
  rcases hps with rfl | ⟨a, rfl⟩ | ⟨a, b, rfl⟩ | ⟨a, b, c, rfl⟩ <;> rcases hk with rfl | ⟨v, rfl⟩
  all_goals
    refine' bindB (front := [(Str.ofString "message", v1)]) (nr := va.arg) (nm := ka.arg) F N hlim hk' ?kP ?kS ?kT h
    case kP => exact rfl
    case kS => exact fun D => rfl
    case kT => exact fun C D => rfl

theorem bind2 {fd : FuncData} {va ka : Arg} {an1 an2 : Option Expr} {p1 p2 : Pos} (hp : fd.params = { posonlyargs := [], args := [{ arg := Str.ofString "self", annotation := an1, pos := p1 }, { arg := Str.ofString "msg", annotation := an2, pos := p2 }], vararg := some va, kwonlyargs := [], kw_defaults := [], kwarg := some ka, defaults := [] }) (hd : fd.defaults = .none)
    {v1 v2 : Value} {ps : List Value} {kws : List (Str × Value)} (hps : PsOk ps) (hk : KwOk kws) {Q : List (Str × Value) → Shared → Prop} (F : Fr h₀ L s.heap m) (N : News h₀ L s.heap news) (hlim : h₀.NoLimit)
    (h : ∀ C D o h' tk, (∀ p ∈ news, p.1 < C) → C < D → (D == sysModules) = false → o.IsDictOf (strKind prog w) kws → Fr h₀ L h' m → News h₀ L h' ((D, o) :: (C, ({ cls := .type "tuple", data := .seq ps.toArray } : Obj)) :: news) →
      Q ([(Str.ofString "self", v1), (Str.ofString "msg", v2)] ++ [(va.arg, .ref C)] ++ [(ka.arg, .ref D)]) { s with heap := h', toks := tk }) :
    wpAny (model prog w) A (bindArgs fd ⟨v1 :: v2 :: ps, kws⟩) Q E s := by
  have hk' := hk
  obtain ⟨f1, f2, f3, f4, f5, f6, f7, f8, f9, f10, f11, f12, f13, f14, f15⟩ := fd
  dsimp only at hp hd
  subst hp hd
  rcases hps with rfl | ⟨a, rfl⟩ | ⟨a, b, rfl⟩ | ⟨a, b, c, rfl⟩ <;> rcases hk with rfl | ⟨v, rfl⟩
  all_goals
    refine' bindB (front := [(Str.ofString "self", v1), (Str.ofString "msg", v2)]) (nr := va.arg) (nm := ka.arg) F N hlim hk' ?kP ?kS ?kT h
    case kP => exact rfl
    case kS => exact fun D => rfl
    case kT => exact fun C D => rfl

theorem bind3 {fd : FuncData} {va ka : Arg} {an1 an2 an3 : Option Expr} {p1 p2 p3 : Pos} (hp : fd.params = { posonlyargs := [], args := [{ arg := Str.ofString "self", annotation := an1, pos := p1 }, { arg := Str.ofString "msg", annotation := an2, pos := p2 }, { arg := Str.ofString "obj", annotation := an3, pos := p3 }], vararg := some va, kwonlyargs := [], kw_defaults := [], kwarg := some ka, defaults := [] }) (hd : fd.defaults = .none)
    {v1 v2 v3 : Value} {ps : List Value} {kws : List (Str × Value)} (hps : PsOk ps) (hk : KwOk kws) {Q : List (Str × Value) → Shared → Prop} (F : Fr h₀ L s.heap m) (N : News h₀ L s.heap news) (hlim : h₀.NoLimit)
    (h : ∀ C D o h' tk, (∀ p ∈ news, p.1 < C) → C < D → (D == sysModules) = false → o.IsDictOf (strKind prog w) kws → Fr h₀ L h' m → News h₀ L h' ((D, o) :: (C, ({ cls := .type "tuple", data := .seq ps.toArray } : Obj)) :: news) →
      Q ([(Str.ofString "self", v1), (Str.ofString "msg", v2), (Str.ofString "obj", v3)] ++ [(va.arg, .ref C)] ++ [(ka.arg, .ref D)]) { s with heap := h', toks := tk }) :
    wpAny (model prog w) A (bindArgs fd ⟨v1 :: v2 :: v3 :: ps, kws⟩) Q E s := by
  have hk' := hk
  obtain ⟨f1, f2, f3, f4, f5, f6, f7, f8, f9, f10, f11, f12, f13, f14, f15⟩ := fd
  dsimp only at hp hd
  subst hp hd
  rcases hps with rfl | ⟨a, rfl⟩ | ⟨a, b, rfl⟩ | ⟨a, b, c, rfl⟩ <;> rcases hk with rfl | ⟨v, rfl⟩
  all_goals
    refine' bindB (front := [(Str.ofString "self", v1), (Str.ofString "msg", v2), (Str.ofString "obj", v3)]) (nr := va.arg) (nm := ka.arg) F N hlim hk' ?kP ?kS ?kT h
    case kP => exact rfl
    case kS => exact fun D => rfl
    case kT => exact fun C D => rfl
end
end

-- L_enter
section
set_option maxHeartbeats 4000000
section
variable {w : World} {A A₀ : Around} {E : Value → Shared → Prop} {s : Shared} {h₀ base : Heap} {L : Addr} {m mg mb : Str → Option Value} {news : List (Addr × Obj)} {p : Program} {loose : List Str} {mean : ExcName → Option Value} {env : Env} {outer : List Env}

/-- a def with * and ** is opened -/
theorem enterV {name qual : Str} {params : Arguments} {body : List Stmt} {scope : Scope} {cl : List (Str × Addr)} {dV kV doc pm cdv ct : Value} {an : Option Addr} {f : Addr} {fo : Obj} {pos : List Value} {kw ex : List (Str × Value)} {vs : List Value} {binds : Addr → Addr → List (Str × Value)} {Q : Value → Shared → Prop}
    (C : Cx w A₀ A base h₀ s.heap L m p loose mean mg mb env outer) (N : News h₀ L s.heap news)
    (ho : s.heap.get? f = some fo) (hd : fo.data = .func (fnX name qual params body scope cl dV kV doc pm an cdv ct)) (hcd : s.heap.CodeRec cdv qual)
    (hbind : ∀ (A' : Around) (E' : Value → Shared → Prop) (Q' : List (Str × Value) → Shared → Prop), (∀ C D o h' tk, (∀ p ∈ news, p.1 < C) → C < D → (D == sysModules) = false → o.IsDictOf (strKind PR w) ex → Fr h₀ L h' m → News h₀ L h' ((D, o) :: (C, ({ cls := .type "tuple", data := .seq vs.toArray } : Obj)) :: news) →
      Q' (binds C D) { s with heap := h', toks := tk }) → wpAny (model PR w) A' (bindArgs (fnX name qual params body scope cl dV kV doc pm an cdv ct) ⟨pos, kw⟩) Q' E' s)
    (hloc : ∀ C D, ∀ y ∈ binds C D, scope.names.lookup y.1 = some .local)
    (hco : scope.isCoroutine = false) (hgen : scope.isGenerator = false) (hk : scope.kind = .function)
    (hcell : ∀ x ∈ scope.names, x.2 ≠ .cell)
    (h : ∀ C D o g L' h₁ tk, (∀ p ∈ news, @LT.lt Nat _ p.1 C) → @LT.lt Nat _ C D → (D == sysModules) = false → o.IsDictOf (strKind PR w) ex → Fr h₀ L g m → Fr g L' h₁ (fun y => (binds C D).reverse.lookup y) →
      News g L' h₁ ((D, o) :: (C, ({ cls := .type "tuple", data := .seq vs.toArray } : Obj)) :: news) → Below A base (env :: outer) g → (Mine.KS w.params).In g → Top p loose mean mg mb g →
      wpAny (model PR w) (A.deeper (envX qual scope L' f cdv cl)) (execs body (envX qual scope L' f cdv cl))
        (fun fl s' => LeaveK h₀ L m g (fun r s' => match r with | .ok (.ret v) => Q v s' | .ok _ => False | .error e => E e s') (match fl with | .ret v => v | _ => .none) s')
        (fun e s' => wpAny (model PR w) (A.deeper (envX qual scope L' f cdv cl)) (leaving (envX qual scope L' f cdv cl) e) (fun _ s'' => E e s'') (fun e' s'' => E e' s'') s')
        { s with heap := h₁, toks := tk }) :
    wpAny (model PR w) A (call (.ref f) pos kw) Q E s := by
  refine wpAny_call (codeAny_call_function (fd := fnX name qual params body scope cl dV kV doc pm an cdv ct) (body := body) (Nat.lt_of_le_of_lt C.room (by decide)) ho hd hco hgen rfl hcd ?_)
  refine hbind _ _ _ fun c D o h' tk l1 l2 hs ho' F' N' => ?_
  exact kp_frame (R := fun r s' => match r with | .ok (.ret v) => Q v s' | .ok _ => False | .error e => E e s') (cl := cl) (s := { s with heap := h', toks := tk }) C.B F' N' C.T.nolimit C.hA C.hf C.hke (hloc c D)
    (fun g L' h₁ FG FL NG BG st => h c D o g L' h₁ _ l1 l2 hs ho' FG FL NG BG (C.X.keeps st) (C.T.keeps st)) hcell hk

/-- a closure of the call's own is opened -/
theorem enterN {name qual : Str} {params : Arguments} {body : List Stmt} {scope : Scope} {cl : List (Str × Addr)} {dV kV doc pm cdv ct : Value} {an : Option Addr} {f : Addr} {fo : Obj} {pos : List Value} {kw : List (Str × Value)} {binds : List (Str × Value)} {Q : Value → Shared → Prop}
    (C : Cx w A₀ A base h₀ s.heap L m p loose mean mg mb env outer) (N : News h₀ L s.heap news)
    (ho : s.heap.get? f = some fo) (hd : fo.data = .func (fnX name qual params body scope cl dV kV doc pm an cdv ct)) (hcd : s.heap.CodeRec cdv qual)
    (hbind : BindsTo s (fnX name qual params body scope cl dV kV doc pm an cdv ct) ⟨pos, kw⟩ binds) (hloc : ∀ y ∈ binds, scope.names.lookup y.1 = some .local)
    (hco : scope.isCoroutine = false) (hgen : scope.isGenerator = false) (hk : scope.kind = .function)
    (hcell : ∀ x ∈ scope.names, x.2 ≠ .cell)
    (h : ∀ g L' h₁, Fr h₀ L g m → Fr g L' h₁ (fun y => binds.reverse.lookup y) → News g L' h₁ news → Below A base (env :: outer) g → (Mine.KS w.params).In g → Top p loose mean mg mb g → (∀ p ∈ news, p.1 < L') →
      wpAny (model PR w) (A.deeper (envX qual scope L' f cdv cl)) (execs body (envX qual scope L' f cdv cl))
        (fun fl s' => LeaveK h₀ L m g (fun r s' => match r with | .ok (.ret v) => Q v s' | .ok _ => False | .error e => E e s') (match fl with | .ret v => v | _ => .none) s')
        (fun e s' => wpAny (model PR w) (A.deeper (envX qual scope L' f cdv cl)) (leaving (envX qual scope L' f cdv cl) e) (fun _ s'' => E e s'') (fun e' s'' => E e' s'') s')
        { s with heap := h₁, toks := s.toks + binds.length }) :
    wpAny (model PR w) A (call (.ref f) pos kw) Q E s :=
  wpAny_call (callX_plain (R := fun r s' => match r with | .ok (.ret v) => Q v s' | .ok _ => False | .error e => E e s') (cl := cl) C.B C.F N C.T.nolimit C.hA C.hf C.hke ho hd hcd (Nat.lt_of_le_of_lt C.room (by decide)) hbind hloc
    (fun g L' h₁ FG F' N' B' st lt => h g L' h₁ FG F' N' B' (C.X.keeps st) (C.T.keeps st) lt) hcell hco hgen hk)

/-- the i-th def in the body of _law_message, as the written part holds it -/
noncomputable def mNest (K : Frag) (i : Nat) : Str × Arguments × List Stmt × Scope := match K.lookup 84 with
  | some ⟨_, _, .func fd, _⟩ => (match fd.body with
    | .stmts b => (match b.drop i with
      | .FunctionDef name params body _ _ _ scope _ _ _ :: _ => (name, params, body, scope)
      | _ => (default, default, default, default))
    | _ => (default, default, default, default))
  | _ => (default, default, default, default)
/-- a closure that _law_message has made, over one name -/
noncomputable def pObj (K : Frag) (i : Nat) (q x : Str) (c : Addr) (dc pm ct : Value) (cd : Addr) : Obj :=
  fnMade (mNest K i).1 q (mNest K i).2.1 (mNest K i).2.2.1 (mNest K i).2.2.2 [(x, c)] dc pm cd ct
/-- f is the i-th closure of _law_message, and its name x is bound to the object at l -/
noncomputable def PageFn (w : World) (news : List (Addr × Obj)) (i : Nat) (x : Str) (l f : Addr) : Prop :=
  ∃ (c cd : Addr) (q : Str) (dc pm ct : Value) (o oc : Obj) (vs : Array Value) (t : Tok), (f, pObj (Mine.KS w.params) i q x c dc pm ct cd) ∈ news ∧ (c, o) ∈ news ∧ o.data = .cell (some (.ref l)) ∧
    (cd, oc) ∈ news ∧ oc.data = .fields vs ∧ vs[1]? = some (.str q t)
theorem PageFn.mono {w : World} {news news' : List (Addr × Obj)} {i : Nat} {x : Str} {l f : Addr} (h : PageFn w news i x l f) (hs : ∀ p ∈ news, p ∈ news') : PageFn w news' i x l f := by
  obtain ⟨c, cd, q, dc, pm, ct, o, oc, vs, t, h1, h2, h3, h4, h5, h6⟩ := h
  exact ⟨c, cd, q, dc, pm, ct, o, oc, vs, t, hs _ h1, hs _ h2, h3, hs _ h4, h5, h6⟩
theorem pObj_data {K : Frag} {i : Nat} {n84 q84 q x : Str} {p84 params : Arguments} {name bd : Str} {body b84 rest : List Stmt} {ds : List Expr} {r : Option Expr} {tp : List TypeParam} {scope s84 : Scope} {ts : Option Scope} {ps : Pos} {oc dV kV doc84 pm84 cdv84 ct84 : Value} {od an84 : Option Addr} {osl : Array (Option Value)} {c cd : Addr} {dc pm ct : Value}
    (hl : K.lookup 84 = some ⟨oc, od, .func (fnOf n84 q84 p84 b84 s84 dV kV doc84 pm84 an84 cdv84 ct84), osl⟩) (hb : b84.drop i = .FunctionDef name params body ds r tp scope ts bd ps :: rest) :
    (pObj K i q x c dc pm ct cd).data = .func (fnX name q params body scope [(x, c)] .none .none dc pm none (.ref cd) ct) := by
  unfold pObj mNest
  rw [hl]
  dsimp only
  rw [hb]
end

/-- a manager of contents: its two tables -/
noncomputable def MgrAt (w : World) (news : List (Addr × Obj)) (mgr dG dS : Addr) : Prop :=
  ∃ (dm : Addr) (t1 t2 : Tok), (mgr, instObj 66 dm) ∈ news ∧
    (dm, dictOf [⟨PyData.keyHash w.params (Str.ofString "get_handlers"), .str (Str.ofString "get_handlers") t1, .ref dG⟩, ⟨PyData.keyHash w.params (Str.ofString "set_handlers"), .str (Str.ofString "set_handlers") t2, .ref dS⟩] 2) ∈ news
theorem MgrAt.mono {w : World} {news news' : List (Addr × Obj)} {mgr dG dS : Addr} (h : MgrAt w news mgr dG dS) (hs : ∀ p ∈ news, p ∈ news') : MgrAt w news' mgr dG dS := by
  obtain ⟨dm, t1, t2, h1, h2⟩ := h
  exact ⟨dm, t1, t2, hs _ h1, hs _ h2⟩
/-- the law's message: an object of the manager's class with three functions of its own -/
noncomputable def PageAt (w : World) (news : List (Addr × Obj)) (page told types : Addr) : Prop :=
  ∃ (dp e1 e2 f1 f2 f3 : Addr) (t1 t2 t3 t4 t5 : Tok), (page, instObj 66 dp) ∈ news ∧
    (dp, dictOf [⟨PyData.keyHash w.params (Str.ofString "get_handlers"), .str (Str.ofString "get_handlers") t1, .ref e1⟩, ⟨PyData.keyHash w.params (Str.ofString "set_handlers"), .str (Str.ofString "set_handlers") t2, .ref e2⟩,
      ⟨PyData.keyHash w.params (Str.ofString "get_content_type"), .str (Str.ofString "get_content_type") t3, .ref f1⟩, ⟨PyData.keyHash w.params (Str.ofString "get_content_maintype"), .str (Str.ofString "get_content_maintype") t4, .ref f2⟩,
      ⟨PyData.keyHash w.params (Str.ofString "clear_content"), .str (Str.ofString "clear_content") t5, .ref f3⟩] 5) ∈ news ∧
    PageFn w news 0 (Str.ofString "types") types f1 ∧ PageFn w news 1 (Str.ofString "types") types f2 ∧ PageFn w news 2 (Str.ofString "told") told f3
theorem PageAt.mono {w : World} {news news' : List (Addr × Obj)} {page told types : Addr} (h : PageAt w news page told types) (hs : ∀ p ∈ news, p ∈ news') : PageAt w news' page told types := by
  obtain ⟨dp, e1, e2, f1, f2, f3, t1, t2, t3, t4, t5, h1, h2, h3, h4, h5⟩ := h
  exact ⟨dp, e1, e2, f1, f2, f3, t1, t2, t3, t4, t5, hs _ h1, hs _ h2, h3.mono hs, h4.mono hs, h5.mono hs⟩
end

-- L_hcall
section
theorem words_L_hcall : True := by
  w_top off
  k_with_none
  (k_with "ne" => with_reducible first | exact Nat.ne_of_lt (‹@LT.lt _ _ _ _ ∧ _›).1 | exact Nat.ne_of_gt (‹@LT.lt _ _ _ _ ∧ _›).1 | exact Nat.ne_of_lt (‹_ ∧ @LT.lt _ _ _ _ ∧ _›).2.1 | exact Nat.ne_of_gt (‹_ ∧ @LT.lt _ _ _ _ ∧ _›).2.1 | exact Nat.ne_of_lt (‹_ ∧ _ ∧ @LT.lt _ _ _ _ ∧ _›).2.2.1 | exact Nat.ne_of_gt (‹_ ∧ _ ∧ @LT.lt _ _ _ _ ∧ _›).2.2.1 | exact Nat.ne_of_lt (‹_ ∧ _ ∧ _ ∧ @LT.lt _ _ _ _ ∧ _›).2.2.2.1 | exact Nat.ne_of_gt (‹_ ∧ _ ∧ _ ∧ @LT.lt _ _ _ _ ∧ _›).2.2.2.1 | exact Nat.ne_of_lt (‹_ ∧ _ ∧ _ ∧ _ ∧ @LT.lt _ _ _ _ ∧ _›).2.2.2.2.1 | exact Nat.ne_of_gt (‹_ ∧ _ ∧ _ ∧ _ ∧ @LT.lt _ _ _ _ ∧ _›).2.2.2.2.1 | exact Nat.ne_of_lt (‹_ ∧ _ ∧ _ ∧ _ ∧ _ ∧ @LT.lt _ _ _ _ ∧ _›).2.2.2.2.2.1 | exact Nat.ne_of_gt (‹_ ∧ _ ∧ _ ∧ _ ∧ _ ∧ @LT.lt _ _ _ _ ∧ _›).2.2.2.2.2.1 | exact Nat.ne_of_lt (‹_ ∧ _ ∧ _ ∧ _ ∧ _ ∧ _ ∧ @LT.lt _ _ _ _ ∧ _›).2.2.2.2.2.2.1 | exact Nat.ne_of_gt (‹_ ∧ _ ∧ _ ∧ _ ∧ _ ∧ _ ∧ @LT.lt _ _ _ _ ∧ _›).2.2.2.2.2.2.1 | exact Nat.ne_of_lt (‹_ ∧ _ ∧ _ ∧ _ ∧ _ ∧ _ ∧ _ ∧ @LT.lt _ _ _ _ ∧ _›).2.2.2.2.2.2.2.1 | exact Nat.ne_of_gt (‹_ ∧ _ ∧ _ ∧ _ ∧ _ ∧ _ ∧ _ ∧ @LT.lt _ _ _ _ ∧ _›).2.2.2.2.2.2.2.1 | exact Nat.ne_of_lt (‹_ ∧ _ ∧ _ ∧ _ ∧ _ ∧ _ ∧ _ ∧ _ ∧ @LT.lt _ _ _ _ ∧ _›).2.2.2.2.2.2.2.2.1 | exact Nat.ne_of_gt (‹_ ∧ _ ∧ _ ∧ _ ∧ _ ∧ _ ∧ _ ∧ _ ∧ @LT.lt _ _ _ _ ∧ _›).2.2.2.2.2.2.2.2.1 | exact Nat.ne_of_lt (‹_ ∧ _ ∧ _ ∧ _ ∧ _ ∧ _ ∧ _ ∧ _ ∧ _ ∧ @LT.lt _ _ _ _ ∧ _›).2.2.2.2.2.2.2.2.2.1 | exact Nat.ne_of_gt (‹_ ∧ _ ∧ _ ∧ _ ∧ _ ∧ _ ∧ _ ∧ _ ∧ _ ∧ @LT.lt _ _ _ _ ∧ _›).2.2.2.2.2.2.2.2.2.1 | exact Nat.ne_of_lt (‹_ ∧ _ ∧ _ ∧ _ ∧ _ ∧ _ ∧ _ ∧ _ ∧ _ ∧ _ ∧ @LT.lt _ _ _ _ ∧ _›).2.2.2.2.2.2.2.2.2.2.1 | exact Nat.ne_of_gt (‹_ ∧ _ ∧ _ ∧ _ ∧ _ ∧ _ ∧ _ ∧ _ ∧ _ ∧ _ ∧ @LT.lt _ _ _ _ ∧ _›).2.2.2.2.2.2.2.2.2.2.1 | exact Nat.ne_of_lt (‹_ ∧ _ ∧ _ ∧ _ ∧ _ ∧ _ ∧ _ ∧ _ ∧ _ ∧ _ ∧ _ ∧ @LT.lt _ _ _ _ ∧ _›).2.2.2.2.2.2.2.2.2.2.2.1 | exact Nat.ne_of_gt (‹_ ∧ _ ∧ _ ∧ _ ∧ _ ∧ _ ∧ _ ∧ _ ∧ _ ∧ _ ∧ _ ∧ @LT.lt _ _ _ _ ∧ _›).2.2.2.2.2.2.2.2.2.2.2.1 | exact Nat.ne_of_lt (‹_ ∧ _ ∧ _ ∧ _ ∧ _ ∧ _ ∧ _ ∧ _ ∧ _ ∧ _ ∧ _ ∧ _ ∧ @LT.lt _ _ _ _ ∧ _›).2.2.2.2.2.2.2.2.2.2.2.2.1 | exact Nat.ne_of_gt (‹_ ∧ _ ∧ _ ∧ _ ∧ _ ∧ _ ∧ _ ∧ _ ∧ _ ∧ _ ∧ _ ∧ _ ∧ @LT.lt _ _ _ _ ∧ _›).2.2.2.2.2.2.2.2.2.2.2.2.1 | exact Nat.ne_of_lt (‹_ ∧ _ ∧ _ ∧ _ ∧ _ ∧ _ ∧ _ ∧ _ ∧ _ ∧ _ ∧ _ ∧ _ ∧ _ ∧ @LT.lt _ _ _ _ ∧ _›).2.2.2.2.2.2.2.2.2.2.2.2.2.1 | exact Nat.ne_of_gt (‹_ ∧ _ ∧ _ ∧ _ ∧ _ ∧ _ ∧ _ ∧ _ ∧ _ ∧ _ ∧ _ ∧ _ ∧ _ ∧ @LT.lt _ _ _ _ ∧ _›).2.2.2.2.2.2.2.2.2.2.2.2.2.1)
  (k_with "adr" => (repeat (first | exact List.Mem.head _ | refine List.Mem.tail _ ?_)))
  (k_with "mine cx" => exact ⟨by assumption, by assumption, by assumption, by assumption, rfl, rfl, rfl, by (first | exact Nat.le_trans (Nat.succ_le_succ (show _ ≤ 330 by assumption)) (by decide) | exact Nat.le_trans (Nat.succ_le_succ (show _ ≤ 340 by assumption)) (by decide) | exact Nat.le_trans (Nat.succ_le_succ (show _ ≤ 345 by assumption)) (by decide) | exact Nat.le_trans (Nat.succ_le_succ (show _ ≤ 350 by assumption)) (by decide) | (simp only [depth_deeper]; omega)), by (first | exact Nat.le_trans (Nat.add_le_add_right (show _ ≤ 100 by assumption) 3) (by decide) | exact Nat.le_trans (Nat.add_le_add_right (show _ ≤ 130 by assumption) 3) (by decide) | exact Nat.le_trans (Nat.add_le_add_right (show _ ≤ 140 by assumption) 3) (by decide) | exact Nat.le_trans (Nat.add_le_add_right (show _ ≤ 150 by assumption) 3) (by decide) | (simp only [units_deeper]; omega)), rfl, by assumption, by assumption, by assumption⟩)
  (k_with "kind k_mem" => first | assumption | (refine List.mem_append_left _ ?_; k_mem) | (refine List.mem_append_right _ ?_; k_mem))
  (k_with "kind k_room" => (show _ < _; simp only [depth_under_make, depth_under_kw, depth_in1, depth_deeper, depth_caller, recursionLimit]; omega))
  (k_with "subscriptTail" => (k_here; (k_dflt (refine' last_list (hs := by with_unfolding_all rfl) ?w21N ?w21m ?w21v ?_; (case w21N => k_asm); (case w21m => k_mem); (case w21v => exact Array.back?_push)))))
  trivial
section
variable {w : World} {A A₀ : Around} {E : Value → Shared → Prop} {s : Shared} {h₀ base : Heap} {L : Addr} {m mg mb : Str → Option Value} {news : List (Addr × Obj)} {p : Program} {loose : List Str} {mean : ExcName → Option Value} {env : Env} {outer : List Env}

theorem hObj_data {K : Frag} {n91 q91 : Str} {p91 params : Arguments} {name bd : Str} {body rest : List Stmt} {ds : List Expr} {r : Option Expr} {tp : List TypeParam} {scope s91 : Scope} {ts : Option Scope} {ps : Pos} {oc dV kV doc91 pm91 cdv91 ct91 : Value} {od an91 : Option Addr} {osl : Array (Option Value)} {cT cN c : Addr} {dc pm ct : Value}
    (hl : K.lookup 91 = some ⟨oc, od, .func (fnOf n91 q91 p91 (.FunctionDef name params body ds r tp scope ts bd ps :: rest) s91 dV kV doc91 pm91 an91 cdv91 ct91), osl⟩) :
    (hObj K cT cN dc pm ct c).data = .func (fnX name hQ params body scope [(Str.ofString "told", cT), (Str.ofString "number", cN)] .none .none dc pm none (.ref c) ct) := by
  unfold hObj hNest
  rw [hl]

theorem handler_call {told f : Addr} {n : Int} {tl : List Value} {nn : Nat} {rest : List (Addr × Obj)} {message : Value} {ps : List Value} {kws : List (Str × Value)} {Q : Value → Shared → Prop}
    (C : Cx w A₀ A base h₀ s.heap L m p loose mean mg mb env outer) (N : News h₀ L s.heap ((told, W.listOf tl.toArray nn) :: rest)) (hoff : ∀ p ∈ rest, p.1 ≠ told) (hH : HandlerAt w rest told f n) (hps : PsOk ps) (hk : KwOk kws) (hsz : tl.length ≤ 1000)
    (h : ∀ h' tk c d t oD tn nn', Fr h₀ L h' m → News h₀ L h' ((t, ({ cls := .type "tuple", data := .seq #[.int n tn, message, .ref c, .ref d] } : Obj)) :: (d, oD) :: (c, ({ cls := .type "tuple", data := .seq ps.toArray } : Obj)) :: (told, W.listOf (tl ++ [Value.ref t]).toArray nn') :: rest) →
      oD.IsDictOf (strKind PR w) kws → (d == sysModules) = false → (∀ p ∈ (told, W.listOf tl.toArray nn) :: rest, @LT.lt Nat _ p.1 c) → @LT.lt Nat _ c d → @LT.lt Nat _ d t → Q (.ref t) { s with heap := h', toks := tk }) :
    wpAny (model PySem.Challenge.rw_in0087_01.row.prog w) A (call (.ref f) (message :: ps) kws) Q E s := by
  have kX0 := C.X
  revert kX0
  k_fill
  intro kX0
  obtain ⟨cT, cN, c, dc, pm, ct, oT, oN, oc, vs, t, tn, h1, h2, h3, h4, h5, h6, h7, h8⟩ := hH
  refine' enterV (ex := kws) (vs := ps) C N (N _ (.tail _ h1)).1 (hObj_data ?hl) (codeRec_news N (.tail _ h6) h7 h8) ?hb ?hloc ?c1 ?c2 ?c3 ?c4 ?_
  case hl => k_dflt k_is
  case hb => intro A' E' Q' hQ; exact bind1 rfl rfl hps hk C.F N C.T.nolimit hQ
  case hloc => exact fun C D => locs rfl
  case c1 => exact rfl
  case c2 => exact rfl
  case c3 => exact rfl
  case c4 => decide
  clear kX0
  obtain ⟨B, F, X, T, hA, hf, hke, hroom, hun, hh, hc90⟩ := C
  obtain ⟨hd', dep, fr, gs, un⟩ := A
  dsimp only at hA hroom hun hh
  subst hA
  subst hh
  clear F T X
  intro C D oD g' L' h' tk l1 l2 hs hoD FG' F' N' B' X' T'
  have ltold : @LT.lt Nat _ told C := l1 _ (.head _)
  have hz : tl.toArray.size ≤ sizeLine := by rw [List.size_toArray, sizeLine_eq]; omega
  try dsimp only
  try k_fold
  k_steps
  rename Fr g' _ _ _ => F9
  rename News g' _ _ _ => N9
  rename (_ < _ ∧ _ < _ ∧ _) => l9
  rw [List.push_toArray] at N9
  refine leaveK_ F9 N9 fun F10 N10 => ?_
  exact h _ _ C D _ oD tn _ F10 N10 hoD hs l1 l2 l9.1
end
end

-- L_page
section
theorem words_L_page : True := by
  w_top off
  k_with_none
  (k_with "ne" => with_reducible first | exact Nat.ne_of_lt (‹@LT.lt _ _ _ _ ∧ _›).1 | exact Nat.ne_of_gt (‹@LT.lt _ _ _ _ ∧ _›).1 | exact Nat.ne_of_lt (‹_ ∧ @LT.lt _ _ _ _ ∧ _›).2.1 | exact Nat.ne_of_gt (‹_ ∧ @LT.lt _ _ _ _ ∧ _›).2.1 | exact Nat.ne_of_lt (‹_ ∧ _ ∧ @LT.lt _ _ _ _ ∧ _›).2.2.1 | exact Nat.ne_of_gt (‹_ ∧ _ ∧ @LT.lt _ _ _ _ ∧ _›).2.2.1 | exact Nat.ne_of_lt (‹_ ∧ _ ∧ _ ∧ @LT.lt _ _ _ _ ∧ _›).2.2.2.1 | exact Nat.ne_of_gt (‹_ ∧ _ ∧ _ ∧ @LT.lt _ _ _ _ ∧ _›).2.2.2.1 | exact Nat.ne_of_lt (‹_ ∧ _ ∧ _ ∧ _ ∧ @LT.lt _ _ _ _ ∧ _›).2.2.2.2.1 | exact Nat.ne_of_gt (‹_ ∧ _ ∧ _ ∧ _ ∧ @LT.lt _ _ _ _ ∧ _›).2.2.2.2.1 | exact Nat.ne_of_lt (‹_ ∧ _ ∧ _ ∧ _ ∧ _ ∧ @LT.lt _ _ _ _ ∧ _›).2.2.2.2.2.1 | exact Nat.ne_of_gt (‹_ ∧ _ ∧ _ ∧ _ ∧ _ ∧ @LT.lt _ _ _ _ ∧ _›).2.2.2.2.2.1 | exact Nat.ne_of_lt (‹_ ∧ _ ∧ _ ∧ _ ∧ _ ∧ _ ∧ @LT.lt _ _ _ _ ∧ _›).2.2.2.2.2.2.1 | exact Nat.ne_of_gt (‹_ ∧ _ ∧ _ ∧ _ ∧ _ ∧ _ ∧ @LT.lt _ _ _ _ ∧ _›).2.2.2.2.2.2.1 | exact Nat.ne_of_lt (‹_ ∧ _ ∧ _ ∧ _ ∧ _ ∧ _ ∧ _ ∧ @LT.lt _ _ _ _ ∧ _›).2.2.2.2.2.2.2.1 | exact Nat.ne_of_gt (‹_ ∧ _ ∧ _ ∧ _ ∧ _ ∧ _ ∧ _ ∧ @LT.lt _ _ _ _ ∧ _›).2.2.2.2.2.2.2.1 | exact Nat.ne_of_lt (‹_ ∧ _ ∧ _ ∧ _ ∧ _ ∧ _ ∧ _ ∧ _ ∧ @LT.lt _ _ _ _ ∧ _›).2.2.2.2.2.2.2.2.1 | exact Nat.ne_of_gt (‹_ ∧ _ ∧ _ ∧ _ ∧ _ ∧ _ ∧ _ ∧ _ ∧ @LT.lt _ _ _ _ ∧ _›).2.2.2.2.2.2.2.2.1 | exact Nat.ne_of_lt (‹_ ∧ _ ∧ _ ∧ _ ∧ _ ∧ _ ∧ _ ∧ _ ∧ _ ∧ @LT.lt _ _ _ _ ∧ _›).2.2.2.2.2.2.2.2.2.1 | exact Nat.ne_of_gt (‹_ ∧ _ ∧ _ ∧ _ ∧ _ ∧ _ ∧ _ ∧ _ ∧ _ ∧ @LT.lt _ _ _ _ ∧ _›).2.2.2.2.2.2.2.2.2.1 | exact Nat.ne_of_lt (‹_ ∧ _ ∧ _ ∧ _ ∧ _ ∧ _ ∧ _ ∧ _ ∧ _ ∧ _ ∧ @LT.lt _ _ _ _ ∧ _›).2.2.2.2.2.2.2.2.2.2.1 | exact Nat.ne_of_gt (‹_ ∧ _ ∧ _ ∧ _ ∧ _ ∧ _ ∧ _ ∧ _ ∧ _ ∧ _ ∧ @LT.lt _ _ _ _ ∧ _›).2.2.2.2.2.2.2.2.2.2.1 | exact Nat.ne_of_lt (‹_ ∧ _ ∧ _ ∧ _ ∧ _ ∧ _ ∧ _ ∧ _ ∧ _ ∧ _ ∧ _ ∧ @LT.lt _ _ _ _ ∧ _›).2.2.2.2.2.2.2.2.2.2.2.1 | exact Nat.ne_of_gt (‹_ ∧ _ ∧ _ ∧ _ ∧ _ ∧ _ ∧ _ ∧ _ ∧ _ ∧ _ ∧ _ ∧ @LT.lt _ _ _ _ ∧ _›).2.2.2.2.2.2.2.2.2.2.2.1 | exact Nat.ne_of_lt (‹_ ∧ _ ∧ _ ∧ _ ∧ _ ∧ _ ∧ _ ∧ _ ∧ _ ∧ _ ∧ _ ∧ _ ∧ @LT.lt _ _ _ _ ∧ _›).2.2.2.2.2.2.2.2.2.2.2.2.1 | exact Nat.ne_of_gt (‹_ ∧ _ ∧ _ ∧ _ ∧ _ ∧ _ ∧ _ ∧ _ ∧ _ ∧ _ ∧ _ ∧ _ ∧ @LT.lt _ _ _ _ ∧ _›).2.2.2.2.2.2.2.2.2.2.2.2.1 | exact Nat.ne_of_lt (‹_ ∧ _ ∧ _ ∧ _ ∧ _ ∧ _ ∧ _ ∧ _ ∧ _ ∧ _ ∧ _ ∧ _ ∧ _ ∧ @LT.lt _ _ _ _ ∧ _›).2.2.2.2.2.2.2.2.2.2.2.2.2.1 | exact Nat.ne_of_gt (‹_ ∧ _ ∧ _ ∧ _ ∧ _ ∧ _ ∧ _ ∧ _ ∧ _ ∧ _ ∧ _ ∧ _ ∧ _ ∧ @LT.lt _ _ _ _ ∧ _›).2.2.2.2.2.2.2.2.2.2.2.2.2.1)
  (k_with "adr" => (repeat (first | exact List.Mem.head _ | refine List.Mem.tail _ ?_)))
  (k_with "mine cx" => exact ⟨by assumption, by assumption, by assumption, by assumption, rfl, rfl, rfl, by (first | exact Nat.le_trans (Nat.succ_le_succ (show _ ≤ 330 by assumption)) (by decide) | exact Nat.le_trans (Nat.succ_le_succ (show _ ≤ 340 by assumption)) (by decide) | exact Nat.le_trans (Nat.succ_le_succ (show _ ≤ 345 by assumption)) (by decide) | exact Nat.le_trans (Nat.succ_le_succ (show _ ≤ 350 by assumption)) (by decide) | (simp only [depth_deeper]; omega)), by (first | exact Nat.le_trans (Nat.add_le_add_right (show _ ≤ 100 by assumption) 3) (by decide) | exact Nat.le_trans (Nat.add_le_add_right (show _ ≤ 130 by assumption) 3) (by decide) | exact Nat.le_trans (Nat.add_le_add_right (show _ ≤ 140 by assumption) 3) (by decide) | exact Nat.le_trans (Nat.add_le_add_right (show _ ≤ 150 by assumption) 3) (by decide) | (simp only [units_deeper]; omega)), rfl, by assumption, by assumption, by assumption⟩)
  (k_with "kind k_mem" => first | assumption | (refine List.mem_append_left _ ?_; k_mem) | (refine List.mem_append_right _ ?_; k_mem))
  (k_with "kind k_room" => (show _ < _; simp only [depth_under_make, depth_under_kw, depth_in1, depth_deeper, depth_caller, recursionLimit]; omega))
  (k_with "subscriptTail" => (k_here; (k_dflt (refine' last_list (hs := by with_unfolding_all rfl) ?w27N ?w27m ?w27v ?_; (case w27N => k_asm); (case w27m => k_mem); (case w27v => assumption)))))
  trivial
section
variable {w : World} {A A₀ : Around} {E : Value → Shared → Prop} {s : Shared} {h₀ base : Heap} {L : Addr} {m mg mb : Str → Option Value} {news : List (Addr × Obj)} {p : Program} {loose : List Str} {mean : ExcName → Option Value} {env : Env} {outer : List Env}

theorem page_type {types f : Addr} {its : Array Value} {nn : Nat} {v : Value} {Q : Value → Shared → Prop}
    (C : Cx w A₀ A base h₀ s.heap L m p loose mean mg mb env outer) (N : News h₀ L s.heap news) (hf : PageFn w news 0 (Str.ofString "types") types f) (ht : (types, W.listOf its nn) ∈ news) (hv : its.back? = some v)
    (h : ∀ h' tk, Fr h₀ L h' m → News h₀ L h' news → Q v { s with heap := h', toks := tk }) :
    wpAny (model PySem.Challenge.rw_in0087_01.row.prog w) A (call (.ref f) [] []) Q E s := by
  have kX0 := C.X
  revert kX0
  k_fill
  intro kX0
  obtain ⟨c, cd, q, dc, pm, ct, o, oc, vs, t, h1, h2, h3, h4, h5, h6⟩ := hf
  refine' enterN C N (N _ h1).1 (pObj_data ?hl ?hb) (codeRec_news N h4 h5 h6) ?k8 ?k9 ?c1 ?c2 ?c3 ?c4 ?_
  case hl => k_dflt k_is
  case hb => exact rfl
  case k8 => exact BindsTo.of_eq rfl
  case k9 => exact locs rfl
  case c1 => exact rfl
  case c2 => exact rfl
  case c3 => exact rfl
  case c4 => decide
  clear kX0
  obtain ⟨B, F, X, T, hA, hf, hke, hroom, hun, hh, hc90⟩ := C
  obtain ⟨hd', dep, fr, gs, un⟩ := A
  dsimp only at hA hroom hun hh
  subst hA
  subst hh
  clear F T X
  intro g' L' h' FG' F' N' B' X' T' l1
  try dsimp only
  try k_fold
  k_steps
  rename Fr g' _ _ _ => F9
  rename News g' _ _ _ => N9
  exact leaveK_ F9 N9 fun F10 N10 => h _ _ F10 N10

theorem page_main {types f : Addr} {its : Array Value} {nn : Nat} {x mx : Str} {rx : List Str} {tx : Tok} {Q : Value → Shared → Prop}
    (C : Cx w A₀ A base h₀ s.heap L m p loose mean mg mb env outer) (N : News h₀ L s.heap news) (hf : PageFn w news 1 (Str.ofString "types") types f) (ht : (types, W.listOf its nn) ∈ news) (hv : its.back? = some (.str x tx)) (hx : x.length ≤ 1000) (hm : Txt.split x (Str.ofString "/") = mx :: rx)
    (h : ∀ h' tk tm, Fr h₀ L h' m → News h₀ L h' news → Q (.str mx tm) { s with heap := h', toks := tk }) :
    wpAny (model PySem.Challenge.rw_in0087_01.row.prog w) A (call (.ref f) [] []) Q E s := by
  have kX0 := C.X
  revert kX0
  k_fill
  intro kX0
  obtain ⟨c, cd, q, dc, pm, ct, o, oc, vs, t, h1, h2, h3, h4, h5, h6⟩ := hf
  refine' enterN C N (N _ h1).1 (pObj_data ?hl ?hb) (codeRec_news N h4 h5 h6) ?k8 ?k9 ?c1 ?c2 ?c3 ?c4 ?_
  case hl => k_dflt k_is
  case hb => exact rfl
  case k8 => exact BindsTo.of_eq rfl
  case k9 => exact locs rfl
  case c1 => exact rfl
  case c2 => exact rfl
  case c3 => exact rfl
  case c4 => decide
  clear kX0
  obtain ⟨B, F, X, T, hA, hf, hke, hroom, hun, hh, hc90⟩ := C
  obtain ⟨hd', dep, fr, gs, un⟩ := A
  dsimp only at hA hroom hun hh
  subst hA
  subst hh
  clear F T X
  intro g' L' h' FG' F' N' B' X' T' l1
  try dsimp only
  try k_fold
  k_steps
  rename (List.map _ _)[_]? = some _ => e1
  rename List.map _ _ = Txt.split _ _ => e2
  rename Fr g' _ _ _ => F9
  rename News g' _ _ _ => N9
  rw [e2, hm] at e1
  obtain rfl := Option.some.inj e1
  exact leaveK_ F9 N9 fun F10 N10 => h _ _ _ F10 (news_sub N10 fun p hp => .tail _ hp)

theorem page_clear {told f : Addr} {tl : List Value} {nn : Nat} {rest : List (Addr × Obj)} {Q : Value → Shared → Prop}
    (C : Cx w A₀ A base h₀ s.heap L m p loose mean mg mb env outer) (N : News h₀ L s.heap ((told, W.listOf tl.toArray nn) :: rest)) (hoff : ∀ p ∈ rest, p.1 ≠ told) (hf : PageFn w rest 2 (Str.ofString "told") told f) (hsz : tl.length ≤ 1000)
    (h : ∀ h' tk tc nn', Fr h₀ L h' m → News h₀ L h' ((told, W.listOf (tl ++ [Value.str (Str.ofString "cleared") tc]).toArray nn') :: rest) → Q .none { s with heap := h', toks := tk }) :
    wpAny (model PySem.Challenge.rw_in0087_01.row.prog w) A (call (.ref f) [] []) Q E s := by
  have kX0 := C.X
  revert kX0
  k_fill
  intro kX0
  obtain ⟨c, cd, q, dc, pm, ct, o, oc, vs, t, h1, h2, h3, h4, h5, h6⟩ := hf
  refine' enterN C N (N _ (.tail _ h1)).1 (pObj_data ?hl ?hb) (codeRec_news N (.tail _ h4) h5 h6) ?k8 ?k9 ?c1 ?c2 ?c3 ?c4 ?_
  case hl => k_dflt k_is
  case hb => exact rfl
  case k8 => exact BindsTo.of_eq rfl
  case k9 => exact locs rfl
  case c1 => exact rfl
  case c2 => exact rfl
  case c3 => exact rfl
  case c4 => decide
  clear kX0
  obtain ⟨B, F, X, T, hA, hf, hke, hroom, hun, hh, hc90⟩ := C
  obtain ⟨hd', dep, fr, gs, un⟩ := A
  dsimp only at hA hroom hun hh
  subst hA
  subst hh
  clear F T X
  intro g' L' h' FG' F' N' B' X' T' l1
  have hz : tl.toArray.size ≤ sizeLine := by rw [List.size_toArray, sizeLine_eq]; omega
  try dsimp only
  try k_fold
  k_steps
  rename Fr g' _ _ _ => F9
  rename News g' _ _ _ => N9
  rw [List.push_toArray] at N9
  exact leaveK_ F9 N9 fun F10 N10 => h _ _ _ _ F10 N10
end
end

-- L_msg
section
theorem words_L_msg : True := by
  w_top off
  k_with_none
  (k_with "ne" => with_reducible first | exact Nat.ne_of_lt (‹@LT.lt _ _ _ _ ∧ _›).1 | exact Nat.ne_of_gt (‹@LT.lt _ _ _ _ ∧ _›).1 | exact Nat.ne_of_lt (‹_ ∧ @LT.lt _ _ _ _ ∧ _›).2.1 | exact Nat.ne_of_gt (‹_ ∧ @LT.lt _ _ _ _ ∧ _›).2.1 | exact Nat.ne_of_lt (‹_ ∧ _ ∧ @LT.lt _ _ _ _ ∧ _›).2.2.1 | exact Nat.ne_of_gt (‹_ ∧ _ ∧ @LT.lt _ _ _ _ ∧ _›).2.2.1 | exact Nat.ne_of_lt (‹_ ∧ _ ∧ _ ∧ @LT.lt _ _ _ _ ∧ _›).2.2.2.1 | exact Nat.ne_of_gt (‹_ ∧ _ ∧ _ ∧ @LT.lt _ _ _ _ ∧ _›).2.2.2.1 | exact Nat.ne_of_lt (‹_ ∧ _ ∧ _ ∧ _ ∧ @LT.lt _ _ _ _ ∧ _›).2.2.2.2.1 | exact Nat.ne_of_gt (‹_ ∧ _ ∧ _ ∧ _ ∧ @LT.lt _ _ _ _ ∧ _›).2.2.2.2.1 | exact Nat.ne_of_lt (‹_ ∧ _ ∧ _ ∧ _ ∧ _ ∧ @LT.lt _ _ _ _ ∧ _›).2.2.2.2.2.1 | exact Nat.ne_of_gt (‹_ ∧ _ ∧ _ ∧ _ ∧ _ ∧ @LT.lt _ _ _ _ ∧ _›).2.2.2.2.2.1 | exact Nat.ne_of_lt (‹_ ∧ _ ∧ _ ∧ _ ∧ _ ∧ _ ∧ @LT.lt _ _ _ _ ∧ _›).2.2.2.2.2.2.1 | exact Nat.ne_of_gt (‹_ ∧ _ ∧ _ ∧ _ ∧ _ ∧ _ ∧ @LT.lt _ _ _ _ ∧ _›).2.2.2.2.2.2.1 | exact Nat.ne_of_lt (‹_ ∧ _ ∧ _ ∧ _ ∧ _ ∧ _ ∧ _ ∧ @LT.lt _ _ _ _ ∧ _›).2.2.2.2.2.2.2.1 | exact Nat.ne_of_gt (‹_ ∧ _ ∧ _ ∧ _ ∧ _ ∧ _ ∧ _ ∧ @LT.lt _ _ _ _ ∧ _›).2.2.2.2.2.2.2.1 | exact Nat.ne_of_lt (‹_ ∧ _ ∧ _ ∧ _ ∧ _ ∧ _ ∧ _ ∧ _ ∧ @LT.lt _ _ _ _ ∧ _›).2.2.2.2.2.2.2.2.1 | exact Nat.ne_of_gt (‹_ ∧ _ ∧ _ ∧ _ ∧ _ ∧ _ ∧ _ ∧ _ ∧ @LT.lt _ _ _ _ ∧ _›).2.2.2.2.2.2.2.2.1 | exact Nat.ne_of_lt (‹_ ∧ _ ∧ _ ∧ _ ∧ _ ∧ _ ∧ _ ∧ _ ∧ _ ∧ @LT.lt _ _ _ _ ∧ _›).2.2.2.2.2.2.2.2.2.1 | exact Nat.ne_of_gt (‹_ ∧ _ ∧ _ ∧ _ ∧ _ ∧ _ ∧ _ ∧ _ ∧ _ ∧ @LT.lt _ _ _ _ ∧ _›).2.2.2.2.2.2.2.2.2.1 | exact Nat.ne_of_lt (‹_ ∧ _ ∧ _ ∧ _ ∧ _ ∧ _ ∧ _ ∧ _ ∧ _ ∧ _ ∧ @LT.lt _ _ _ _ ∧ _›).2.2.2.2.2.2.2.2.2.2.1 | exact Nat.ne_of_gt (‹_ ∧ _ ∧ _ ∧ _ ∧ _ ∧ _ ∧ _ ∧ _ ∧ _ ∧ _ ∧ @LT.lt _ _ _ _ ∧ _›).2.2.2.2.2.2.2.2.2.2.1 | exact Nat.ne_of_lt (‹_ ∧ _ ∧ _ ∧ _ ∧ _ ∧ _ ∧ _ ∧ _ ∧ _ ∧ _ ∧ _ ∧ @LT.lt _ _ _ _ ∧ _›).2.2.2.2.2.2.2.2.2.2.2.1 | exact Nat.ne_of_gt (‹_ ∧ _ ∧ _ ∧ _ ∧ _ ∧ _ ∧ _ ∧ _ ∧ _ ∧ _ ∧ _ ∧ @LT.lt _ _ _ _ ∧ _›).2.2.2.2.2.2.2.2.2.2.2.1 | exact Nat.ne_of_lt (‹_ ∧ _ ∧ _ ∧ _ ∧ _ ∧ _ ∧ _ ∧ _ ∧ _ ∧ _ ∧ _ ∧ _ ∧ @LT.lt _ _ _ _ ∧ _›).2.2.2.2.2.2.2.2.2.2.2.2.1 | exact Nat.ne_of_gt (‹_ ∧ _ ∧ _ ∧ _ ∧ _ ∧ _ ∧ _ ∧ _ ∧ _ ∧ _ ∧ _ ∧ _ ∧ @LT.lt _ _ _ _ ∧ _›).2.2.2.2.2.2.2.2.2.2.2.2.1 | exact Nat.ne_of_lt (‹_ ∧ _ ∧ _ ∧ _ ∧ _ ∧ _ ∧ _ ∧ _ ∧ _ ∧ _ ∧ _ ∧ _ ∧ _ ∧ @LT.lt _ _ _ _ ∧ _›).2.2.2.2.2.2.2.2.2.2.2.2.2.1 | exact Nat.ne_of_gt (‹_ ∧ _ ∧ _ ∧ _ ∧ _ ∧ _ ∧ _ ∧ _ ∧ _ ∧ _ ∧ _ ∧ _ ∧ _ ∧ @LT.lt _ _ _ _ ∧ _›).2.2.2.2.2.2.2.2.2.2.2.2.2.1)
  (k_with "adr" => (repeat (first | exact List.Mem.head _ | refine List.Mem.tail _ ?_)))
  (k_with "mine cx" => exact ⟨by assumption, by assumption, by assumption, by assumption, rfl, rfl, rfl, by (first | exact Nat.le_trans (Nat.succ_le_succ (show _ ≤ 330 by assumption)) (by decide) | exact Nat.le_trans (Nat.succ_le_succ (show _ ≤ 340 by assumption)) (by decide) | exact Nat.le_trans (Nat.succ_le_succ (show _ ≤ 345 by assumption)) (by decide) | exact Nat.le_trans (Nat.succ_le_succ (show _ ≤ 350 by assumption)) (by decide) | (simp only [depth_deeper]; omega)), by (first | exact Nat.le_trans (Nat.add_le_add_right (show _ ≤ 100 by assumption) 3) (by decide) | exact Nat.le_trans (Nat.add_le_add_right (show _ ≤ 130 by assumption) 3) (by decide) | exact Nat.le_trans (Nat.add_le_add_right (show _ ≤ 140 by assumption) 3) (by decide) | exact Nat.le_trans (Nat.add_le_add_right (show _ ≤ 150 by assumption) 3) (by decide) | (simp only [units_deeper]; omega)), rfl, by assumption, by assumption, by assumption⟩)
  (k_with "kind k_mem" => first | assumption | (refine List.mem_append_left _ ?_; k_mem) | (refine List.mem_append_right _ ?_; k_mem))
  (k_with "kind k_room" => (show _ < _; simp only [depth_under_make, depth_under_kw, depth_in1, depth_deeper, depth_caller, recursionLimit]; omega))
  trivial
section
variable {w : World} {A A₀ : Around} {E : Value → Shared → Prop} {s : Shared} {h₀ base : Heap} {L : Addr} {m mg mb : Str → Option Value} {news : List (Addr × Obj)} {p : Program} {loose : List Str} {mean : ExcName → Option Value} {env : Env} {outer : List Env}

theorem message_ok {told types : Addr} {rest : List (Addr × Obj)} {Q : Value → Shared → Prop}
    (C : Cx w A₀ A base h₀ s.heap L m p loose mean mg mb env outer) (hc79 : CodeHd base 83 79) (N : News h₀ L s.heap ((79, tabObj #[]) :: rest)) (h79 : ∀ p ∈ rest, p.1 ≠ 79)
    (h : ∀ h' tk own tab f, Fr h₀ L h' m → News h₀ L h' (own ++ (79, tabObj tab) :: rest) → PageAt w own f told types → Above own ((79, tabObj #[]) :: rest) → Q (.ref f) { s with heap := h', toks := tk }) :
    wpAny (model PySem.Challenge.rw_in0087_01.row.prog w) A (call (.ref 84) [.ref told, .ref types] []) Q E s := by
  have kX0 := C.X
  revert kX0
  k_fill
  intro kX0
  refine' enterC C N ?k6 ?k7 ?k8 ?kB ?kD ?c2 ?c3 ?c4 ?_
  case k6 => k_dflt k_is
  case k7 => k_dflt k_is
  case k8 => exact BindsTo.of_eq rfl
  case kB => exact rfl
  case kD => decide +kernel
  case c2 => exact rfl
  case c3 => exact rfl
  case c4 => exact rfl
  clear kX0
  obtain ⟨B, F, X, T, hA, hf, hke, hroom, hun, hh, hc90⟩ := C
  obtain ⟨hd', dep, fr, gs, un⟩ := A
  dsimp only at hA hroom hun hh
  subst hA
  subst hh
  clear F T X
  intro g' L' h' tk' cells' FG' F' N' Y' B' X' T' l1
  have h79L : @LT.lt Nat _ 79 L' := l1 _ (.head _)
  have hrL : ∀ p ∈ rest, @LT.lt Nat _ p.1 L' := fun p hp => l1 p (.tail _ hp)
  clear l1
  k_cells Y'
  have hc79' : CodeHd g' 83 79 := CodeHd.keeps hc79 (Below.stays B')
  (try simp only [List.cons_append, List.nil_append] at N')
  try dsimp only
  try k_fold
  k_steps
  rename_i XB0 TB0 oT oM dT dM f1 c1 oc1 vs1 t1 ct1 dc1 h15 tk2 d11 d21 l15 l23 h14 f2 c2 oc2 vs2 t2 ct2 dc2 h13 tk1 d12 d22 l14 l22 h12 f3 c3 oc3 vs3 t3 ct3 dc3 h11 tk0 d13 d23 l13 l21 h10 x d h9 l12 l20 ga La h8 Ba Xa Ta tkb dG h7 oG lo1 hs1 fs1 hi1 fi1 l11 h6 dS h5 oS lo hs fs hi fi l10 h4 F1 N1 Tc kX h3 h2 h1 h0 F3 N3
  refine leaveK_ F3 N3 fun F4 N4 => ?_
  refine h _ _ [(dS, oS), (dG, oG), (x, _), (d, _), (f3, _), (c3, oc3), (f2, _), (c2, oc2), (f1, _), (c1, oc1), (L' + 1 + 1, oT), (L' + 1, oM)] _ x F4 N4 ?_ ?_
  · refine ⟨d, dG, dS, f1, f2, f3, _, _, _, _, _, .tail _ (.tail _ (.head _)), .tail _ (.tail _ (.tail _ (.head _))), ?_, ?_, ?_⟩
    · exact ⟨L' + 1 + 1, c1, _, dc1, _, ct1, oT, oc1, vs1, t1, .tail _ (.tail _ (.tail _ (.tail _ (.tail _ (.tail _ (.tail _ (.tail _ (.head _)))))))),
        .tail _ (.tail _ (.tail _ (.tail _ (.tail _ (.tail _ (.tail _ (.tail _ (.tail _ (.tail _ (.head _)))))))))), dT, .tail _ (.tail _ (.tail _ (.tail _ (.tail _ (.tail _ (.tail _ (.tail _ (.tail _ (.head _))))))))), d11, d21⟩
    · exact ⟨L' + 1 + 1, c2, _, dc2, _, ct2, oT, oc2, vs2, t2, .tail _ (.tail _ (.tail _ (.tail _ (.tail _ (.tail _ (.head _)))))),
        .tail _ (.tail _ (.tail _ (.tail _ (.tail _ (.tail _ (.tail _ (.tail _ (.tail _ (.tail _ (.head _)))))))))), dT, .tail _ (.tail _ (.tail _ (.tail _ (.tail _ (.tail _ (.tail _ (.head _))))))), d12, d22⟩
    · exact ⟨L' + 1, c3, _, dc3, _, ct3, oM, oc3, vs3, t3, .tail _ (.tail _ (.tail _ (.tail _ (.head _)))),
        .tail _ (.tail _ (.tail _ (.tail _ (.tail _ (.tail _ (.tail _ (.tail _ (.tail _ (.tail _ (.tail _ (.head _))))))))))), dM, .tail _ (.tail _ (.tail _ (.tail _ (.tail _ (.head _))))), d13, d23⟩
  · have l7 : ∀ q ∈ (79, tabObj #[]) :: rest, @LT.lt Nat _ q.1 L' := (allC h79L hrL)
    have up : ∀ {c f : Addr}, AllLt c ((79, tabObj #[]) :: rest) → @LT.lt Nat _ c f → ∀ q ∈ (79, tabObj #[]) :: rest, @LT.lt Nat _ q.1 f := fun h h2 q hq => Nat.lt_trans (allLt_get h q hq) h2
    have k1 : AllLt c1 ((79, tabObj #[]) :: rest) := l15.2.2
    have k2 : AllLt c2 ((79, tabObj #[]) :: rest) := l14.2.2.2.2
    have k3 : AllLt c3 ((79, tabObj #[]) :: rest) := l13.2.2.2.2.2.2
    have k4 : AllLt d ((79, tabObj #[]) :: rest) := l12.2.2.2.2.2.2.2.2
    have k5 : AllLt dG ((79, tabObj #[]) :: rest) := l11.2.2.2.2.2.2.2.2.2.2
    have k6 : AllLt dS ((79, tabObj #[]) :: rest) := l10.2.2.2.2.2.2.2.2.2.2.2
    exact (allC (allLt_get k6) (allC (allLt_get k5) (allC (up k4 l20) (allC (allLt_get k4) (allC (up k3 l21) (allC (allLt_get k3) (allC (up k2 l22) (allC (allLt_get k2) (allC (up k1 l23) (allC (allLt_get k1) (allC (fun q hq => Nat.lt_succ_of_lt (Nat.lt_succ_of_lt (l7 q hq))) (allC (fun q hq => Nat.lt_succ_of_lt (l7 q hq)) (List.forall_mem_nil _)))))))))))))
end
end

-- L_add
section
theorem words_L_add : True := by
  w_top off
  k_with_none
  (k_with "ne" => with_reducible first | exact Nat.ne_of_lt (‹@LT.lt _ _ _ _ ∧ _›).1 | exact Nat.ne_of_gt (‹@LT.lt _ _ _ _ ∧ _›).1 | exact Nat.ne_of_lt (‹_ ∧ @LT.lt _ _ _ _ ∧ _›).2.1 | exact Nat.ne_of_gt (‹_ ∧ @LT.lt _ _ _ _ ∧ _›).2.1 | exact Nat.ne_of_lt (‹_ ∧ _ ∧ @LT.lt _ _ _ _ ∧ _›).2.2.1 | exact Nat.ne_of_gt (‹_ ∧ _ ∧ @LT.lt _ _ _ _ ∧ _›).2.2.1 | exact Nat.ne_of_lt (‹_ ∧ _ ∧ _ ∧ @LT.lt _ _ _ _ ∧ _›).2.2.2.1 | exact Nat.ne_of_gt (‹_ ∧ _ ∧ _ ∧ @LT.lt _ _ _ _ ∧ _›).2.2.2.1 | exact Nat.ne_of_lt (‹_ ∧ _ ∧ _ ∧ _ ∧ @LT.lt _ _ _ _ ∧ _›).2.2.2.2.1 | exact Nat.ne_of_gt (‹_ ∧ _ ∧ _ ∧ _ ∧ @LT.lt _ _ _ _ ∧ _›).2.2.2.2.1 | exact Nat.ne_of_lt (‹_ ∧ _ ∧ _ ∧ _ ∧ _ ∧ @LT.lt _ _ _ _ ∧ _›).2.2.2.2.2.1 | exact Nat.ne_of_gt (‹_ ∧ _ ∧ _ ∧ _ ∧ _ ∧ @LT.lt _ _ _ _ ∧ _›).2.2.2.2.2.1 | exact Nat.ne_of_lt (‹_ ∧ _ ∧ _ ∧ _ ∧ _ ∧ _ ∧ @LT.lt _ _ _ _ ∧ _›).2.2.2.2.2.2.1 | exact Nat.ne_of_gt (‹_ ∧ _ ∧ _ ∧ _ ∧ _ ∧ _ ∧ @LT.lt _ _ _ _ ∧ _›).2.2.2.2.2.2.1 | exact Nat.ne_of_lt (‹_ ∧ _ ∧ _ ∧ _ ∧ _ ∧ _ ∧ _ ∧ @LT.lt _ _ _ _ ∧ _›).2.2.2.2.2.2.2.1 | exact Nat.ne_of_gt (‹_ ∧ _ ∧ _ ∧ _ ∧ _ ∧ _ ∧ _ ∧ @LT.lt _ _ _ _ ∧ _›).2.2.2.2.2.2.2.1 | exact Nat.ne_of_lt (‹_ ∧ _ ∧ _ ∧ _ ∧ _ ∧ _ ∧ _ ∧ _ ∧ @LT.lt _ _ _ _ ∧ _›).2.2.2.2.2.2.2.2.1 | exact Nat.ne_of_gt (‹_ ∧ _ ∧ _ ∧ _ ∧ _ ∧ _ ∧ _ ∧ _ ∧ @LT.lt _ _ _ _ ∧ _›).2.2.2.2.2.2.2.2.1 | exact Nat.ne_of_lt (‹_ ∧ _ ∧ _ ∧ _ ∧ _ ∧ _ ∧ _ ∧ _ ∧ _ ∧ @LT.lt _ _ _ _ ∧ _›).2.2.2.2.2.2.2.2.2.1 | exact Nat.ne_of_gt (‹_ ∧ _ ∧ _ ∧ _ ∧ _ ∧ _ ∧ _ ∧ _ ∧ _ ∧ @LT.lt _ _ _ _ ∧ _›).2.2.2.2.2.2.2.2.2.1 | exact Nat.ne_of_lt (‹_ ∧ _ ∧ _ ∧ _ ∧ _ ∧ _ ∧ _ ∧ _ ∧ _ ∧ _ ∧ @LT.lt _ _ _ _ ∧ _›).2.2.2.2.2.2.2.2.2.2.1 | exact Nat.ne_of_gt (‹_ ∧ _ ∧ _ ∧ _ ∧ _ ∧ _ ∧ _ ∧ _ ∧ _ ∧ _ ∧ @LT.lt _ _ _ _ ∧ _›).2.2.2.2.2.2.2.2.2.2.1 | exact Nat.ne_of_lt (‹_ ∧ _ ∧ _ ∧ _ ∧ _ ∧ _ ∧ _ ∧ _ ∧ _ ∧ _ ∧ _ ∧ @LT.lt _ _ _ _ ∧ _›).2.2.2.2.2.2.2.2.2.2.2.1 | exact Nat.ne_of_gt (‹_ ∧ _ ∧ _ ∧ _ ∧ _ ∧ _ ∧ _ ∧ _ ∧ _ ∧ _ ∧ _ ∧ @LT.lt _ _ _ _ ∧ _›).2.2.2.2.2.2.2.2.2.2.2.1 | exact Nat.ne_of_lt (‹_ ∧ _ ∧ _ ∧ _ ∧ _ ∧ _ ∧ _ ∧ _ ∧ _ ∧ _ ∧ _ ∧ _ ∧ @LT.lt _ _ _ _ ∧ _›).2.2.2.2.2.2.2.2.2.2.2.2.1 | exact Nat.ne_of_gt (‹_ ∧ _ ∧ _ ∧ _ ∧ _ ∧ _ ∧ _ ∧ _ ∧ _ ∧ _ ∧ _ ∧ _ ∧ @LT.lt _ _ _ _ ∧ _›).2.2.2.2.2.2.2.2.2.2.2.2.1 | exact Nat.ne_of_lt (‹_ ∧ _ ∧ _ ∧ _ ∧ _ ∧ _ ∧ _ ∧ _ ∧ _ ∧ _ ∧ _ ∧ _ ∧ _ ∧ @LT.lt _ _ _ _ ∧ _›).2.2.2.2.2.2.2.2.2.2.2.2.2.1 | exact Nat.ne_of_gt (‹_ ∧ _ ∧ _ ∧ _ ∧ _ ∧ _ ∧ _ ∧ _ ∧ _ ∧ _ ∧ _ ∧ _ ∧ _ ∧ @LT.lt _ _ _ _ ∧ _›).2.2.2.2.2.2.2.2.2.2.2.2.2.1)
  (k_with "adr" => (repeat (first | exact List.Mem.head _ | refine List.Mem.tail _ ?_)))
  (k_with "mine cx" => exact ⟨by assumption, by assumption, by assumption, by assumption, rfl, rfl, rfl, by (first | exact Nat.le_trans (Nat.succ_le_succ (show _ ≤ 330 by assumption)) (by decide) | exact Nat.le_trans (Nat.succ_le_succ (show _ ≤ 340 by assumption)) (by decide) | exact Nat.le_trans (Nat.succ_le_succ (show _ ≤ 345 by assumption)) (by decide) | exact Nat.le_trans (Nat.succ_le_succ (show _ ≤ 350 by assumption)) (by decide) | (simp only [depth_deeper]; omega)), by (first | exact Nat.le_trans (Nat.add_le_add_right (show _ ≤ 100 by assumption) 3) (by decide) | exact Nat.le_trans (Nat.add_le_add_right (show _ ≤ 130 by assumption) 3) (by decide) | exact Nat.le_trans (Nat.add_le_add_right (show _ ≤ 140 by assumption) 3) (by decide) | exact Nat.le_trans (Nat.add_le_add_right (show _ ≤ 150 by assumption) 3) (by decide) | (simp only [units_deeper]; omega)), rfl, by assumption, by assumption, by assumption⟩)
  (k_with "kind k_mem" => first | assumption | (refine List.mem_append_left _ ?_; k_mem) | (refine List.mem_append_right _ ?_; k_mem))
  (k_with "kind k_room" => (show _ < _; simp only [depth_under_make, depth_under_kw, depth_in1, depth_deeper, depth_caller, recursionLimit]; omega))
  (k_with "setItem ref" => (k_here; (k_dflt (refine' set_mix ?w38F ?w38N ?w38U ?w38d ?w38k ?w38z ?_; (case w38F => k_asm); (case w38N => k_asm); (case w38U => k_updF); (case w38d => assumption); (case w38k => assumption); (case w38z => assumption); k_whole)); intro _ _ _ n9x3 n9x4; (try dsimp only at n9x3); revert n9x3 n9x4; intro _ _))
  trivial
section
variable {w : World} {A A₀ : Around} {E : Value → Shared → Prop} {s : Shared} {h₀ base : Heap} {L : Addr} {m mg mb : Str → Option Value} {news : List (Addr × Obj)} {p : Program} {loose : List Str} {mean : ExcName → Option Value} {env : Env} {outer : List Env}

theorem add_get {mgr dG dS : Addr} {o : Obj} {kvs : List (MK × Value)} {k : MK} {key v : Value} {rest : List (Addr × Obj)} {Q : Value → Shared → Prop}
    (C : Cx w A₀ A base h₀ s.heap L m p loose mean mg mb env outer) (N : News h₀ L s.heap ((dG, o) :: rest)) (hoff : ∀ p ∈ rest, p.1 ≠ dG) (hM : MgrAt w rest mgr dG dS) (hd : o.IsDictOf (mixKind PR w) kvs) (hk : (mixKind PR w).is k key = true) (hz : kvs.length ≤ sizeLine)
    (h : ∀ h' tk o', Fr h₀ L h' m → News h₀ L h' ((dG, o') :: rest) → o'.IsDictOf (mixKind PR w) (stored kvs k v) → Q .none { s with heap := h', toks := tk }) :
    wpAny (model PySem.Challenge.rw_in0087_01.row.prog w) A (call (.ref 35) [.ref mgr, key, v] []) Q E s := by
  have kX0 := C.X
  revert kX0
  k_fill
  intro kX0
  obtain ⟨dm, t1, t2, hm1, hm2⟩ := hM
  refine' enter C N ?k6 ?k7 ?k8 ?k9 ?c1 ?c2 ?c3 ?c4 ?_
  case k6 => k_dflt k_is
  case k7 => k_dflt k_is
  case k8 => exact BindsTo.of_eq rfl
  case k9 => exact locs rfl
  case c1 => exact rfl
  case c2 => exact rfl
  case c3 => exact rfl
  case c4 => decide
  clear kX0
  obtain ⟨B, F, X, T, hA, hf, hke, hroom, hun, hh, hc90⟩ := C
  obtain ⟨hd', dep, fr, gs, un⟩ := A
  dsimp only at hA hroom hun hh
  subst hA
  subst hh
  clear F T X
  intro g' L' h' FG' F' N' B' X' T'
  try dsimp only
  try k_fold
  k_steps
  rename Fr g' _ _ _ => F9
  rename News g' _ _ _ => N9
  rename Obj.IsDictOf _ _ (stored kvs k v) => d9
  exact leaveK_ F9 N9 fun F10 N10 => h _ _ _ F10 N10 d9
theorem add_set {mgr dG dS : Addr} {o : Obj} {kvs : List (MK × Value)} {k : MK} {key v : Value} {rest : List (Addr × Obj)} {Q : Value → Shared → Prop}
    (C : Cx w A₀ A base h₀ s.heap L m p loose mean mg mb env outer) (N : News h₀ L s.heap ((dS, o) :: rest)) (hoff : ∀ p ∈ rest, p.1 ≠ dS) (hM : MgrAt w rest mgr dG dS) (hd : o.IsDictOf (mixKind PR w) kvs) (hk : (mixKind PR w).is k key = true) (hz : kvs.length ≤ sizeLine)
    (h : ∀ h' tk o', Fr h₀ L h' m → News h₀ L h' ((dS, o') :: rest) → o'.IsDictOf (mixKind PR w) (stored kvs k v) → Q .none { s with heap := h', toks := tk }) :
    wpAny (model PySem.Challenge.rw_in0087_01.row.prog w) A (call (.ref 49) [.ref mgr, key, v] []) Q E s := by
  have kX0 := C.X
  revert kX0
  k_fill
  intro kX0
  obtain ⟨dm, t1, t2, hm1, hm2⟩ := hM
  refine' enter C N ?k6 ?k7 ?k8 ?k9 ?c1 ?c2 ?c3 ?c4 ?_
  case k6 => k_dflt k_is
  case k7 => k_dflt k_is
  case k8 => exact BindsTo.of_eq rfl
  case k9 => exact locs rfl
  case c1 => exact rfl
  case c2 => exact rfl
  case c3 => exact rfl
  case c4 => decide
  clear kX0
  obtain ⟨B, F, X, T, hA, hf, hke, hroom, hun, hh, hc90⟩ := C
  obtain ⟨hd', dep, fr, gs, un⟩ := A
  dsimp only at hA hroom hun hh
  subst hA
  subst hh
  clear F T X
  intro g' L' h' FG' F' N' B' X' T'
  try dsimp only
  try k_fold
  k_steps
  rename Fr g' _ _ _ => F9
  rename News g' _ _ _ => N9
  rename Obj.IsDictOf _ _ (stored kvs k v) => d9
  exact leaveK_ F9 N9 fun F10 N10 => h _ _ _ F10 N10 d9

theorem add_getU {mgr dG dS : Addr} {o : Obj} {kvs : List (MK × Value)} {k : MK} {key v : Value} {led : List (Addr × Obj)} {g : Obj → List (Addr × Obj)} {Q : Value → Shared → Prop}
    (C : Cx w A₀ A base h₀ s.heap L m p loose mean mg mb env outer) (N : News h₀ L s.heap news) (U : UpdF dG o news g) (hM : MgrAt w led mgr dG dS) (hs : ∀ p ∈ led, p ∈ news) (hn : ∀ p ∈ led, p.1 ≠ dG) (hd : o.IsDictOf (mixKind PR w) kvs) (hk : (mixKind PR w).is k key = true) (hz : kvs.length ≤ sizeLine)
    (h : ∀ h' tk o', Fr h₀ L h' m → News h₀ L h' (g o') → o'.IsDictOf (mixKind PR w) (stored kvs k v) → Q .none { s with heap := h', toks := tk }) :
    wpAny (model PySem.Challenge.rw_in0087_01.row.prog w) A (call (.ref 35) [.ref mgr, key, v] []) Q E s := by
  obtain ⟨R, r1, r2, r3, r4⟩ := updOut U
  exact add_get C (fun p hp => N p (r3 p hp)) r1 (hM.mono fun p hp => r4 p (hs p hp) (hn p hp)) hd hk hz fun h' tk o' F' N' => h h' tk o' F' fun p hp => N' p (r2 o' p hp)

theorem add_setU {mgr dG dS : Addr} {o : Obj} {kvs : List (MK × Value)} {k : MK} {key v : Value} {led : List (Addr × Obj)} {g : Obj → List (Addr × Obj)} {Q : Value → Shared → Prop}
    (C : Cx w A₀ A base h₀ s.heap L m p loose mean mg mb env outer) (N : News h₀ L s.heap news) (U : UpdF dS o news g) (hM : MgrAt w led mgr dG dS) (hs : ∀ p ∈ led, p ∈ news) (hn : ∀ p ∈ led, p.1 ≠ dS) (hd : o.IsDictOf (mixKind PR w) kvs) (hk : (mixKind PR w).is k key = true) (hz : kvs.length ≤ sizeLine)
    (h : ∀ h' tk o', Fr h₀ L h' m → News h₀ L h' (g o') → o'.IsDictOf (mixKind PR w) (stored kvs k v) → Q .none { s with heap := h', toks := tk }) :
    wpAny (model PySem.Challenge.rw_in0087_01.row.prog w) A (call (.ref 49) [.ref mgr, key, v] []) Q E s := by
  obtain ⟨R, r1, r2, r3, r4⟩ := updOut U
  exact add_set C (fun p hp => N p (r3 p hp)) r1 (hM.mono fun p hp => r4 p (hs p hp) (hn p hp)) hd hk hz fun h' tk o' F' N' => h h' tk o' F' fun p hp => N' p (r2 o' p hp)
end
end

-- L_exc
section
open PySem.Calls
theorem words_L_exc : True := by
  w_top off
  k_with_none
  (k_with "ne" => with_reducible first | exact Nat.ne_of_lt (‹@LT.lt _ _ _ _ ∧ _›).1 | exact Nat.ne_of_gt (‹@LT.lt _ _ _ _ ∧ _›).1 | exact Nat.ne_of_lt (‹_ ∧ @LT.lt _ _ _ _ ∧ _›).2.1 | exact Nat.ne_of_gt (‹_ ∧ @LT.lt _ _ _ _ ∧ _›).2.1 | exact Nat.ne_of_lt (‹_ ∧ _ ∧ @LT.lt _ _ _ _ ∧ _›).2.2.1 | exact Nat.ne_of_gt (‹_ ∧ _ ∧ @LT.lt _ _ _ _ ∧ _›).2.2.1 | exact Nat.ne_of_lt (‹_ ∧ _ ∧ _ ∧ @LT.lt _ _ _ _ ∧ _›).2.2.2.1 | exact Nat.ne_of_gt (‹_ ∧ _ ∧ _ ∧ @LT.lt _ _ _ _ ∧ _›).2.2.2.1 | exact Nat.ne_of_lt (‹_ ∧ _ ∧ _ ∧ _ ∧ @LT.lt _ _ _ _ ∧ _›).2.2.2.2.1 | exact Nat.ne_of_gt (‹_ ∧ _ ∧ _ ∧ _ ∧ @LT.lt _ _ _ _ ∧ _›).2.2.2.2.1 | exact Nat.ne_of_lt (‹_ ∧ _ ∧ _ ∧ _ ∧ _ ∧ @LT.lt _ _ _ _ ∧ _›).2.2.2.2.2.1 | exact Nat.ne_of_gt (‹_ ∧ _ ∧ _ ∧ _ ∧ _ ∧ @LT.lt _ _ _ _ ∧ _›).2.2.2.2.2.1 | exact Nat.ne_of_lt (‹_ ∧ _ ∧ _ ∧ _ ∧ _ ∧ _ ∧ @LT.lt _ _ _ _ ∧ _›).2.2.2.2.2.2.1 | exact Nat.ne_of_gt (‹_ ∧ _ ∧ _ ∧ _ ∧ _ ∧ _ ∧ @LT.lt _ _ _ _ ∧ _›).2.2.2.2.2.2.1 | exact Nat.ne_of_lt (‹_ ∧ _ ∧ _ ∧ _ ∧ _ ∧ _ ∧ _ ∧ @LT.lt _ _ _ _ ∧ _›).2.2.2.2.2.2.2.1 | exact Nat.ne_of_gt (‹_ ∧ _ ∧ _ ∧ _ ∧ _ ∧ _ ∧ _ ∧ @LT.lt _ _ _ _ ∧ _›).2.2.2.2.2.2.2.1 | exact Nat.ne_of_lt (‹_ ∧ _ ∧ _ ∧ _ ∧ _ ∧ _ ∧ _ ∧ _ ∧ @LT.lt _ _ _ _ ∧ _›).2.2.2.2.2.2.2.2.1 | exact Nat.ne_of_gt (‹_ ∧ _ ∧ _ ∧ _ ∧ _ ∧ _ ∧ _ ∧ _ ∧ @LT.lt _ _ _ _ ∧ _›).2.2.2.2.2.2.2.2.1 | exact Nat.ne_of_lt (‹_ ∧ _ ∧ _ ∧ _ ∧ _ ∧ _ ∧ _ ∧ _ ∧ _ ∧ @LT.lt _ _ _ _ ∧ _›).2.2.2.2.2.2.2.2.2.1 | exact Nat.ne_of_gt (‹_ ∧ _ ∧ _ ∧ _ ∧ _ ∧ _ ∧ _ ∧ _ ∧ _ ∧ @LT.lt _ _ _ _ ∧ _›).2.2.2.2.2.2.2.2.2.1 | exact Nat.ne_of_lt (‹_ ∧ _ ∧ _ ∧ _ ∧ _ ∧ _ ∧ _ ∧ _ ∧ _ ∧ _ ∧ @LT.lt _ _ _ _ ∧ _›).2.2.2.2.2.2.2.2.2.2.1 | exact Nat.ne_of_gt (‹_ ∧ _ ∧ _ ∧ _ ∧ _ ∧ _ ∧ _ ∧ _ ∧ _ ∧ _ ∧ @LT.lt _ _ _ _ ∧ _›).2.2.2.2.2.2.2.2.2.2.1 | exact Nat.ne_of_lt (‹_ ∧ _ ∧ _ ∧ _ ∧ _ ∧ _ ∧ _ ∧ _ ∧ _ ∧ _ ∧ _ ∧ @LT.lt _ _ _ _ ∧ _›).2.2.2.2.2.2.2.2.2.2.2.1 | exact Nat.ne_of_gt (‹_ ∧ _ ∧ _ ∧ _ ∧ _ ∧ _ ∧ _ ∧ _ ∧ _ ∧ _ ∧ _ ∧ @LT.lt _ _ _ _ ∧ _›).2.2.2.2.2.2.2.2.2.2.2.1 | exact Nat.ne_of_lt (‹_ ∧ _ ∧ _ ∧ _ ∧ _ ∧ _ ∧ _ ∧ _ ∧ _ ∧ _ ∧ _ ∧ _ ∧ @LT.lt _ _ _ _ ∧ _›).2.2.2.2.2.2.2.2.2.2.2.2.1 | exact Nat.ne_of_gt (‹_ ∧ _ ∧ _ ∧ _ ∧ _ ∧ _ ∧ _ ∧ _ ∧ _ ∧ _ ∧ _ ∧ _ ∧ @LT.lt _ _ _ _ ∧ _›).2.2.2.2.2.2.2.2.2.2.2.2.1 | exact Nat.ne_of_lt (‹_ ∧ _ ∧ _ ∧ _ ∧ _ ∧ _ ∧ _ ∧ _ ∧ _ ∧ _ ∧ _ ∧ _ ∧ _ ∧ @LT.lt _ _ _ _ ∧ _›).2.2.2.2.2.2.2.2.2.2.2.2.2.1 | exact Nat.ne_of_gt (‹_ ∧ _ ∧ _ ∧ _ ∧ _ ∧ _ ∧ _ ∧ _ ∧ _ ∧ _ ∧ _ ∧ _ ∧ _ ∧ @LT.lt _ _ _ _ ∧ _›).2.2.2.2.2.2.2.2.2.2.2.2.2.1)
  (k_with "adr" => (repeat (first | exact List.Mem.head _ | refine List.Mem.tail _ ?_)))
  (k_with "mine cx" => exact ⟨by assumption, by assumption, by assumption, by assumption, rfl, rfl, rfl, by (first | exact Nat.le_trans (Nat.succ_le_succ (show _ ≤ 330 by assumption)) (by decide) | exact Nat.le_trans (Nat.succ_le_succ (show _ ≤ 340 by assumption)) (by decide) | exact Nat.le_trans (Nat.succ_le_succ (show _ ≤ 345 by assumption)) (by decide) | exact Nat.le_trans (Nat.succ_le_succ (show _ ≤ 350 by assumption)) (by decide) | (simp only [depth_deeper]; omega)), by (first | exact Nat.le_trans (Nat.add_le_add_right (show _ ≤ 100 by assumption) 3) (by decide) | exact Nat.le_trans (Nat.add_le_add_right (show _ ≤ 130 by assumption) 3) (by decide) | exact Nat.le_trans (Nat.add_le_add_right (show _ ≤ 140 by assumption) 3) (by decide) | exact Nat.le_trans (Nat.add_le_add_right (show _ ≤ 150 by assumption) 3) (by decide) | (simp only [units_deeper]; omega)), rfl, by assumption, by assumption, by assumption⟩)
  (k_with "kind k_mem" => first | assumption | (refine List.mem_append_left _ ?_; k_mem) | (refine List.mem_append_right _ ?_; k_mem))
  (k_with "kind k_room" => (show _ < _; simp only [depth_under_make, depth_under_kw, depth_in1, depth_deeper, depth_caller, recursionLimit]; omega))
  trivial
set_option maxHeartbeats 4000000

theorem raise_KeyError : ExcRaiseFacts "KeyError" := ⟨by rw [isSubtype_type]; kernel_rfl, by kernel_rfl⟩
theorem raise_TypeError : ExcRaiseFacts "TypeError" := ⟨by rw [isSubtype_type]; kernel_rfl, by kernel_rfl⟩

section
variable {prog : Program} {w : World} {A : Around} {E : Value → Shared → Prop} {s : Shared} {X N I : String}

/-- a new exception of a built-in class, with what it was made from -/
theorem call_made (hc : ExcClass X N I) {rest : List Value} {Q : Value → Shared → Prop} (hrest : rest.length ≤ sizeLine)
    (h : ∀ h' e, Heap.MadeExc s.heap h' e X rest → Q (.ref e) { s with heap := h' }) :
    wpAny (model prog w) A (call (.type X) rest) Q E s := by
  refine wpAny_call (codeAny_of_tree ?_)
  show wpAny _ _ (callAny (.type X) ⟨rest, []⟩) _ _ s
  simp only [callAny]
  refine wpAny_pure ⟨Code.quiet_builtin _ (by decide +kernel), codeAny_builtin entry_type_call ?_⟩
  rw [Around.under_plain (weight_type_call X _ _) (by first | rfl | kernel_rfl | decide +kernel)]
  unfold Builtin.«type.__call__»
  dsimp only
  rw [if_neg (by rw [hc.notType]; exact Bool.false_ne_true), if_neg (by rw [hc.canNew]; exact Bool.false_ne_true)]
  obtain ⟨l, hl, hle⟩ := hc.mro
  refine wpAny_bind (wpAny_of_eq (hc.typeCall rest) (wpAny_bind (wpAny_of_eq hl ?_)))
  rw [if_neg (by rw [hle]; exact Bool.false_ne_true)]
  refine wpAny_bind (wpAny_of_eq hc.madeBy ?_)
  dsimp only
  refine wpAny_bind (wpAny_pure (wpAny_bind (wpAny_holding (new_exc hc ?_ hrest))))
  have hT : ∀ h : Heap, (h.push ({ cls := .type X, data := .fields #[.ref s.heap.objs.size, .none, .none, .none, .bool false, .none] } : Obj)).get? h.objs.size = some ({ cls := .type X, data := .fields #[.ref s.heap.objs.size, .none, .none, .none, .bool false, .none] } : Obj) := fun h => Heap.get?_push_size _ rfl
  refine wpAny_bind (wpAny_isInstance (T := X) ⟨_, hT _, rfl⟩ hc.self ?_)
  simp only [Bool.not_true, Bool.false_eq_true, if_false]
  refine wpAny_bind (wpAny_holding (wpAny_callSpecial?_slot (name := Str.ofString "__init__") (T := X) ⟨_, hT _, rfl⟩ hc.init (init_exc hc (hT _) rfl rfl rfl ?_ hrest)))
  dsimp only
  rw [if_neg (by simp)]
  have ne : s.heap.objs.size + 1 + 1 ≠ s.heap.objs.size + 1 := by omega
  refine wpAny_pure (h _ _ ⟨fun b o hb => ?_, Heap.get?_none_of_le (by simp), s.heap.objs.size + 1 + 1, (Heap.get?_update_self _ (Heap.get?_push_of_some _ (hT _)) (Obj.isFreed_of_fields (Obj.data_mapFields rfl _))).trans (congrArg some ?_), Heap.get?_none_of_le (by omega), ?_⟩)
  · rw [Heap.get?_update_other _ _ (Nat.ne_of_gt (Nat.lt_of_lt_of_le (Heap.lt_size hb) (by simp)))]
    exact Heap.get?_push_of_some _ (Heap.get?_push_of_some _ (Heap.get?_push_of_some _ hb))
  · simp only [Heap.size_push]
    rfl
  · rw [Heap.get?_update_other _ _ (by rw [Heap.size_push]; exact Ne.symm ne)]
    exact Heap.get?_push_at (by simp only [Heap.size_push]) rfl
end

/-- the word of a KeyError over one text -/
theorem slot_keyStr : Slot "KeyError" "__str__" "KeyError.__str__" :=
  .of (owner := "KeyError") (n := "__str__") (by rw [typeLookup_type, builtinLookup_eq_fast]; kernel_rfl) (by decide +kernel) (by decide +kernel) (by decide +kernel)
    (by first | exact .inl (by decide +kernel) | exact .inr (by decide +kernel)) (by rw [isSubtype_type]; kernel_rfl)

section
variable {prog : Program} {w : World} {A : Around} {E : Value → Shared → Prop} {s : Shared} {e t0 : Addr}
theorem strOf_key (hu : A.units < cLine) {m : Str} {tk : Tok} {Q : Value → Shared → Prop} (x : s.heap.ExcAt e "KeyError" (.ref t0)) (ht : s.heap.TupAt t0 [.str m tk]) (hsz : (reprText m).length ≤ sizeLine) (hq : Q (.str (reprText m) s.toks) { s with toks := s.toks + 1 }) :
    wpAny (model prog w) A (Builtin.Str.strOf (.ref e)) Q E s := by
  have hc : ∀ (E : Value → Shared → Prop) (Q : Value → Shared → Prop), Q (.str (reprText m) s.toks) { s with toks := s.toks + 1 } → wpAny (model prog w) A (call (.builtin "KeyError.__str__") [.ref e]) Q E s := fun E Q q =>
    wpAny_call_entry slot_keyStr x.typeIs PySem.F.entry_keyError_str (keyErrorStr_entry_one x ht ⟨_, rfl, q⟩ hsz) (PySem.F.args_keyError_str _)
  unfold Builtin.Str.strOf
  repeat (first | with_reducible refine wpAny_cRoomFor hu ?_ | with_reducible refine wpAny_callSpecial?_slot x.typeIs slot_keyStr (hc _ _ ?_) | wp_step)
  exact hq
theorem str_key (hu : A.units + 2 < cLine) {m : Str} {tk : Tok} {Q : Value → Shared → Prop} (x : s.heap.ExcAt e "KeyError" (.ref t0)) (ht : s.heap.TupAt t0 [.str m tk]) (hsz : (reprText m).length ≤ sizeLine) (h : Q (.str (reprText m) s.toks) { s with toks := s.toks + 1 }) :
    wpAny (model prog w) A (call (.type "str") [.ref e]) Q E s :=
  callType_new PySem.F.called_str (by decide) (PySem.F.typeCall_str_1 _) (PySem.F.newCall_str_1 _) (fun obj => PySem.F.args_object_init_2 obj _) PySem.F.entry_str_new
    (meets_str_new (S := fun A' R s' => A'.units + 1 < cLine ∧ s'.heap.ExcAt e "KeyError" (.ref t0) ∧ s'.heap.TupAt t0 [.str m tk] ∧ R (.ok (.ret (.str (reprText m) s'.toks))) { s' with toks := s'.toks + 1 })
      fun _ _ A' _ _ hq => strOf_key (A := A'.in1) hq.1 hq.2.1 hq.2.2.1 hsz hq.2.2.2)
    ⟨(show A.units + 1 + 1 < cLine from hu), x, ht, typeIs_str _ _ _, h⟩
end
/-- here the walk stops -/
noncomputable def Halt (P : Prop) : Prop := P
theorem Halt.to {P : Prop} (h : Halt P) : P := h

/-- a new exception over one value is on its way -/
noncomputable def MadeTo (E : Value → Shared → Prop) (X : String) (v : Value) (s : Shared) : Prop := ∀ h' e, Heap.MadeExc s.heap h' e X [v] → E (.ref e) { s with heap := h' }

section
variable {prog : Program} {w : World} {A : Around} {E : Value → Shared → Prop} {s : Shared} {env : Env} {X N I : String}
theorem Raise_X (hc : ExcClass X N I) (FR : ExcRaiseFacts X) {x : Str} {np cpos pos : Pos} {e₀ : Expr} {Q : Flow → Shared → Prop} (hh : A.handled = none)
    (h : wpAny (model prog w) A (eval (.Name x np) env) (fun f s₁ => f = .type X ∧ wpAny (model prog w) A (spliced (backTo cpos (starEach [e₀] env))) (fun vs s₂ => ∃ v, vs = [v] ∧ MadeTo E X v s₂) E s₁) E s)
    (he : starEach [e₀] env = [(false, eval e₀ env)]) :
    wpAny (model prog w) A (exec (.Raise (some (.Call (.Name x np) [e₀] [] cpos)) none pos) env) Q E s := by
  refine wpAny_Raise_made FR hh (wpAny_Call_ofName (wpAny_mono h (fun f s₁ h₁ => ?_) fun _ _ y => y))
  obtain ⟨rfl, h₁⟩ := h₁
  rw [he] at h₁ ⊢
  refine callWith_excType rfl (evalArgs_plain (wpAny_mono h₁ (fun vs s₂ h₂ => ?_) fun _ _ y => y))
  obtain ⟨v, rfl, h₂⟩ := h₂
  refine call_made hc (Nat.le_of_ble_eq_true rfl) fun h' e hm => ?_
  obtain ⟨t, ht, _, _⟩ := hm.there
  exact ⟨e, t, rfl, ht, h₂ h' e hm⟩
end
end

-- L_call
section
section
variable {w : World} {A A₀ : Around} {E : Value → Shared → Prop} {s : Shared} {h₀ base : Heap} {L : Addr} {m mg mb : Str → Option Value} {news : List (Addr × Obj)} {p : Program} {loose : List Str} {mean : ExcName → Option Value} {env : Env} {outer : List Env}

/-- a top def with * and ** is opened -/
theorem enterVT {name qual : Str} {params : Arguments} {body : List Stmt} {scope : Scope} {dV kV doc pm cdv ct oc : Value} {an od : Option Addr} {osl : Array (Option Value)} {f : Addr} {pos : List Value} {kw ex : List (Str × Value)} {vs : List Value} {binds : Addr → Addr → List (Str × Value)} {Q : Value → Shared → Prop}
    (C : Cx w A₀ A base h₀ s.heap L m p loose mean mg mb env outer) (N : News h₀ L s.heap news)
    (ho : (Mine.KS w.params).lookup f = some ⟨oc, od, .func (fnOf name qual params body scope dV kV doc pm an cdv ct), osl⟩) (hcd : codeIn (Mine.KS w.params) cdv qual = true)
    (hbind : ∀ (A' : Around) (E' : Value → Shared → Prop) (Q' : List (Str × Value) → Shared → Prop), (∀ C D o h' tk, (∀ p ∈ news, p.1 < C) → C < D → (D == sysModules) = false → o.IsDictOf (strKind PR w) ex → Fr h₀ L h' m → News h₀ L h' ((D, o) :: (C, ({ cls := .type "tuple", data := .seq vs.toArray } : Obj)) :: news) →
      Q' (binds C D) { s with heap := h', toks := tk }) → wpAny (model PR w) A' (bindArgs (fnOf name qual params body scope dV kV doc pm an cdv ct) ⟨pos, kw⟩) Q' E' s)
    (hloc : ∀ C D, ∀ y ∈ binds C D, scope.names.lookup y.1 = some .local)
    (hco : scope.isCoroutine = false) (hgen : scope.isGenerator = false) (hk : scope.kind = .function)
    (hcell : ∀ x ∈ scope.names, x.2 ≠ .cell)
    (h : ∀ C D o g L' h₁ tk, (∀ p ∈ news, @LT.lt Nat _ p.1 C) → @LT.lt Nat _ C D → (D == sysModules) = false → o.IsDictOf (strKind PR w) ex → Fr h₀ L g m → Fr g L' h₁ (fun y => (binds C D).reverse.lookup y) →
      News g L' h₁ ((D, o) :: (C, ({ cls := .type "tuple", data := .seq vs.toArray } : Obj)) :: news) → Below A base (env :: outer) g → (Mine.KS w.params).In g → Top p loose mean mg mb g →
      wpAny (model PR w) (A.deeper (envOf qual scope L' f cdv)) (execs body (envOf qual scope L' f cdv))
        (fun fl s' => LeaveK h₀ L m g (fun r s' => match r with | .ok (.ret v) => Q v s' | .ok _ => False | .error e => E e s') (match fl with | .ret v => v | _ => .none) s')
        (fun e s' => wpAny (model PR w) (A.deeper (envOf qual scope L' f cdv)) (leaving (envOf qual scope L' f cdv) e) (fun _ s'' => E e s'') (fun e' s'' => E e' s'') s')
        { s with heap := h₁, toks := tk }) :
    wpAny (model PR w) A (call (.ref f) pos kw) Q E s :=
  enterV (cl := []) C N ((C.X.keeps C.F.keep) _ _ ho) rfl (codeRec_of (C.X.keeps C.F.keep) hcd) hbind hloc hco hgen hk hcell h

/-- a top def with * and ** is opened, as a code -/
theorem enterVTc {name qual : Str} {params : Arguments} {body : List Stmt} {scope : Scope} {dV kV doc pm cdv ct oc : Value} {an od : Option Addr} {osl : Array (Option Value)} {f : Addr} {pos : List Value} {kw ex : List (Str × Value)} {vs : List Value} {binds : Addr → Addr → List (Str × Value)} {Q : Value → Shared → Prop}
    (C : Cx w A₀ A base h₀ s.heap L m p loose mean mg mb env outer) (N : News h₀ L s.heap news)
    (ho : (Mine.KS w.params).lookup f = some ⟨oc, od, .func (fnOf name qual params body scope dV kV doc pm an cdv ct), osl⟩) (hcd : codeIn (Mine.KS w.params) cdv qual = true)
    (hbind : ∀ (A' : Around) (E' : Value → Shared → Prop) (Q' : List (Str × Value) → Shared → Prop), (∀ C D o h' tk, (∀ p ∈ news, p.1 < C) → C < D → (D == sysModules) = false → o.IsDictOf (strKind PR w) ex → Fr h₀ L h' m → News h₀ L h' ((D, o) :: (C, ({ cls := .type "tuple", data := .seq vs.toArray } : Obj)) :: news) →
      Q' (binds C D) { s with heap := h', toks := tk }) → wpAny (model PR w) A' (bindArgs (fnOf name qual params body scope dV kV doc pm an cdv ct) ⟨pos, kw⟩) Q' E' s)
    (hloc : ∀ C D, ∀ y ∈ binds C D, scope.names.lookup y.1 = some .local)
    (hco : scope.isCoroutine = false) (hgen : scope.isGenerator = false) (hk : scope.kind = .function)
    (hcell : ∀ x ∈ scope.names, x.2 ≠ .cell)
    (h : ∀ C D o g L' h₁ tk, (∀ p ∈ news, @LT.lt Nat _ p.1 C) → @LT.lt Nat _ C D → (D == sysModules) = false → o.IsDictOf (strKind PR w) ex → Fr h₀ L g m → Fr g L' h₁ (fun y => (binds C D).reverse.lookup y) →
      News g L' h₁ ((D, o) :: (C, ({ cls := .type "tuple", data := .seq vs.toArray } : Obj)) :: news) → Below A base (env :: outer) g → (Mine.KS w.params).In g → Top p loose mean mg mb g →
      wpAny (model PR w) (A.deeper (envOf qual scope L' f cdv)) (execs body (envOf qual scope L' f cdv))
        (fun fl s' => LeaveK h₀ L m g (fun r s' => match r with | .ok (.ret v) => Q v s' | .ok _ => False | .error e => E e s') (match fl with | .ret v => v | _ => .none) s')
        (fun e s' => wpAny (model PR w) (A.deeper (envOf qual scope L' f cdv)) (leaving (envOf qual scope L' f cdv) e) (fun _ s'' => E e s'') (fun e' s'' => E e' s'') s')
        { s with heap := h₁, toks := tk }) :
    codeAny (model PR w) A (.call (.ref f) ⟨pos, kw⟩) (fun r s' => match r with | .ok (.ret v) => Q v s' | .ok _ => False | .error e => E e s') s := by
  have X := C.X.keeps C.F.keep
  refine codeAny_call_function (fd := fnOf name qual params body scope dV kV doc pm an cdv ct) (body := body) (Nat.lt_of_le_of_lt C.room (by decide)) (X _ _ ho) rfl hco hgen rfl (codeRec_of X hcd) ?_
  refine hbind _ _ _ fun c D o h' tk l1 l2 hs ho' F' N' => ?_
  exact kp_frame (R := fun r s' => match r with | .ok (.ret v) => Q v s' | .ok _ => False | .error e => E e s') (cl := []) (s := { s with heap := h', toks := tk }) C.B F' N' C.T.nolimit C.hA C.hf C.hke (hloc c D)
    (fun g L' h₁ FG FL NG BG st => h c D o g L' h₁ _ l1 l2 hs ho' FG FL NG BG (C.X.keeps st) (C.T.keeps st)) hcell hk

theorem PsOk.size {ps : List Value} (h : PsOk ps) : ps.toArray.size ≤ sizeLine := by
  rw [List.size_toArray, sizeLine_eq]
  rcases h with rfl | ⟨a, rfl⟩ | ⟨a, b, rfl⟩ | ⟨a, b, c, rfl⟩ <;> simp

theorem fnAt_pObj {K : Frag} {i : Nat} {q x : Str} {c cd : Addr} {dc pm ct : Value} {f : Addr} {h : Heap} (e : h.get? f = some (pObj K i q x c dc pm ct cd)) : FnAt f h := ⟨_, _, _, _, e⟩
theorem PageFn.fnAt {h : Heap} {news' : List (Addr × Obj)} {i : Nat} {x : Str} {l f : Addr} (N : News h₀ L h news') (hf : PageFn w news i x l f) (hs : ∀ p ∈ news, p ∈ news') : FnAt f h := by
  obtain ⟨c, cd, q, dc, pm, ct, o, oc, vs, t, h1, _⟩ := hf
  exact fnAt_pObj (N _ (hs _ h1)).1
theorem HandlerAt.fnAt {h : Heap} {news' : List (Addr × Obj)} {told f : Addr} {n : Int} (N : News h₀ L h news') (hf : HandlerAt w news told f n) (hs : ∀ p ∈ news, p ∈ news') : FnAt f h := by
  obtain ⟨cT, cN, c, dc, pm, ct, oT, oN, oc, vs, t, tn, h1, _⟩ := hf
  exact ⟨_, _, _, _, (N _ (hs _ h1)).1⟩


/-- a call with places, one star and one double star, of a function of the call's own -/
theorem callStar {f : Addr} {first : List Value} {pos kp : Pos} {es : List Expr} {ek : Expr} {env : Env} {Q : Value → Shared → Prop} (hl : ∀ y, backTo pos (starEach es env) ≠ [(true, y)])
    (h : wpAny (model PR w) A (spliced (backTo pos (starEach es env))) (fun vs s₁ => KwRead (model PR w) A E (.ref f) (eval ek env) pos (fun kws s₂ => FnAt f s₂.heap ∧ wpAny (model PR w) A (call (.ref f) (first ++ vs) kws) Q E s₂) s₁) E s) :
    wpAny (model PR w) A (callWith pos (.ref f) first (backTo pos (starEach es env)) (backToKw pos (keywordEach [⟨none, ek, kp⟩] env))) Q E s := by
  have e : backToKw pos (keywordEach [⟨none, ek, kp⟩] env) = [(none, do let v ← eval ek env; standAt pos; pure v)] := rfl
  rw [e]
  exact callWith_B (P := FnAt f) hl keeps_F h

theorem CallKw_ {func : Expr} {args : List Expr} {kws : List Keyword} {pos : Pos} {env : Env} {Q : Value → Shared → Prop}
    (h : wpAny (model PR w) A (eval func env) (fun f s₁ => wpAny (model PR w) A (callWith pos f [] (backTo pos (starEach args env)) (backToKw pos (keywordEach kws env))) Q E s₁) E s)
    (he : eval (.Call func args kws pos) env = (do callWith pos (← eval func env) [] (backTo pos (starEach args env)) (backToKw pos (keywordEach kws env)))) :
    wpAny (model PR w) A (eval (.Call func args kws pos) env) Q E s := by
  rw [he]; exact wpAny_bind h

/-- a method call with stars: the method is first made an object -/
theorem CallStarM_ {n x : Str} {np apos pos : Pos} {args : List Expr} {kws : List Keyword} {env : Env} {Q : Value → Shared → Prop}
    (h : wpAny (model PR w) A (eval (.Name n np) env) (fun ov s₁ => wpAny (model PR w) A (getAttr ov x true) (fun f s₂ => wpAny (model PR w) A (callWith pos f [] (backTo pos (starEach args env)) (backToKw pos (keywordEach kws env))) Q E s₂) E s₁) E s)
    (he : eval (.Call (.Attribute (.Name n np) x apos) args kws pos) env = (do
      let ov ← eval (.Name n np) env
      standAt apos.atName
      let (f, first) ← holding [ov] (do pure (← getAttr ov x true, []))
      callWith pos f first (backTo pos (starEach args env)) (backToKw pos (keywordEach kws env)))) :
    wpAny (model PR w) A (eval (.Call (.Attribute (.Name n np) x apos) args kws pos) env) Q E s := by
  rw [he]
  refine wpAny_bind (wpAny_mono h (fun ov s₁ h₁ => wpAny_bind (wpAny_standAt (wpAny_bind (wpAny_holding (wpAny_bind (wpAny_mono h₁ (fun f s₂ h₂ => wpAny_pure ?_) fun _ _ x => x)))))) fun _ _ x => x)
  exact h₂
theorem callStarM {q f : Addr} {self : Value} {pos kp : Pos} {es : List Expr} {ek : Expr} {env : Env} {Q : Value → Shared → Prop} (hf : fnIn (KS w.params) f = true) (hl : ∀ y, backTo pos (starEach es env) ≠ [(true, y)])
    (h : wpAny (model PR w) A (spliced (backTo pos (starEach es env))) (fun vs s₁ => KwRead (model PR w) A E (.ref q) (eval ek env) pos (fun kws s₂ => MethP (KS w.params) q f self s₂.heap ∧ wpAny (model PR w) A (call (.ref q) vs kws) Q E s₂) s₁) E s) :
    wpAny (model PR w) A (callWith pos (.ref q) [] (backTo pos (starEach es env)) (backToKw pos (keywordEach [⟨none, ek, kp⟩] env))) Q E s := by
  have e : backToKw pos (keywordEach [⟨none, ek, kp⟩] env) = [(none, do let v ← eval ek env; standAt pos; pure v)] := rfl
  rw [e]
  exact callWith_B (P := MethP (KS w.params) q f self) hl (keeps_M hf) h
end
end

-- L_type
section
open PySem.Calls Builtin Builtin.ObjectAttr Builtin.Getset_descriptor
set_option maxHeartbeats 4000000

section
open Sem
theorem nsSetC {M : Model} {A : Around} {E : Value → Shared → Prop} {s : Shared} {a : Addr} {m} {name : Str} {v : Value} {Q : Unit → Shared → Prop} (hn : s.heap.Ns a m)
    (h : ∀ h', h'.Ns a (fun x => if x = name then some v else m x) → Heap.SameBut a s.heap h' → (∀ o, s.heap.get? a = some o → ∃ o', h'.get? a = some o' ∧ o'.cls = o.cls) → Q () { s with heap := h', toks := s.toks + 1 }) :
    wpAny M A (nsSet a name v) Q E s := by
  intro Γ p hΓ
  obtain ⟨o, es, ep, ho, hd, hk, hm⟩ := hn
  simp only [nsSet, strHash, wp_bind', wp_cmd_ask, wp_pure', wp_cmd_mkText]
  rw [wp_loadPart_of M Γ _ p { s with toks := s.toks + 1 } (o := o) _ ho]
  have hany : es.any (·.refKey) = false := by
    rw [Array.any_eq_false']; intro e he; obtain ⟨n, t, h⟩ := hk e he; simp [DictEntry.refKey, h]
  simp only [hd, aRefKeyMayBeTheName_at, hany, Bool.and_false, Bool.false_eq_true, if_false, wp_cmd_updatePart]
  refine ⟨by rw [ho]; rfl, h _ ?_ (Heap.SameBut.update ..) ?_⟩
  · obtain ⟨c, d, dt, sl⟩ := o
    subst hd
    cases hi : es.findIdx? (·.key.isStr name) with
    | some i =>
      refine ⟨_, _, ep, Heap.get?_update_self _ ho (by simp only [Obj.putName_eq, Obj.putNameByArray, hi]; rfl), by simp only [Obj.putName_eq, Obj.putNameByArray, hi]; rfl, hk.modify _ _, fun x => ?_⟩
      show _ = if x = name then some v else m x
      rw [← hm]; exact findBy_modify (fun n v => v.isStr n) Value.isStr_inj es name x v i hi
    | none =>
      refine ⟨_, _, ep + 1, Heap.get?_update_self _ ho (by simp only [Obj.putName_eq, Obj.putNameByArray, hi]; rfl), by simp only [Obj.putName_eq, Obj.putNameByArray, hi]; rfl, hk.push _ _ _ _, fun x => ?_⟩
      show _ = if x = name then some v else m x
      rw [← hm]
      exact findBy_push (fun n v => v.isStr n) es name x _ _ v (fun y => by
        show (name == y) = decide (y = name)
        by_cases h : y = name
        · subst h; simp
        · have : ¬ name = y := fun e => h e.symm
          simp [h, this]) hi
  · intro o1 h1
    rw [ho] at h1
    cases h1
    obtain ⟨c, d, dt, sl⟩ := o
    subst hd
    cases hi : es.findIdx? (·.key.isStr name) with
    | some i => exact ⟨_, Heap.get?_update_self _ ho (by simp only [Obj.putName_eq, Obj.putNameByArray, hi]; rfl), by simp only [Obj.putName_eq, Obj.putNameByArray, hi]⟩
    | none => exact ⟨_, Heap.get?_update_self _ ho (by simp only [Obj.putName_eq, Obj.putNameByArray, hi]; rfl), by simp only [Obj.putName_eq, Obj.putNameByArray, hi]⟩
end

section
variable {prog : Program} {w : World} {A : Around} {E : Value → Shared → Prop} {s : Shared} {K : Frag} {R : Result → Shared → Prop} {T id nm : String} {h₀ : Heap} {L : Addr} {m : Str → Option Value}

/-- what a getter of «type» does to a built-in type -/
noncomputable def Gets (prog : Program) (w : World) (B : Builtin) (T : String) (s : Shared) (Post : Value → Shared → Prop) : Prop :=
  ∀ (A : Around) (E : Value → Shared → Prop) (Q : Fin → Shared → Prop), (∀ v s', Post v s' → Q (.done (.ret v)) s') → wpAny (model prog w) A (B ⟨[.type T], []⟩) Q E s

theorem gs_get {B : Builtin} {tp : Value} {Post : Value → Shared → Prop} (hent : entryFor table id = some B) (hty : typeOf (.builtin id) = pure (.type "getset_descriptor")) (hown : descrOwnerAndName id = ("type", nm))
    (hqt : Code.quiet (.builtin id ⟨[.type T], []⟩) = true) (ht : typeOf (.type T) = pure (.type "type")) (hB : Gets prog w B T s Post) (h : ∀ v s', Post v s' → R (.ok (.ret v)) s') :
    codeAny (model prog w) A (.call (.builtin "getset_descriptor.__get__") ⟨[.builtin id, .type T, tp], []⟩) R s := by
  obtain ⟨hh, g, dr, t, os⟩ := s
  have L0 : Looks (model prog w) hh (typeOf (.type T)) (.type "type") := Looks.of_pure ht
  have L1 : Looks (model prog w) hh (isSubtype (.type "type") (.type "type")) true := Looks.of_pure (by rw [isSubtype_type]; kernel_rfl)
  refine codeAny_call_builtin KF.slot_gs.plain KF.entry_gs (KF.slot_gs.check _ _ _ _ _ _ _ _ hty (KF.args_gs _ _ _) ?_)
  unfold Builtin.«getset_descriptor.__get__» descrGet
  rw [ktyn_dga]
  refine wpAny_bind (wpAny_pure ?_)
  unfold descrGetter descrCheckInstance descrNameAndClass isInstance
  simp only [hown]
  repeat lk
  exact ⟨hqt, codeAny_builtin hent (hB _ _ _ fun v s' hp => h v s' hp)⟩

theorem cls_openBy {c mc : Value} {name : Str} {tk : Tok} {r : CFound} {fill expr : Bool} {Q : Value → Shared → Prop} {hook : Option Value} (X : K.In s.heap) (ho : Looks (model prog w) s.heap (opaqueClassAbove c) none) (ht : Looks (model prog w) s.heap (typeOf c) mc)
    (hga : findIn K mc "__getattribute__" = some (some (.builtin "type.__getattribute__"))) (hb : Looks (model prog w) s.heap (hookBefore mc) hook) (hi : subIn K mc (.type "type") = some true) (e : findCls K c mc name = some r)
    (h : wpAny (model prog w) A.in1 r.run (fun fin s' => match fin with | .done (.ret v) => wpAny (model prog w) A (handedOut v) Q E s' | _ => False) (fun _ _ => False) s) :
    wpAny (model prog w) A (getAttrBy c (.str name tk) fill expr) Q E s := by
  refine wpAny_holding (wpAny_bind (ht _ _ _ _ (fun _ _ e => e) (wpAny_bind (looks_findIn X hga _ _ _ _ (fun _ _ e => e) ?_))))
  dsimp only
  rw [show (onTheHeap mc && Value.builtin "type.__getattribute__" == Value.builtin "object.__getattribute__") = false from by rw [show (Value.builtin "type.__getattribute__" == Value.builtin "object.__getattribute__") = false from by decide +kernel, Bool.and_false], if_neg (by decide)]
  refine wpAny_bind (hb _ _ _ _ (fun _ _ e => e) (wpAny_bind (wpAny_attempt (wpAny_holding ?_))))
  unfold callGetattribute
  rw [show (expr && onTheHeap (Value.builtin "type.__getattribute__")) = false from Bool.and_false _, if_neg (by decide)]
  unfold boundAndCalled
  rw [KF.slot_tga.bind]
  refine wpAny_bind (wpAny_pure ?_)
  show wpAny _ _ (call (.builtin "type.__getattribute__") [c, .str name tk]) _ _ _
  refine wpAny_call ?_
  refine codeAny_call_builtin KF.slot_tga.plain KF.entry_tga ?_
  refine @check_slot (model prog w) _ _ s "type.__getattribute__" "type" "__getattribute__" c [.str name tk] [] _ (by decide +kernel) (by decide +kernel) (ht.andThen (looks_subIn X hi)) (KF.args_tga c (.str name tk)) ?_
  refine tga_run X ho ht e (wpAny_mono h (fun fin s' z => ?_) fun _ _ z => z.elim)
  rcases fin with (_ | _ | _ | _) | _ <;> first | exact z | exact z.elim

theorem ty_by {B : Builtin} {name : Str} {tk : Tok} {fill expr : Bool} {Q : Value → Shared → Prop} {Post : Value → Shared → Prop} (hent : entryFor table id = some B) (hty : typeOf (.builtin id) = pure (.type "getset_descriptor")) (hown : descrOwnerAndName id = ("type", nm))
    (hqt : Code.quiet (.builtin id ⟨[.type T], []⟩) = true) (hh : handedIn (.builtin id) = true) (X : K.In s.heap) (ht : typeOf (.type T) = pure (.type "type")) (hs : Manifest.isStub T = false)
    (hsub : subIn K (.type "type") (.type "type") = some true) (hg : findIn K (.type "type") "__getattribute__" = some (some (.builtin "type.__getattribute__")))
    (e : findCls K (.type T) (.type "type") name = some (.get (.builtin "getset_descriptor.__get__") (.builtin id) (.type T) (.type "type")))
    (hB : Gets prog w B T s Post) (h : ∀ v s', Post v s' → handedIn v = true ∧ Q v s') : wpAny (model prog w) A (getAttrBy (.type T) (.str name tk) fill expr) Q E s := by
  have hstub : opaqueClassAbove (.type T) = pure none := by unfold opaqueClassAbove; dsimp only; rw [hs]; rfl
  have L0 : Looks (model prog w) s.heap (typeOf (.type T)) (.type "type") := Looks.of_pure ht
  have LO : Looks (model prog w) s.heap (opaqueClassAbove (.type T)) none := Looks.of_pure hstub
  refine cls_openBy X LO L0 hg (looks_hook X (r := none) (by rfl)) hsub e ?_
  show wpAny _ _ (do ret (← holding [Value.builtin id] (call (.builtin "getset_descriptor.__get__") [.builtin id, .type T, .type "type"]))) _ _ _
  refine wpAny_bind (wpAny_holding (wpAny_call (gs_get hent hty hown hqt ht hB fun v s' hp => ?_)))
  exact wpAny_pure (handed_on (h v s' hp).1 (h v s' hp).2)
end
end

-- L_attr
section
open PySem.Calls Builtin Builtin.ObjectAttr Builtin.Getset_descriptor
set_option maxHeartbeats 4000000
theorem ent_qual : entryFor table "type.__qualname__" = some Builtin.«type.__qualname__» := entryFor_of_tree (by kernel_rfl)
theorem ent_mod : entryFor table "type.__module__" = some Builtin.«type.__module__» := entryFor_of_tree (by kernel_rfl)
theorem ent_mro : entryFor table "type.__mro__" = some Builtin.«type.__mro__» := entryFor_of_tree (by kernel_rfl)
theorem gty (id : String) (h : builtinType id = builtinType id) : True := True.intro
theorem gty_qual : typeOf (.builtin "type.__qualname__") = pure (.type "getset_descriptor") := by show builtinType _ = _; rw [builtinType_eq_fast]; kernel_rfl
theorem gty_mod : typeOf (.builtin "type.__module__") = pure (.type "getset_descriptor") := by show builtinType _ = _; rw [builtinType_eq_fast]; kernel_rfl
theorem gty_mro : typeOf (.builtin "type.__mro__") = pure (.type "getset_descriptor") := by show builtinType _ = _; rw [builtinType_eq_fast]; kernel_rfl
theorem own_qual : descrOwnerAndName "type.__qualname__" = ("type", "__qualname__") := by decide +kernel
theorem own_mod : descrOwnerAndName "type.__module__" = ("type", "__module__") := by decide +kernel
theorem own_mro : descrOwnerAndName "type.__mro__" = ("type", "__mro__") := by decide +kernel

theorem ty_cases {p : String → Prop} (h1 : p "bool") (h2 : p "int") (h3 : p "object") (h4 : p "str") (h5 : p "bytes") (h6 : p "list") (h7 : p "tuple") (h8 : p "dict") (h9 : p "NoneType") (h10 : p "KeyError") (h11 : p "LookupError") (h12 : p "Exception") (h13 : p "BaseException") : ∀ T ∈ tyNames, p T := by
  intro T hT
  simp only [tyNames, List.mem_cons, List.not_mem_nil, or_false] at hT
  rcases hT with rfl | rfl | rfl | rfl | rfl | rfl | rfl | rfl | rfl | rfl | rfl | rfl | rfl <;> assumption

theorem ty_meta : ∀ T ∈ tyNames, typeOf (.type T) = pure (.type "type") := by apply ty_cases <;> exact kitMeta_of (by kernel_rfl)
theorem ty_stub : ∀ T ∈ tyNames, Manifest.isStub T = false := by apply ty_cases <;> kernel_rfl
theorem ty_fast : ∀ T ∈ tyNames, ktynFast T = T := by apply ty_cases <;> kernel_rfl
theorem ty_len : ∀ T ∈ tyNames, (Str.ofString T).length ≤ 20 := by apply ty_cases <;> decide +kernel
theorem ty_modn : ∀ T ∈ tyNames, ((Manifest.find? T).elim (Str.ofString "builtins") fun x => Str.ofString x.pyModule) = Str.ofString "builtins" := by apply ty_cases <;> (rw [find?_eq_fast]; kernel_rfl)
theorem fnd_qual (K : Frag) : ∀ T ∈ tyNames, findCls K (.type T) (.type "type") "__qualname__" = some (.get (.builtin "getset_descriptor.__get__") (.builtin "type.__qualname__") (.type T) (.type "type")) := by apply ty_cases <;> kernel_rfl
theorem fnd_name (K : Frag) : ∀ T ∈ tyNames, findCls K (.type T) (.type "type") "__name__" = some (.get (.builtin "getset_descriptor.__get__") (.builtin "type.__name__") (.type T) (.type "type")) := by apply ty_cases <;> kernel_rfl
theorem fnd_mod (K : Frag) : ∀ T ∈ tyNames, findCls K (.type T) (.type "type") "__module__" = some (.get (.builtin "getset_descriptor.__get__") (.builtin "type.__module__") (.type T) (.type "type")) := by apply ty_cases <;> kernel_rfl
theorem fnd_mro (K : Frag) : ∀ T ∈ tyNames, findCls K (.type T) (.type "type") "__mro__" = some (.get (.builtin "getset_descriptor.__get__") (.builtin "type.__mro__") (.type T) (.type "type")) := by apply ty_cases <;> kernel_rfl
theorem sub_tt (K : Frag) : subIn K (.type "type") (.type "type") = some true := by rfl
theorem ga_tt (K : Frag) : findIn K (.type "type") "__getattribute__" = some (some (.builtin "type.__getattribute__")) := by kernel_rfl

section
variable {prog : Program} {w : World} {A : Around} {E : Value → Shared → Prop} {s : Shared} {K : Frag} {T : String} {h₀ : Heap} {L : Addr} {m : Str → Option Value}
theorem gets_qual (hT : T ∈ tyNames) : Gets prog w Builtin.«type.__qualname__» T s fun v s' => v = .str (Str.ofString T) s.toks ∧ s' = { s with toks := s.toks + 1 } := by
  intro A E Q h
  unfold Builtin.«type.__qualname__»
  dsimp only
  rw [ktyn_qual, ty_fast T hT]
  unfold retStr
  have hz : (Str.ofString T).length ≤ sizeLine := by have := ty_len T hT; rw [sizeLine_eq]; omega
  first
    | exact wpAny_bind (wpAny_bind (wpAny_mkStr (wpAny_pure (wpAny_pure (h _ _ ⟨rfl, rfl⟩))) hz))
    | exact wpAny_bind (wpAny_mkStr (wpAny_pure (h _ _ ⟨rfl, rfl⟩)) hz)
    | exact wpAny_bind (wpAny_bind (wpAny_mkStr (wpAny_pure (h _ _ ⟨rfl, rfl⟩)) hz))
theorem gets_name (hT : T ∈ tyNames) : Gets prog w Builtin.«type.__name__» T s fun v s' => v = .str (Str.ofString T) s.toks ∧ s' = { s with toks := s.toks + 1 } := by
  intro A E Q h
  unfold Builtin.«type.__name__»
  dsimp only
  rw [ktyn_qual, ty_fast T hT]
  unfold retStr
  have hz : (Str.ofString T).length ≤ sizeLine := by have := ty_len T hT; rw [sizeLine_eq]; omega
  first
    | exact wpAny_bind (wpAny_bind (wpAny_mkStr (wpAny_pure (wpAny_pure (h _ _ ⟨rfl, rfl⟩))) hz))
    | exact wpAny_bind (wpAny_mkStr (wpAny_pure (h _ _ ⟨rfl, rfl⟩)) hz)
    | exact wpAny_bind (wpAny_bind (wpAny_mkStr (wpAny_pure (h _ _ ⟨rfl, rfl⟩)) hz))
theorem gets_mod (hT : T ∈ tyNames) : Gets prog w Builtin.«type.__module__» T s fun v s' => v = .str (Str.ofString "builtins") s.toks ∧ s' = { s with toks := s.toks + 1 } := by
  intro A E Q h
  unfold Builtin.«type.__module__»
  dsimp only
  rw [ty_modn T hT]
  unfold retStr
  have hz : (Str.ofString "builtins").length ≤ sizeLine := by rw [sizeLine_eq]; decide +kernel
  first
    | exact wpAny_bind (wpAny_bind (wpAny_mkStr (wpAny_pure (wpAny_pure (h _ _ ⟨rfl, rfl⟩))) hz))
    | exact wpAny_bind (wpAny_mkStr (wpAny_pure (h _ _ ⟨rfl, rfl⟩)) hz)
    | exact wpAny_bind (wpAny_bind (wpAny_mkStr (wpAny_pure (h _ _ ⟨rfl, rfl⟩)) hz))

theorem qual_ty {expr : Bool} {Q : Value → Shared → Prop} (hT : T ∈ tyNames) (F : Fr h₀ L s.heap m) (X : K.In h₀) (h : ∀ tk u, Q (.str (Str.ofString T) tk) { s with toks := u }) : wpAny (model prog w) A (getAttr (.type T) "__qualname__" expr) Q E s := by
  refine wpAny_bind (wpAny_mkText ?_)
  exact ty_by (s := { s with toks := s.toks + 1 }) ent_qual gty_qual own_qual (Code.quiet_builtin _ (by decide +kernel)) rfl (X.keeps F.keep) (ty_meta T hT) (ty_stub T hT) (sub_tt K) (ga_tt K) (fnd_qual K T hT) (gets_qual hT) fun v s' ⟨e1, e2⟩ => by
    subst e1 e2
    exact ⟨rfl, h _ _⟩
theorem name_ty {expr : Bool} {Q : Value → Shared → Prop} (hT : T ∈ tyNames) (F : Fr h₀ L s.heap m) (X : K.In h₀) (h : ∀ tk u, Q (.str (Str.ofString T) tk) { s with toks := u }) : wpAny (model prog w) A (getAttr (.type T) "__name__" expr) Q E s := by
  refine wpAny_bind (wpAny_mkText ?_)
  exact ty_by (s := { s with toks := s.toks + 1 }) ktyn_entry ktyn_type ktyn_owner (Code.quiet_builtin _ (by decide +kernel)) rfl (X.keeps F.keep) (ty_meta T hT) (ty_stub T hT) (sub_tt K) (ga_tt K) (fnd_name K T hT) (gets_name hT) fun v s' ⟨e1, e2⟩ => by
    subst e1 e2
    exact ⟨rfl, h _ _⟩
theorem args_getattr_3 (a b c : Value) : argsOk "getattr" ⟨[a, b, c], []⟩ := by unfold argsOk; kernel_rfl
theorem mod_ty {t : Tok} {d : Value} {Q : Value → Shared → Prop} (hT : T ∈ tyNames) (F : Fr h₀ L s.heap m) (X : K.In h₀) (h : ∀ tk u, Q (.str (Str.ofString "builtins") tk) { s with toks := u }) : wpAny (model prog w) A (call (.builtin "getattr") [.type T, .str (Str.ofString "__module__") t, d]) Q E s := by
  refine Calls.call_function_entry KB.kind_getattr KB.plain_getattr KB.entry_getattr (args_getattr_3 _ _ _) ?_
  unfold Builtin.«getattr»
  refine wpAny_bind (wpAny_of_eq (a := [.type T, .str (Str.ofString "__module__") t, d]) (by first | rfl | kernel_rfl) ?_)
  dsimp only
  refine wpAny_bind (wpAny_of_eq (a := ()) (by first | rfl | kernel_rfl) ?_)
  refine wpAny_bind (wpAny_of_eq (a := none) (by first | rfl | kernel_rfl) ?_)
  dsimp only
  refine wpAny_bind (wpAny_of_eq (a := 0) (by first | rfl | kernel_rfl) ?_)
  rw [if_neg (by decide)]
  unfold getAttrBy?
  refine wpAny_bind (wpAny_bind (wpAny_attempt ?_))
  refine ty_by ent_mod gty_mod own_mod (Code.quiet_builtin _ (by decide +kernel)) rfl (X.keeps F.keep) (ty_meta T hT) (ty_stub T hT) (sub_tt K) (ga_tt K) (fnd_mod K T hT) (gets_mod hT) fun v s' ⟨e1, e2⟩ => ?_
  subst e1 e2
  exact ⟨rfl, wpAny_pure (wpAny_pure ⟨_, rfl, h _ _⟩)⟩

noncomputable def chainOf (T : String) : List String :=
  if T = "bool" then ["bool", "int", "object"] else if T = "KeyError" then ["KeyError", "LookupError", "Exception", "BaseException", "object"] else if T = "object" then ["object"] else [T, "object"]
noncomputable def kindNames : List String := ["bool", "int", "str", "bytes", "list", "tuple", "dict", "NoneType", "KeyError"]
theorem kind_cases {p : String → Prop} (h1 : p "bool") (h2 : p "int") (h4 : p "str") (h5 : p "bytes") (h6 : p "list") (h7 : p "tuple") (h8 : p "dict") (h9 : p "NoneType") (h10 : p "KeyError") : ∀ T ∈ kindNames, p T := by
  intro T hT
  simp only [kindNames, List.mem_cons, List.not_mem_nil, or_false] at hT
  rcases hT with rfl | rfl | rfl | rfl | rfl | rfl | rfl | rfl | rfl <;> assumption
theorem kind_ty : ∀ T ∈ kindNames, T ∈ tyNames := by decide +kernel
theorem chain_ty : ∀ T ∈ kindNames, ∀ n ∈ chainOf T, n ∈ tyNames := by decide +kernel
theorem mro_ty : ∀ T ∈ kindNames, mroOf (.type T) = pure ((chainOf T).map Value.type) := by apply kind_cases <;> (rw [mroOf_type]; kernel_rfl)
theorem chain_ne : ∀ T ∈ kindNames, ((chainOf T).map Value.type).isEmpty = false := by apply kind_cases <;> rfl
theorem chain_len : ∀ T ∈ kindNames, (chainOf T).length ≤ 5 := by apply kind_cases <;> decide
/-- the key under which the machine keeps the order of a built-in type -/
noncomputable def mroKey (T : String) : Str := s!"type.{"__mro__"}:{T}"
theorem mroKey_first : ∀ T ∈ kindNames, firstUseKey (mroKey T) = true := by apply kind_cases <;> decide +kernel
theorem mroKey_ne : ∀ T ∈ kindNames, ∀ T' ∈ kindNames, mroKey T = mroKey T' → T = T' := by apply kind_cases <;> apply kind_cases <;> decide +kernel

theorem gets_mro {mc : Str → Option Value} (hT : T ∈ kindNames) (hn : s.heap.Ns cStatics mc) : Gets prog w Builtin.«type.__mro__» T s fun v s' =>
    (mc (mroKey T) = some v ∧ s' = s) ∨ (mc (mroKey T) = none ∧ v = .ref s.heap.objs.size ∧ ∃ h', s' = { s with heap := h', toks := s.toks + 1 } ∧
      h'.Ns cStatics (fun x => if x = mroKey T then some (.ref s.heap.objs.size) else mc x) ∧ Heap.SameBut cStatics (s.heap.push { cls := .type "tuple", data := .seq ((chainOf T).map Value.type).toArray }) h' ∧
      ∀ o, s.heap.get? cStatics = some o → ∃ o', h'.get? cStatics = some o' ∧ o'.cls = o.cls) := by
  intro A E Q h
  unfold Builtin.«type.__mro__»
  dsimp only
  rw [mro_ty T hT]
  refine wpAny_bind (wpAny_pure ?_)
  rw [chain_ne T hT, if_neg (by decide)]
  unfold keptObject
  dsimp only
  refine wpAny_bind (wpAny_nsGet hn ?_)
  cases e : mc (mroKey T) with
  | some v =>
    have e' := e
    unfold mroKey at e'
    simp only [e']
    exact wpAny_bind (wpAny_pure (wpAny_pure (h _ _ (.inl ⟨e, rfl⟩))))
  | none =>
    have e' := e
    unfold mroKey at e'
    simp only [e']
    have hz : ((chainOf T).map Value.type).toArray.size ≤ sizeLine := by rw [List.size_toArray, List.length_map, sizeLine_eq]; have := chain_len T hT; omega
    unfold newTuple
    refine wpAny_bind (wpAny_bind (wpAny_pure (wpAny_newObj_type ?_ hz)))
    refine wpAny_bind (nsSetC (hn.push _) fun h' n1 n2 n3 => wpAny_pure (h _ _ (.inr ⟨e, rfl, h', rfl, ?_, n2, fun o ho => n3 o (Heap.get?_push_of_some _ ho)⟩)))
    exact n1
theorem mro_attr {mc : Str → Option Value} {expr : Bool} {Q : Value → Shared → Prop} (hT : T ∈ kindNames) (F : Fr h₀ L s.heap m) (X : K.In h₀) (hn : s.heap.Ns cStatics mc)
    (h1 : ∀ v tk, mc (mroKey T) = some v → handedIn v = true ∧ Q v { s with toks := tk })
    (h2 : mc (mroKey T) = none → ∀ h' tk, h'.Ns cStatics (fun x => if x = mroKey T then some (.ref s.heap.objs.size) else mc x) → Heap.SameBut cStatics (s.heap.push { cls := .type "tuple", data := .seq ((chainOf T).map Value.type).toArray }) h' →
      (∀ o, s.heap.get? cStatics = some o → ∃ o', h'.get? cStatics = some o' ∧ o'.cls = o.cls) → Q (.ref s.heap.objs.size) { s with heap := h', toks := tk }) : wpAny (model prog w) A (getAttr (.type T) "__mro__" expr) Q E s := by
  refine wpAny_bind (wpAny_mkText ?_)
  have hT' := kind_ty T hT
  refine ty_by (s := { s with toks := s.toks + 1 }) ent_mro gty_mro own_mro (Code.quiet_builtin _ (by decide +kernel)) rfl (X.keeps F.keep) (ty_meta T hT') (ty_stub T hT') (sub_tt K) (ga_tt K) (fnd_mro K T hT') (gets_mro hT hn) ?_
  rintro v s' (⟨e1, rfl⟩ | ⟨e1, rfl, h', rfl, n1, n2, n3⟩)
  · exact h1 v _ e1
  · exact ⟨rfl, h2 e1 h' _ n1 n2 n3⟩
end
end

-- L_mro
section
set_option maxHeartbeats 4000000

noncomputable def tupT (T : String) : Obj := { cls := .type "tuple", data := .seq ((chainOf T).map Value.type).toArray }
/-- the machine's statics: the orders that have been read lie in the ledger -/
noncomputable def StatOk (news : List (Addr × Obj)) (h : Heap) : Prop := ∃ mc, h.Ns cStatics mc ∧ ∀ T ∈ kindNames, mc (mroKey T) = none ∨ ∃ a, mc (mroKey T) = some (.ref a) ∧ (a, tupT T) ∈ news
theorem StatOk.mono {news news' : List (Addr × Obj)} {h : Heap} (x : StatOk news h) (hs : ∀ p ∈ news, p ∈ news') : StatOk news' h := by
  obtain ⟨mc, h1, h2⟩ := x
  refine ⟨mc, h1, fun T hT => ?_⟩
  rcases h2 T hT with e | ⟨a, e, hm⟩
  · exact .inl e
  · exact .inr ⟨a, e, hs _ hm⟩
theorem StatOk.keeps {news : List (Addr × Obj)} {h h' : Heap} (x : StatOk news h) (hk : ∀ b o, h.get? b = some o → h'.get? b = some o) : StatOk news h' := by
  obtain ⟨mc, h1, h2⟩ := x
  exact ⟨mc, h1.keeps hk, h2⟩
theorem ns_same {h : Heap} {a : Addr} {m m' : Str → Option Value} (x : h.Ns a m) (y : h.Ns a m') : m = m' := by
  obtain ⟨o, es, ep, e, hd, _, hm⟩ := x
  obtain ⟨o', es', ep', e', hd', _, hm'⟩ := y
  rw [e] at e'
  cases e'
  rw [hd] at hd'
  cases hd'
  funext k
  rw [← hm, ← hm']

theorem stat_turn {fs : List Addr} {g h' : Heap} {mc mc' : Str → Option Value} (hk : ∀ b o, b ≠ cStatics → g.get? b = some o → h'.get? b = some o) (hn : g.Ns cStatics mc) (hn' : h'.Ns cStatics mc')
    (hs : ∀ k, mc' k = mc k ∨ (firstUseKey k = true ∧ mc k = none)) (hc : ∀ o, g.get? cStatics = some o → ∃ o', h'.get? cStatics = some o' ∧ o'.cls = o.cls) :
    Turn fs g (tHeap h' [cStatics] g) ∧ (∀ b o, (tHeap h' [cStatics] g).get? b = some o → h'.get? b = some o) ∧ (tHeap h' [cStatics] g).Ns cStatics mc' := by
  have hex : ∃ o, g.get? cStatics = some o := by obtain ⟨o, _, _, e, _⟩ := hn; exact ⟨o, e⟩
  obtain ⟨o0, h0⟩ := hex
  have low : ∀ o, h'.get? cStatics = some o → (tHeap h' [cStatics] g).get? cStatics = some o := fun o e => tHeap_some _ (.head _) h0 e
  have ne : ∀ b, b ≠ cStatics → (tHeap h' [cStatics] g).get? b = g.get? b := fun b n => tHeap_ne _ (by simpa using n)
  have N' : (tHeap h' [cStatics] g).Ns cStatics mc' := by obtain ⟨o, es, ep, e, r⟩ := hn'; exact ⟨o, es, ep, low o e, r⟩
  refine ⟨⟨tHeap_size .., fun b e => ?_, fun b o e n _ => (ne b n).trans e, fun b o e n _ => ⟨o.slots, (ne b n).trans e⟩, fun m1 hm1 => ?_, fun o e => ?_⟩, fun b o e => ?_, N'⟩
  · rw [ne b fun q => by rw [q, h0] at e; cases e]; exact e
  · obtain rfl := ns_same hm1 hn
    exact ⟨mc', N', hs⟩
  · obtain ⟨o', e1, e2⟩ := hc o e
    exact ⟨o', low _ e1, e2⟩
  · by_cases q : b = cStatics
    · subst q
      obtain ⟨o', e1, _⟩ := hc o0 h0
      rw [low o' e1] at e
      cases e
      exact e1
    · rw [ne b q] at e
      exact hk b o q e

theorem KS_turn {P : Params} {fs : List Addr} {g g' : Heap} (X : (KS P).In g) (T : Turn fs g g') (hfs : ∀ b ∈ fs, ∃ o, g.get? b = some o → False) : True := True.intro
theorem KS_turn0 {P : Params} {g g' : Heap} (X : (KS P).In g) (T : Turn [] g g') : (KS P).In g' := fun a o e => T.other a o (X a o e) (fun q => by rw [q, KS_no2] at e; cases e) List.not_mem_nil
theorem top_turn {loose : List Str} {mean : ExcName → Option Value} {mg mb : Str → Option Value} {g g' : Heap} (T : Top topProg loose mean mg mb g) (U : Turn [] g g') : Top topProg loose mean mg mb g' where
  g := let ⟨o, es, ep, e, r⟩ := T.g; ⟨o, es, ep, U.other _ _ e (by decide) List.not_mem_nil, r⟩
  b := let ⟨o, es, ep, e, r⟩ := T.b; ⟨o, es, ep, U.other _ _ e (by decide) List.not_mem_nil, r⟩
  nolimit := by
    obtain ⟨mc, h1, h2⟩ := T.nolimit
    obtain ⟨mc', h3, h4⟩ := U.stat mc h1
    refine ⟨mc', h3, ?_⟩
    rcases h4 "sys.recursionlimit" with e | ⟨e, _⟩
    · exact e.trans h2
    · exact absurd e (by decide)
  nodigits := by
    obtain ⟨mc, h1, h2⟩ := T.nodigits
    obtain ⟨mc', h3, h4⟩ := U.stat mc h1
    refine ⟨mc', h3, ?_⟩
    rcases h4 "sys.int_max_str_digits" with e | ⟨e, _⟩
    · exact e.trans h2
    · exact absurd e (by decide)
  fn := fun d hd => absurd (show d ∈ ([] : List DefRec) from hd) List.not_mem_nil
  own := fun o ho => absurd (show o ∈ ([] : List OwnSpec) from ho) List.not_mem_nil
  const := T.const
  free := T.free
  builtins := T.builtins
  tab := fun d hd => absurd (show d ∈ ([] : List DefRec) from hd) List.not_mem_nil
  bmain := by
    obtain ⟨bm, ob, a1, a2, a3, a4, a5, a6⟩ := T.bmain
    refine ⟨bm, ob, a1, a2, U.other _ _ a3 (fun q => ?_) List.not_mem_nil, a4, a5, a6⟩
    obtain ⟨mc, ⟨o, es, ep, e, hd, _⟩, _⟩ := T.nolimit
    rw [q, e] at a3
    cases a3
    rw [a6] at hd
    cases hd
  seer := fun e => absurd (show false = true from e) Bool.false_ne_true

section
variable {w : World} {A A₀ : Around} {E : Value → Shared → Prop} {s : Shared} {g base : Heap} {L : Addr} {m mg mb : Str → Option Value} {news : List (Addr × Obj)} {loose : List Str} {mean : ExcName → Option Value} {outer : List Env} {T : String}

theorem mro_step {expr : Bool} {Q : Value → Shared → Prop} (B : Below A₀ base outer g) (F : Fr g L s.heap m) (N : News g L s.heap news) (XB : (KS w.params).In base) (TB : Top topProg loose mean mg mb base) (hT : T ∈ kindNames) (St : StatOk news base)
    (h : ∀ base' g' h' tk a own, Turn [] base base' → Turn [] g g' → Below A₀ base' outer g' → (KS w.params).In base' → Top topProg loose mean mg mb base' → Fr g' L h' m → News g' L h' (own ++ news) → (a, tupT T) ∈ own ++ news → Above own news → StatOk (own ++ news) base' →
      Q (.ref a) { s with heap := h', toks := tk }) :
    wpAny (model PR w) A (getAttr (.type T) "__mro__" expr) Q E s := by
  obtain ⟨mc, hnb, hst⟩ := St
  have hn := hnb.keeps B.stays
  refine mro_attr hT F (XB.keeps B.stays) (hn.keeps F.keep) (fun v tk e => ?_) fun e h' tk n1 n2 n3 => ?_
  · rcases hst T hT with e' | ⟨a, e', hm⟩
    · rw [e] at e'; cases e'
    · rw [e] at e'
      cases e'
      exact ⟨rfl, h base g s.heap tk a [] .refl .refl B XB TB F N hm (fun _ hp => nomatch hp) ⟨mc, hnb, hst⟩⟩
  · have hc0 : ∃ o, base.get? cStatics = some o := by obtain ⟨_, ⟨o, _, _, e, _⟩, _⟩ := TB.nolimit; exact ⟨o, e⟩
    obtain ⟨oc, hoc⟩ := hc0
    have kh : ∀ b o, b ≠ cStatics → s.heap.get? b = some o → h'.get? b = some o := fun b o n e => (n2.2 b n).trans (Heap.get?_push_of_some _ e)
    have hs : ∀ k, (fun x => if x = mroKey T then some (Value.ref s.heap.objs.size) else mc x) k = mc k ∨ (firstUseKey k = true ∧ mc k = none) := fun k => by
      by_cases q : k = mroKey T
      · subst q; exact .inr ⟨mroKey_first T hT, e⟩
      · exact .inl (if_neg q)
    have S1 := stat_turn (fs := []) (g := base) (fun b o n e => kh b o n (F.keep _ _ (B.stays _ _ e))) hnb n1 hs (fun o e => n3 o (F.keep _ _ (B.stays _ _ e)))
    have S2 := stat_turn (fs := []) (g := g) (fun b o n e => kh b o n (F.keep _ _ e)) hn n1 hs (fun o e => n3 o (F.keep _ _ e))
    have nL : g.get? L = none := by
      cases q : g.get? L with
      | none => rfl
      | some o => exact absurd (Nat.lt_of_lt_of_le (Heap.lt_size q) F.above) (Nat.lt_irrefl _)
    have gc : g.get? cStatics = some oc := B.stays _ _ hoc
    have hLc : L ≠ cStatics := fun q => by rw [q, gc] at nL; cases nL
    have hnew : (s.heap.push (tupT T)).get? s.heap.objs.size = some (tupT T) := Heap.get?_push_size _ rfl
    have hac : s.heap.objs.size ≠ cStatics := fun q => by
      have := Heap.lt_size (F.keep _ _ gc)
      rw [q] at this
      exact Nat.lt_irrefl _ this
    have hsz : g.objs.size ≤ s.heap.objs.size := Nat.le_trans F.above (Nat.le_of_lt F.ns.lt)
    refine h (tHeap h' [cStatics] base) (tHeap h' [cStatics] g) h' tk s.heap.objs.size [(s.heap.objs.size, tupT T)] S1.1 S2.1 ⟨B.stack, fun b o e => ?_, ff_turn S1.1.none_ (fun b o e en => ?_) B.frames⟩ (KS_turn0 XB S1.1) (top_turn TB S1.1) ⟨?_, S2.2.1, by rw [tHeap_size]; exact F.above⟩ (fun p hp => ?_) (.head _) (fun p hp q hq => ?_) ⟨_, S1.2.2, fun T' hT' => ?_⟩
    · by_cases q : b = cStatics
      · subst q
        exact tHeap_some _ (.head _) gc (S1.2.1 _ _ e)
      · rw [tHeap_ne _ (by simpa using q)] at e ⊢
        exact B.stays _ _ e
    · refine ⟨o, ?_, rfl⟩
      rw [tHeap_ne]
      · exact e
      · intro q
        rw [List.mem_singleton.mp q, hoc] at en
        cases en
    · obtain ⟨oL, es, ep, e1, r⟩ := F.ns
      exact ⟨oL, es, ep, kh _ _ hLc e1, r⟩
    · rcases List.mem_append.mp hp with hp | hp
      · rw [List.mem_singleton.mp hp]
        refine ⟨(n2.2 _ hac).trans hnew, Nat.ne_of_gt F.ns.lt, ?_⟩
        exact Heap.get?_none_of_le (by rw [tHeap_size]; exact hsz)
      · have n := N p hp
        have pc : p.1 ≠ cStatics := fun q => by rw [q, gc] at n; cases n.2.2
        exact ⟨kh _ _ pc n.1, n.2.1, S2.1.none_ _ n.2.2⟩
    · rw [List.mem_singleton.mp hp]
      exact Heap.lt_size (N q hq).1
    · by_cases q : T' = T
      · subst q
        exact .inr ⟨_, if_pos rfl, .head _⟩
      · have : mroKey T' ≠ mroKey T := fun z => q (mroKey_ne T' hT' T hT z)
        simp only [if_neg this]
        rcases hst T' hT' with e' | ⟨a, e', hm⟩
        · exact .inl e'
        · exact .inr ⟨a, e', .tail _ hm⟩

/-- a for whose things are sought over a ground that turns -/
theorem For_turn {env : Env} {Q : Flow → Shared → Prop} {x : Str} {px pos : Pos} {iter : Expr} {body : List Stmt} (hx : env.kindOf x = some .local)
    (hp : (env.scope.kind == .class || (env.scope.kind == .module && env.locals != env.globals)) = false)
    (h : wpAny (model PR w) A (eval iter env) (fun xv s₁ => wpAny (model PR w) A (pyIter xv) (fun it s₂ => ∃ h₀, LoopAtV PR w A h₀ env x body Q E it s₂) E s₁) E s)
    (hs : ∀ x, foldedSetIterable iter env x = pure x)
    (hE : PassesOwn (model PR w) A env E) :
    wpAny (model PR w) A (exec (.For (.Name x px) iter body [] pos) env) Q E s := by
  refine wpAny_For (wpAny_mono h (fun xv s₁ h₁ => wpAny_mono h₁ (fun it s₂ h₂ => ?_) fun _ _ e => e) fun _ _ e => e) hs
  obtain ⟨h₀, I, fp, wr, n, P, St, m, news, J, rfl, W, hLf, hwr, hnw, hst, F, N, h0, step, hQ⟩ := h₂
  exact codeAny_forLoop_frV (R := fun r s' => match r with | .ok f => Q f s' | .error e => cameBackBy (model PR w) A env E e s') W hx hp hLf hwr hnw hst F N J h0 (by intros; exact wpAny_passesOwn hE (by apply step <;> assumption)) hQ
end
end

-- L_ent
section
set_option maxHeartbeats 4000000
section
variable {w : World} {A A₀ : Around} {E : Value → Shared → Prop} {s : Shared} {h₀ base : Heap} {L : Addr} {m mg mb : Str → Option Value} {news : List (Addr × Obj)} {p : Program} {loose : List Str} {mean : ExcName → Option Value} {env : Env} {outer : List Env}

/-- a top def is opened; its end is told as it is -/
theorem enterT {name qual : Str} {params : Arguments} {body : List Stmt} {scope : Scope} {dV kV doc pm cdv ct oc : Value} {an od : Option Addr} {osl : Array (Option Value)} {f : Addr} {pos : List Value} {kw : List (Str × Value)} {binds : List (Str × Value)} {Q : Value → Shared → Prop}
    (C : Cx w A₀ A base h₀ s.heap L m p loose mean mg mb env outer) (N : News h₀ L s.heap news)
    (ho : (Mine.KS w.params).lookup f = some ⟨oc, od, .func (fnOf name qual params body scope dV kV doc pm an cdv ct), osl⟩) (hcd : codeIn (Mine.KS w.params) cdv qual = true)
    (hbind : BindsTo s (fnOf name qual params body scope dV kV doc pm an cdv ct) ⟨pos, kw⟩ binds) (hloc : ∀ y ∈ binds, scope.names.lookup y.1 = some .local)
    (hco : scope.isCoroutine = false) (hgen : scope.isGenerator = false) (hk : scope.kind = .function)
    (hcell : ∀ x ∈ scope.names, x.2 ≠ .cell)
    (h : ∀ g L' h₁, Fr h₀ L g m → Fr g L' h₁ (fun y => binds.reverse.lookup y) → News g L' h₁ news → Below A base (env :: outer) g → (Mine.KS w.params).In g → Top p loose mean mg mb g → (∀ p ∈ news, @LT.lt Nat _ p.1 L') →
      wpAny (model PR w) (A.deeper (envOf qual scope L' f cdv)) (execs body (envOf qual scope L' f cdv))
        (fun fl s' => Q (match fl with | .ret v => v | _ => .none) s')
        (fun e s' => wpAny (model PR w) (A.deeper (envOf qual scope L' f cdv)) (leaving (envOf qual scope L' f cdv) e) (fun _ s'' => E e s'') (fun e' s'' => E e' s'') s')
        { s with heap := h₁, toks := s.toks + binds.length }) :
    wpAny (model PR w) A (call (.ref f) pos kw) Q E s := by
  refine wpAny_call ?_
  obtain ⟨FG, BG, st, _⟩ := groundX (R := fun _ _ => True) C.B C.F N C.hA C.hf C.hke
  have X := C.X.keeps C.F.keep
  refine codeAny_call_def (R := fun r s' => match r with | .ok (.ret v) => Q v s' | .ok _ => False | .error e => E e s') (fd := fnOf name qual params body scope dV kV doc pm an cdv ct) (body := body) (binds := binds) (Nat.lt_of_le_of_lt C.room (by decide)) (X _ _ ho) rfl (C.T.nolimit.keeps C.F.keep) (codeRec_of X hcd) rfl hbind hcell hloc (fun h₁ hns hk₁ => ?_) hco hgen hk
  exact h _ s.heap.objs.size h₁ FG ⟨hns, fun b o e => hk₁ b o (of_hideAll _ e), Nat.le_of_eq (hideAll_size _ _)⟩
    (fun p hp => ⟨hk₁ _ _ (N p hp).1, Nat.ne_of_lt (Heap.lt_size (N p hp).1), hideAll_none _ (List.mem_map_of_mem hp)⟩) BG (C.X.keeps st) (C.T.keeps st) (fun p hp => Heap.lt_size (N p hp).1)

theorem frameT {name qual : Str} {scope : Scope} {cl : List (Str × Addr)} {cdv : Value} {f : Addr} {body : List Stmt} {binds : List (Str × Value)} {Q : Value → Shared → Prop}
    (C : Cx w A₀ A base h₀ s.heap L m p loose mean mg mb env outer) (N : News h₀ L s.heap news) (hloc : ∀ y ∈ binds, scope.names.lookup y.1 = some .local)
    (h : ∀ g L' h₁, Fr h₀ L g m → Fr g L' h₁ (fun y => binds.reverse.lookup y) → News g L' h₁ news → Below A base (env :: outer) g → (Mine.KS w.params).In g → Top p loose mean mg mb g → (∀ p ∈ news, @LT.lt Nat _ p.1 L') →
      wpAny (model PR w) (A.deeper (envX qual scope L' f cdv cl)) (execs body (envX qual scope L' f cdv cl))
        (fun fl s' => Q (match fl with | .ret v => v | _ => .none) s')
        (fun e s' => wpAny (model PR w) (A.deeper (envX qual scope L' f cdv cl)) (leaving (envX qual scope L' f cdv cl) e) (fun _ s'' => E e s'') (fun e' s'' => E e' s'') s')
        { s with heap := h₁, toks := s.toks + binds.length })
    (hcell : ∀ x ∈ scope.names, x.2 ≠ .cell) (hk : scope.kind = .function) {E' : Value → Shared → Prop} :
    wpAny (model PR w) A.in1 (newFunctionEnv scope mainGlobals cl binds (qual ++ ".<locals>.") (some f) cdv none builtinsNs) (fun env' s₂ => s₂.heap.NoLimit ∧ codeAny (model PR w) A (.func body env') (fun r s' => match r with | .ok (.ret v) => Q v s' | .ok _ => False | .error e => E e s') s₂) E' s := by
  obtain ⟨FG, BG, st, _⟩ := groundX (R := fun _ _ => True) C.B C.F N C.hA C.hf C.hke
  refine wpAny_newFunctionEnv hcell hloc (fun h₁ hns hsb => ⟨(C.T.nolimit.keeps C.F.keep).fresh _ hsb, codeAny_func ?_⟩) hk
  have hk₁ : ∀ b o, s.heap.get? b = some o → h₁.get? b = some o := fun b o e => hsb.extBut b o (Nat.ne_of_lt (Heap.lt_size e)) (Heap.get?_push_of_some _ e)
  show wpAny (model PR w) (A.deeper (envX qual scope s.heap.objs.size f cdv cl)) (execs body (envX qual scope s.heap.objs.size f cdv cl)) _ _ _
  exact h _ s.heap.objs.size h₁ FG ⟨hns, fun b o e => hk₁ b o (of_hideAll _ e), Nat.le_of_eq (hideAll_size _ _)⟩
    (fun p hp => ⟨hk₁ _ _ (N p hp).1, Nat.ne_of_lt (Heap.lt_size (N p hp).1), hideAll_none _ (List.mem_map_of_mem hp)⟩) BG (C.X.keeps st) (C.T.keeps st) (fun p hp => Heap.lt_size (N p hp).1)

/-- a top def with * and ** is opened; its end is told as it is -/
theorem enterVTT {name qual : Str} {params : Arguments} {body : List Stmt} {scope : Scope} {dV kV doc pm cdv ct oc : Value} {an od : Option Addr} {osl : Array (Option Value)} {f : Addr} {pos : List Value} {kw ex : List (Str × Value)} {vs : List Value} {binds : Addr → Addr → List (Str × Value)} {Q : Value → Shared → Prop}
    (C : Cx w A₀ A base h₀ s.heap L m p loose mean mg mb env outer) (N : News h₀ L s.heap news)
    (ho : (Mine.KS w.params).lookup f = some ⟨oc, od, .func (fnOf name qual params body scope dV kV doc pm an cdv ct), osl⟩) (hcd : codeIn (Mine.KS w.params) cdv qual = true)
    (hbind : ∀ (A' : Around) (E' : Value → Shared → Prop) (Q' : List (Str × Value) → Shared → Prop), (∀ C D o h' tk, (∀ p ∈ news, p.1 < C) → C < D → (D == sysModules) = false → o.IsDictOf (strKind PR w) ex → Fr h₀ L h' m → News h₀ L h' ((D, o) :: (C, ({ cls := .type "tuple", data := .seq vs.toArray } : Obj)) :: news) →
      Q' (binds C D) { s with heap := h', toks := tk }) → wpAny (model PR w) A' (bindArgs (fnOf name qual params body scope dV kV doc pm an cdv ct) ⟨pos, kw⟩) Q' E' s)
    (hloc : ∀ C D, ∀ y ∈ binds C D, scope.names.lookup y.1 = some .local)
    (hco : scope.isCoroutine = false) (hgen : scope.isGenerator = false) (hk : scope.kind = .function)
    (hcell : ∀ x ∈ scope.names, x.2 ≠ .cell)
    (h : ∀ C D o g L' h₁ tk, (∀ p ∈ news, @LT.lt Nat _ p.1 C) → @LT.lt Nat _ C D → (D == sysModules) = false → o.IsDictOf (strKind PR w) ex → Fr h₀ L g m → Fr g L' h₁ (fun y => (binds C D).reverse.lookup y) →
      News g L' h₁ ((D, o) :: (C, ({ cls := .type "tuple", data := .seq vs.toArray } : Obj)) :: news) → Below A base (env :: outer) g → (Mine.KS w.params).In g → Top p loose mean mg mb g →
      wpAny (model PR w) (A.deeper (envOf qual scope L' f cdv)) (execs body (envOf qual scope L' f cdv))
        (fun fl s' => Q (match fl with | .ret v => v | _ => .none) s')
        (fun e s' => wpAny (model PR w) (A.deeper (envOf qual scope L' f cdv)) (leaving (envOf qual scope L' f cdv) e) (fun _ s'' => E e s'') (fun e' s'' => E e' s'') s')
        { s with heap := h₁, toks := tk }) :
    codeAny (model PR w) A (.call (.ref f) ⟨pos, kw⟩) (fun r s' => match r with | .ok (.ret v) => Q v s' | .ok _ => False | .error e => E e s') s := by
  have X := C.X.keeps C.F.keep
  refine codeAny_call_function (R := fun r s' => match r with | .ok (.ret v) => Q v s' | .ok _ => False | .error e => E e s') (fd := fnOf name qual params body scope dV kV doc pm an cdv ct) (body := body) (Nat.lt_of_le_of_lt C.room (by decide)) (X _ _ ho) rfl hco hgen rfl (codeRec_of X hcd) ?_
  refine hbind _ _ _ fun c D o h' tk l1 l2 hs ho' F' N' => ?_
  have C' : Cx w A₀ A base h₀ h' L m p loose mean mg mb env outer := ⟨C.B, F', C.X, C.T, C.hA, C.hf, C.hke, C.room, C.units, C.hh, C.hc, C.XB, C.TB⟩
  exact frameT (name := name) (cl := []) (s := { s with heap := h', toks := tk }) C' N' (hloc c D) (fun g L' h₁ FG FL NG BG XG TG _ => h c D o g L' h₁ _ l1 l2 hs ho' FG FL NG BG XG TG) hcell hk
end
end

-- L_back
section
set_option maxHeartbeats 4000000

/-- how a turn of a loop over a tuple ends -/
noncomputable def TurnEnd (h₀ : Heap) (L : Addr) (news : List (Addr × Obj)) (J : (Str → Option Value) → Prop) (Q : Flow → Shared → Prop) (s : Shared) : Flow → Shared → Prop
  | .ret v, s' => Q (.ret v) s'
  | .brk, s' => Q .next s'
  | _, s' => ∃ h' tk' m', s' = { s with heap := h', toks := tk' } ∧ Fr h₀ L h' m' ∧ News h₀ L h' news ∧ J m'

section
variable {prog : Program} {w : World} {A : Around} {E : Value → Shared → Prop} {s : Shared} {env : Env} {h₀ : Heap} {x : Str} {body : List Stmt} {Q : Flow → Shared → Prop}
theorem tup_iter {a : Addr} {vs : List Value} {m₀ : Str → Option Value} {news : List (Addr × Obj)} (J : Nat → (Str → Option Value) → Prop)
    (hh : A.handled = none) (ha : (a, ({ cls := .type "tuple", data := .seq vs.toArray } : Obj)) ∈ news) (F : Fr h₀ env.locals s.heap m₀) (N : News h₀ env.locals s.heap news) (hj : J 0 m₀)
    (turn : ∀ i v m₁ h tk I oI, vs[i]? = some v → J i m₁ → (∀ p ∈ news, @LT.lt Nat _ p.1 I) → Fr h₀ env.locals h (fun y => if y = x then some v else m₁ y) → News h₀ env.locals h ((I, oI) :: news) →
      wpAny (model prog w) A (execs body env) (TurnEnd h₀ env.locals ((I, oI) :: news) (J (i + 1)) Q { s with heap := h, toks := tk }) E { s with heap := h, toks := tk })
    (done : ∀ m₁ h tk, J vs.length m₁ → Fr h₀ env.locals h m₁ → News h₀ env.locals h news → Q .next { s with heap := h, toks := tk }) :
    wpAny (model prog w) A (pyIter (.ref a)) (fun it s₂ => LoopAtV prog w A h₀ env x body Q E it s₂) E s := by
  have hol : s.heap.get? a = some ({ cls := .type "tuple", data := .seq vs.toArray } : Obj) := (N _ ha).1
  have hls : s.heap.IsTuple a vs.toArray := ⟨_, hol, rfl, _, rfl⟩
  have hne : a ≠ s.heap.objs.size := Nat.ne_of_lt (Heap.lt_size hol)
  refine wpAny_pyIter_tuple hls ?_
  have W := Walks.tuple (prog := prog) (w := w) hh s.heap.objs.size a hne vs.toArray
  have hlen : vs.toArray.size = vs.length := by simp
  rw [hlen] at W
  refine ⟨_, _, _, vs.length, _, _, m₀, news, (fun i m nx => nx = news ∧ J i m), rfl, W, ?_, ?_, ?_, ⟨⟨_, Heap.get?_push_size _ rfl, rfl, rfl⟩, hls.at fun o e => Heap.get?_push_of_some _ e⟩, F.push _, (fun p hp => ⟨Heap.get?_push_of_some _ (N p hp).1, (N p hp).2⟩), ⟨rfl, hj⟩, ?_, ?_⟩
  · intro hm
    rcases List.mem_cons.mp hm with e | hm
    · exact absurd F.ns.lt (e ▸ Nat.lt_irrefl _)
    · exact (N _ ha).2.1 ((List.mem_singleton.mp hm).symm)
  · intro b hb
    rw [List.mem_singleton.mp hb]
    exact next_is_new F
  · intro p hp hI
    exact absurd (Heap.lt_size (N p hp).1) ((List.mem_singleton.mp hI) ▸ Nat.lt_irrefl _)
  · rintro i v m₁ news₁ s₁ own ⟨hh', tk', rfl⟩ hin hP ⟨rfl, hJ⟩ hoff hown hget hfp hst F₁ N₁
    have hP' : vs[i]? = some v := by simpa using hP
    have hI0 : h₀.get? s.heap.objs.size = none := next_is_new F
    obtain ⟨⟨oI, hoI, _⟩, _⟩ := id hst
    have hIown : (s.heap.objs.size, oI) ∈ own := hfp _ (List.mem_cons.mpr (.inl rfl)) hI0 _ hoI
    have N₂ : News h₀ env.locals hh' ((s.heap.objs.size, oI) :: news₁) := fun p hp => by
      rcases List.mem_cons.mp hp with rfl | hp
      · exact N₁ _ (List.mem_append.mpr (.inl hIown))
      · exact N₁ p (List.mem_append.mpr (.inr hp))
    have hlo : hh'.get? a = some ({ cls := .type "tuple", data := .seq vs.toArray } : Obj) := (N₂ _ (.tail _ ha)).1
    have fin : ∀ s₂, (∃ h' tk'' m', s₂ = { ({ s with heap := hh', toks := tk' } : Shared) with heap := h', toks := tk'' } ∧ Fr h₀ env.locals h' m' ∧ News h₀ env.locals h' ((s.heap.objs.size, oI) :: news₁) ∧ J (i + 1) m') →
        LoopStepU h₀ env.locals [s.heap.objs.size] own (fun m nx => nx = news₁ ∧ J (i + 1) m) { s with heap := hh', toks := tk' } .next s₂ := by
      rintro s₂ ⟨h', tk, m', e, F', N', hJ'⟩
      refine ⟨rfl, h', tk, m', news₁, e, F', fun p hp => ?_, fun p hp hq => ?_, rfl, hJ'⟩
      · rcases List.mem_append.mp hp with h | h
        · by_cases hI : p.1 = s.heap.objs.size
          · have h2 : hh'.get? p.1 = some p.2 := hget p h
            rw [hI, hoI] at h2
            have h3 : p = (s.heap.objs.size, oI) := Prod.ext hI (Option.some.inj h2).symm
            rw [h3]
            exact N' _ (.head _)
          · have h1 : p.1 = a := by
              rcases List.mem_cons.mp (hown p h) with h2 | h2
              · exact absurd h2 hI
              · exact List.mem_singleton.mp h2
            have h2 : hh'.get? p.1 = some p.2 := hget p h
            rw [h1, hlo] at h2
            have h3 : p = (a, ({ cls := .type "tuple", data := .seq vs.toArray } : Obj)) := Prod.ext h1 (Option.some.inj h2).symm
            rw [h3]
            exact N' _ (.tail _ ha)
        · exact N' p (.tail _ h)
      · exact hoff p hp hq
    refine wpAny_mono (turn i v m₁ hh' tk' s.heap.objs.size oI hP' hJ (fun p hp => ?_) F₁ N₂) (fun f s₂ p => ?_) fun _ _ e => e
    · exact Heap.lt_size (N p hp).1
    · cases f with
      | ret v => exact .ret p
      | brk => exact .brk p
      | next => exact .next (fin _ p)
      | cont => exact .cont (fin _ p)
  · rintro h' tk m' news' F' N' _ ⟨rfl, hJ⟩
    exact done m' h' tk hJ F' N'
end

theorem codeHd_turn {c P : Addr} {g g' : Heap} (C : CodeHd g c P) (T : Turn [] g g') (hc : ∃ mc, g.Ns cStatics mc) : CodeHd g' c P := by
  obtain ⟨mc, o2, es, ep, e2, hd2, _⟩ := hc
  obtain ⟨o, vs, file, tf, flags, tg, inF, text, tt, e1, r1, r2⟩ := C
  refine ⟨o, vs, file, tf, flags, tg, inF, text, tt, T.other _ _ e1 (fun q => ?_) List.not_mem_nil, r1, r2⟩
  rw [q, e2] at e1
  cases e1
  rw [hd2] at r2
  cases r2.1

/-- what stands around a frame after a call that has turned the ground -/
structure Back (w : World) (A₀ : Around) (base h₀ : Heap) (L : Addr) (m : Str → Option Value) (loose : List Str) (mean : ExcName → Option Value) (mg mb : Str → Option Value) (outer : List Env) (news : List (Addr × Obj)) (base' h₀' G : Heap) (own : List (Addr × Obj)) : Prop where
  TB : Turn [] base base'
  T0 : Turn (outer.filterMap (·.frame)) h₀ h₀'
  B : Below A₀ base' outer h₀'
  XB : (KS w.params).In base'
  TT : Top topProg loose mean mg mb base'
  F : Fr h₀' L G m
  ab : Above own news
  st : StatOk (own ++ news) base'

section
variable {w : World} {A A₀ : Around} {h h₀ base base' g g' h₀' G : Heap} {L L' : Addr} {m mi mg mb : Str → Option Value} {news newsI own : List (Addr × Obj)} {loose : List Str} {mean : ExcName → Option Value} {env : Env} {outer : List Env}

theorem Back.cx (K : Back w A₀ base h₀ L m loose mean mg mb outer news base' h₀' G own) (C : Cx w A₀ A base h₀ h L m topProg loose mean mg mb env outer) : Cx w A₀ A base' h₀' G L m topProg loose mean mg mb env outer :=
  ⟨K.B, K.F, K.XB.keeps K.B.stays, K.TT.keeps K.B.stays, C.hA, C.hf, C.hke, C.room, C.units, C.hh, codeHd_turn C.hc K.TB (let ⟨mc, h1, _⟩ := C.TB.nolimit; ⟨mc, h1⟩), K.XB, K.TT⟩

/-- from a callee's ground to its caller's -/
theorem Back.up (C : Cx w A₀ A base h₀ h L m topProg loose mean mg mb env outer) (FG : Fr h₀ L g m) (K : Back w A base g L' mi loose mean mg mb (env :: outer) newsI base' g' G own)
    {own' : List (Addr × Obj)} (ab : Above own' news) (hs : ∀ p ∈ own ++ newsI, p ∈ own' ++ news) :
    ∃ h₀', Back w A₀ base h₀ L m loose mean mg mb outer news base' h₀' g' own' := by
  have hcs : ∃ o, base.get? cStatics = some o := by obtain ⟨_, ⟨o, _, _, e, _⟩, _⟩ := C.TB.nolimit; exact ⟨o, e⟩
  obtain ⟨h₀', T0, F0, B0⟩ := ground C.B FG K.TB K.T0 C.hf K.B.stays hcs
  exact ⟨h₀', K.TB, T0, B0, K.XB, K.TT, F0, ab, K.st.mono hs⟩

/-- a ledger in a callee's ground, seen from its caller's -/
theorem Back.led (K : Back w A₀ base h₀ L m loose mean mg mb outer newsI base' h₀' g' own) (FI : Fr g' L' G mi) {nx ny : List (Addr × Obj)} (N : News g' L' G nx) (hs : ∀ p ∈ ny, p ∈ nx) :
    Fr h₀' L G m ∧ News h₀' L G ny := by
  obtain ⟨oL, es, ep, e, r⟩ := K.F.ns
  refine ⟨⟨⟨oL, es, ep, FI.keep _ _ e, r⟩, fun b o q => FI.keep _ _ (K.F.keep _ _ q), K.F.above⟩, fun p hp => ⟨(N p (hs p hp)).1, fun q => ?_, ?_⟩⟩
  · have := (N p (hs p hp)).2.2
    rw [q, e] at this
    cases this
  · cases q : h₀'.get? p.1 with
    | none => rfl
    | some o =>
      have := (N p (hs p hp)).2.2
      rw [K.F.keep _ _ q] at this
      cases this

theorem raised_sub {l : List Env} {e t : Addr} {cls : Value} {vs : List Value} {nx ny : List (Addr × Obj)} (R : RaisedS base G l e cls t vs nx h) (hs : ∀ p ∈ ny, p ∈ nx) : RaisedS base G l e cls t vs ny h := by
  obtain ⟨⟨B, hB, hBG, hl, hfl, hnew⟩, htup⟩ := R
  exact ⟨⟨B, hB, hBG, fun q hq => hl q (hs q hq), hfl, hnew⟩, htup⟩
theorem Back.refl (C : Cx w A₀ A base h₀ h L m topProg loose mean mg mb env outer) (FG : Fr h₀ L G m) (st : StatOk news base) : Back w A₀ base h₀ L m loose mean mg mb outer news base h₀ G [] :=
  ⟨.refl, .refl, C.B, C.XB, C.TB, FG, (fun _ hp => nomatch hp), st⟩
theorem StatOk.drop {own : List (Addr × Obj)} {p : Addr × Obj} (x : StatOk (own ++ p :: news) base) (hp : p.2.cls ≠ .type "tuple") : StatOk (own ++ news) base := by
  obtain ⟨mc, h1, h2⟩ := x
  refine ⟨mc, h1, fun T hT => ?_⟩
  rcases h2 T hT with e | ⟨a, e, hm⟩
  · exact .inl e
  · refine .inr ⟨a, e, ?_⟩
    rcases List.mem_append.mp hm with hm | hm
    · exact List.mem_append_left _ hm
    · rcases List.mem_cons.mp hm with e' | hm
      · exact absurd (by rw [← e']; rfl) hp
      · exact List.mem_append_right _ hm
end
end

-- L_find
section
theorem words_L_find : True := by
  w_top off
  k_with_none
  (k_with "ne" => with_reducible first | exact Nat.ne_of_lt (‹@LT.lt _ _ _ _ ∧ _›).1 | exact Nat.ne_of_gt (‹@LT.lt _ _ _ _ ∧ _›).1 | exact Nat.ne_of_lt (‹_ ∧ @LT.lt _ _ _ _ ∧ _›).2.1 | exact Nat.ne_of_gt (‹_ ∧ @LT.lt _ _ _ _ ∧ _›).2.1 | exact Nat.ne_of_lt (‹_ ∧ _ ∧ @LT.lt _ _ _ _ ∧ _›).2.2.1 | exact Nat.ne_of_gt (‹_ ∧ _ ∧ @LT.lt _ _ _ _ ∧ _›).2.2.1 | exact Nat.ne_of_lt (‹_ ∧ _ ∧ _ ∧ @LT.lt _ _ _ _ ∧ _›).2.2.2.1 | exact Nat.ne_of_gt (‹_ ∧ _ ∧ _ ∧ @LT.lt _ _ _ _ ∧ _›).2.2.2.1 | exact Nat.ne_of_lt (‹_ ∧ _ ∧ _ ∧ _ ∧ @LT.lt _ _ _ _ ∧ _›).2.2.2.2.1 | exact Nat.ne_of_gt (‹_ ∧ _ ∧ _ ∧ _ ∧ @LT.lt _ _ _ _ ∧ _›).2.2.2.2.1 | exact Nat.ne_of_lt (‹_ ∧ _ ∧ _ ∧ _ ∧ _ ∧ @LT.lt _ _ _ _ ∧ _›).2.2.2.2.2.1 | exact Nat.ne_of_gt (‹_ ∧ _ ∧ _ ∧ _ ∧ _ ∧ @LT.lt _ _ _ _ ∧ _›).2.2.2.2.2.1 | exact Nat.ne_of_lt (‹_ ∧ _ ∧ _ ∧ _ ∧ _ ∧ _ ∧ @LT.lt _ _ _ _ ∧ _›).2.2.2.2.2.2.1 | exact Nat.ne_of_gt (‹_ ∧ _ ∧ _ ∧ _ ∧ _ ∧ _ ∧ @LT.lt _ _ _ _ ∧ _›).2.2.2.2.2.2.1 | exact Nat.ne_of_lt (‹_ ∧ _ ∧ _ ∧ _ ∧ _ ∧ _ ∧ _ ∧ @LT.lt _ _ _ _ ∧ _›).2.2.2.2.2.2.2.1 | exact Nat.ne_of_gt (‹_ ∧ _ ∧ _ ∧ _ ∧ _ ∧ _ ∧ _ ∧ @LT.lt _ _ _ _ ∧ _›).2.2.2.2.2.2.2.1 | exact Nat.ne_of_lt (‹_ ∧ _ ∧ _ ∧ _ ∧ _ ∧ _ ∧ _ ∧ _ ∧ @LT.lt _ _ _ _ ∧ _›).2.2.2.2.2.2.2.2.1 | exact Nat.ne_of_gt (‹_ ∧ _ ∧ _ ∧ _ ∧ _ ∧ _ ∧ _ ∧ _ ∧ @LT.lt _ _ _ _ ∧ _›).2.2.2.2.2.2.2.2.1 | exact Nat.ne_of_lt (‹_ ∧ _ ∧ _ ∧ _ ∧ _ ∧ _ ∧ _ ∧ _ ∧ _ ∧ @LT.lt _ _ _ _ ∧ _›).2.2.2.2.2.2.2.2.2.1 | exact Nat.ne_of_gt (‹_ ∧ _ ∧ _ ∧ _ ∧ _ ∧ _ ∧ _ ∧ _ ∧ _ ∧ @LT.lt _ _ _ _ ∧ _›).2.2.2.2.2.2.2.2.2.1 | exact Nat.ne_of_lt (‹_ ∧ _ ∧ _ ∧ _ ∧ _ ∧ _ ∧ _ ∧ _ ∧ _ ∧ _ ∧ @LT.lt _ _ _ _ ∧ _›).2.2.2.2.2.2.2.2.2.2.1 | exact Nat.ne_of_gt (‹_ ∧ _ ∧ _ ∧ _ ∧ _ ∧ _ ∧ _ ∧ _ ∧ _ ∧ _ ∧ @LT.lt _ _ _ _ ∧ _›).2.2.2.2.2.2.2.2.2.2.1 | exact Nat.ne_of_lt (‹_ ∧ _ ∧ _ ∧ _ ∧ _ ∧ _ ∧ _ ∧ _ ∧ _ ∧ _ ∧ _ ∧ @LT.lt _ _ _ _ ∧ _›).2.2.2.2.2.2.2.2.2.2.2.1 | exact Nat.ne_of_gt (‹_ ∧ _ ∧ _ ∧ _ ∧ _ ∧ _ ∧ _ ∧ _ ∧ _ ∧ _ ∧ _ ∧ @LT.lt _ _ _ _ ∧ _›).2.2.2.2.2.2.2.2.2.2.2.1 | exact Nat.ne_of_lt (‹_ ∧ _ ∧ _ ∧ _ ∧ _ ∧ _ ∧ _ ∧ _ ∧ _ ∧ _ ∧ _ ∧ _ ∧ @LT.lt _ _ _ _ ∧ _›).2.2.2.2.2.2.2.2.2.2.2.2.1 | exact Nat.ne_of_gt (‹_ ∧ _ ∧ _ ∧ _ ∧ _ ∧ _ ∧ _ ∧ _ ∧ _ ∧ _ ∧ _ ∧ _ ∧ @LT.lt _ _ _ _ ∧ _›).2.2.2.2.2.2.2.2.2.2.2.2.1 | exact Nat.ne_of_lt (‹_ ∧ _ ∧ _ ∧ _ ∧ _ ∧ _ ∧ _ ∧ _ ∧ _ ∧ _ ∧ _ ∧ _ ∧ _ ∧ @LT.lt _ _ _ _ ∧ _›).2.2.2.2.2.2.2.2.2.2.2.2.2.1 | exact Nat.ne_of_gt (‹_ ∧ _ ∧ _ ∧ _ ∧ _ ∧ _ ∧ _ ∧ _ ∧ _ ∧ _ ∧ _ ∧ _ ∧ _ ∧ @LT.lt _ _ _ _ ∧ _›).2.2.2.2.2.2.2.2.2.2.2.2.2.1)
  (k_with "adr" => (repeat (first | exact List.Mem.head _ | refine List.Mem.tail _ ?_)))
  (k_with "mine cx" => exact ⟨by assumption, by assumption, by assumption, by assumption, rfl, rfl, rfl, by (first | exact Nat.le_trans (Nat.succ_le_succ (show _ ≤ 330 by assumption)) (by decide) | exact Nat.le_trans (Nat.succ_le_succ (show _ ≤ 340 by assumption)) (by decide) | exact Nat.le_trans (Nat.succ_le_succ (show _ ≤ 345 by assumption)) (by decide) | exact Nat.le_trans (Nat.succ_le_succ (show _ ≤ 350 by assumption)) (by decide) | (simp only [depth_deeper]; omega)), by (first | exact Nat.le_trans (Nat.add_le_add_right (show _ ≤ 100 by assumption) 3) (by decide) | exact Nat.le_trans (Nat.add_le_add_right (show _ ≤ 130 by assumption) 3) (by decide) | exact Nat.le_trans (Nat.add_le_add_right (show _ ≤ 140 by assumption) 3) (by decide) | exact Nat.le_trans (Nat.add_le_add_right (show _ ≤ 150 by assumption) 3) (by decide) | (simp only [units_deeper]; omega)), rfl, by assumption, by assumption, by assumption⟩)
  (k_with "kind k_mem" => first | assumption | (refine List.mem_append_left _ ?_; k_mem) | (refine List.mem_append_right _ ?_; k_mem))
  (k_with "kind k_room" => (show _ < _; simp only [depth_under_make, depth_under_kw, depth_in1, depth_deeper, depth_caller, recursionLimit]; omega))
  (k_with "compareOp In" => (k_here; (refine' in_mix ?w49N ?w49m ?w49d ?w49s ?w49k ?_; (case w49N => k_asm); (case w49m => k_mem); (case w49d => assumption); (case w49s => assumption); (case w49k => first | exact mix_str _ _ | exact mix_none | assumption))))
  (k_with "compareOp In" => (k_here; (with_reducible show wpAny _ _ (compareOp _ (Value.type _) _) _ _ _); (refine' in_ty ?w50t ?w50y ?w50N ?w50m ?w50d ?w50s ?_; (case w50t => assumption); (case w50y => assumption); (case w50N => k_asm); (case w50m => k_mem); (case w50d => assumption); (case w50s => assumption))))
  (k_with "subscriptTail" => (k_here; (refine' item_mixD (hs := by with_unfolding_all rfl) ?w51N ?w51m ?w51d ?w51k ?w51v ?_; (case w51N => k_asm); (case w51m => k_mem); (case w51d => assumption); (case w51k => first | exact mix_str _ _ | exact mix_none | assumption); (case w51v => assumption))))
  (k_with "exec Raise some none" => (refine Halt.to ?_))
  (k_with "exec For Name Attribute cons nil" => (k_here; (with_unfolding_all refine' For_turn (hs := by intro _; rfl) (hE := by passes_own) ?w53k1 ?w53k2 ?_; (case w53k1 => exact rfl); (case w53k2 => exact rfl); k_whole)))
  (k_with "call type:type" => (k_here; refine call_type_of (by assumption) (by assumption) ?_))
  (k_with "getAttr type" => (k_here; (first
  | ((with_reducible show wpAny _ _ (getAttr _ (Str.ofString "__qualname__") _) _ _ _); refine' qual_ty ?w55t ?w55F ?w55X ?_; (case w55t => assumption); (case w55F => k_asm); (case w55X => assumption); intro _ _)
  | ((with_reducible show wpAny _ _ (getAttr _ (Str.ofString "__name__") _) _ _ _); refine' name_ty ?w55t ?w55F ?w55X ?_; (case w55t => assumption); (case w55F => k_asm); (case w55X => assumption); intro _ _)
  | refine Halt.to ?_)))
  (k_with "call builtin:getattr" => (k_here; (refine' mod_ty ?w56t ?w56F ?w56X ?_; (case w56t => assumption); (case w56F => k_asm); (case w56X => assumption); intro _ _)))
  (k_with "call builtin:str.join" => (k_here; (refine' path_join ?w57t ?w57N ?w57m ?_; (case w57t => assumption); (case w57N => k_asm); (case w57m => k_mem); intro _ _)))
  trivial
set_option maxHeartbeats 4000000
/-- a frame of _find_set_handler within its loop -/
noncomputable def fMap (u : Str → Option Value) (fp : Value) (mgr : Addr) (page obj : Value) : Str → Option Value := fun y =>
  if y = Str.ofString "typ" then u y else if y = Str.ofString "qname" then u y else if y = Str.ofString "modname" then u y else if y = Str.ofString "full_path" then u y else if y = Str.ofString "name" then u y else
    if y = Str.ofString "full_path_for_error" then some fp else if y = Str.ofString "self" then some (.ref mgr) else if y = Str.ofString "msg" then some page else if y = Str.ofString "obj" then some obj else none

theorem fMap_of {m : Str → Option Value} {fp : Value} {mgr : Addr} {page obj : Value} (h6 : m (Str.ofString "full_path_for_error") = some fp) (h7 : m (Str.ofString "self") = some (.ref mgr)) (h8 : m (Str.ofString "msg") = some page) (h9 : m (Str.ofString "obj") = some obj)
    (hr : ∀ y, y ≠ Str.ofString "typ" → y ≠ Str.ofString "qname" → y ≠ Str.ofString "modname" → y ≠ Str.ofString "full_path" → y ≠ Str.ofString "name" → y ≠ Str.ofString "full_path_for_error" → y ≠ Str.ofString "self" → y ≠ Str.ofString "msg" → y ≠ Str.ofString "obj" → m y = none) : m = fMap m fp mgr page obj := by
  funext y
  unfold fMap
  by_cases h1 : y = Str.ofString "typ"
  · simp only [if_pos h1]
  by_cases h2 : y = Str.ofString "qname"
  · simp only [if_neg h1, if_pos h2]
  by_cases h3 : y = Str.ofString "modname"
  · simp only [if_neg h1, if_neg h2, if_pos h3]
  by_cases h4 : y = Str.ofString "full_path"
  · simp only [if_neg h1, if_neg h2, if_neg h3, if_pos h4]
  by_cases h5 : y = Str.ofString "name"
  · simp only [if_neg h1, if_neg h2, if_neg h3, if_neg h4, if_pos h5]
  by_cases q6 : y = Str.ofString "full_path_for_error"
  · simp only [if_neg h1, if_neg h2, if_neg h3, if_neg h4, if_neg h5, if_pos q6]; rw [q6]; exact h6
  by_cases q7 : y = Str.ofString "self"
  · simp only [if_neg h1, if_neg h2, if_neg h3, if_neg h4, if_neg h5, if_neg q6, if_pos q7]; rw [q7]; exact h7
  by_cases q8 : y = Str.ofString "msg"
  · simp only [if_neg h1, if_neg h2, if_neg h3, if_neg h4, if_neg h5, if_neg q6, if_neg q7, if_pos q8]; rw [q8]; exact h8
  by_cases q9 : y = Str.ofString "obj"
  · simp only [if_neg h1, if_neg h2, if_neg h3, if_neg h4, if_neg h5, if_neg q6, if_neg q7, if_neg q8, if_pos q9]; rw [q9]; exact h9
  simp only [if_neg h1, if_neg h2, if_neg h3, if_neg h4, if_neg h5, if_neg q6, if_neg q7, if_neg q8, if_neg q9]
  exact hr y h1 h2 h3 h4 h5 q6 q7 q8 q9
theorem none_of {α : Type} {o : Option α} (h : o.isSome = false) : o = none := by cases o <;> first | rfl | cases h
theorem find_one {g : MK → Option Value} (h : (g MK.none).isSome = true) : [MK.none].findSome? g = some ((g MK.none).getD .none) := by
  cases e : g MK.none with
  | none => rw [e] at h; cases h
  | some v => simp [List.findSome?, e]
theorem kind_nb : ∀ T ∈ kindNames, (Value.type T == Value.type "builtin_function_or_method") = false := by apply kind_cases <;> decide +kernel
/-- the whole name of a built-in type -/
noncomputable def pathOf (n : String) : Str := Str.ofString "builtins." ++ Str.ofString n

/-- the keys that are sought for a thing of a built-in type, in their order -/
noncomputable def keysOf (T : String) : List MK := (chainOf T).flatMap (fun n => [MK.str (pathOf n), MK.str (Str.ofString n)]) ++ [MK.none]
theorem find_none {g : MK → Option Value} {r : List MK} : ∀ {l : List String}, (∀ n ∈ l, g (MK.str (pathOf n)) = none ∧ g (MK.str (Str.ofString n)) = none) → ((l.flatMap fun n => [MK.str (pathOf n), MK.str (Str.ofString n)]) ++ r).findSome? g = r.findSome? g
  | [], _ => rfl
  | n :: l, h => by
    rw [List.flatMap_cons]
    simp only [List.cons_append, List.nil_append, List.findSome?_cons, (h n (.head _)).1, (h n (.head _)).2]
    exact find_none fun n' hn => h n' (.tail _ hn)
theorem find_path {g : MK → Option Value} {r : List MK} {v : Value} : ∀ {l : List String} {i : Nat} {n : String}, l[i]? = some n → (∀ j < i, ∀ n', l[j]? = some n' → g (MK.str (pathOf n')) = none ∧ g (MK.str (Str.ofString n')) = none) →
    (g (MK.str (pathOf n)) = some v ∨ (g (MK.str (pathOf n)) = none ∧ g (MK.str (Str.ofString n)) = some v)) → ((l.flatMap fun n => [MK.str (pathOf n), MK.str (Str.ofString n)]) ++ r).findSome? g = some v
  | [], i, n, h, _, _ => by simp at h
  | a :: l, 0, n, h, _, hv => by
    simp only [List.getElem?_cons_zero, Option.some.injEq] at h
    subst h
    rw [List.flatMap_cons]
    simp only [List.cons_append, List.nil_append, List.findSome?_cons]
    rcases hv with e | ⟨e1, e2⟩
    · rw [e]
    · rw [e1, e2]
  | a :: l, i + 1, n, h, hJ, hv => by
    have h0 := hJ 0 (Nat.succ_pos _) a rfl
    rw [List.flatMap_cons]
    simp only [List.cons_append, List.nil_append, List.findSome?_cons, h0.1, h0.2]
    exact find_path (i := i) (by simpa using h) (fun j hj n' hn => hJ (j + 1) (by omega) n' (by simpa using hn)) hv
theorem chain_head : ∀ T ∈ kindNames, (chainOf T)[0]? = some T := by apply kind_cases <;> rfl
theorem some_of {α : Type} {o : Option α} {d : α} (h : o.isSome = true) : o = some (o.getD d) := by cases o <;> first | rfl | cases h
theorem path_is : ∀ n ∈ tyNames, Txt.join (Str.ofString ".") [Str.ofString "builtins", Str.ofString n] = pathOf n := by apply ty_cases <;> decide +kernel
theorem path_len : ∀ n ∈ tyNames, ([Str.ofString "builtins", Str.ofString n].map (·.length)).sum + [Str.ofString "builtins", Str.ofString n].length ≤ 1048576 := by apply ty_cases <;> decide +kernel

section
variable {prog : Program} {w : World} {A : Around} {E : Value → Shared → Prop} {s : Shared} {h₀ : Heap} {L d : Addr} {news : List (Addr × Obj)} {o : Obj} {kvs : List (MK × Value)}
theorem path_join {D : Addr} {n : String} {t1 t2 k : Tok} {Q : Value → Shared → Prop} (hn : n ∈ tyNames) (N : News h₀ L s.heap news) (hm : (D, ({ cls := .type "tuple", data := .seq #[.str (Str.ofString "builtins") t1, .str (Str.ofString n) t2] } : Obj)) ∈ news)
    (h : ∀ t' k', Q (.str (pathOf n) t') { s with toks := k' }) : wpAny (model prog w) A (call (.builtin "str.join") [.str (Str.ofString ".") k, .ref D]) Q E s :=
  join_tupleW (ys := [Str.ofString "builtins", Str.ofString n]) (News.isTup N hm) (by repeat constructor) (by decide +kernel) (path_len n hn) fun t' k' => by rw [path_is n hn]; exact h t' k'
theorem in_ty {T : String} {Q : Value → Shared → Prop} (hT : T ∈ tyNames) (hty : ∀ n, valueAt kvs (MK.ty n) = none) (N : News h₀ L s.heap news) (hm : (d, o) ∈ news) (hd : o.IsDictOf (mixKind prog w) kvs) (hs : (d == sysModules) = false)
    (h : Q (.bool false) { s with toks := s.toks + 1 }) : wpAny (model prog w) A (compareOp .In (.type T) (.ref d)) Q E s :=
  in_mix N hm hd hs (mix_ty ⟨T, hT⟩) (by rw [hty]; exact h)
end

section
variable {w : World} {A A₀ : Around} {E : Value → Shared → Prop} {s : Shared} {h₀ base : Heap} {L : Addr} {m mg mb : Str → Option Value} {news : List (Addr × Obj)} {loose : List Str} {mean : ExcName → Option Value} {env : Env} {outer : List Env}

theorem find_ok {mgr dG dS : Addr} {page obj : Value} {T : String} {oS : Obj} {kvs : List (MK × Value)} {Q : Value → Shared → Prop}
    (C : Cx w A₀ A base h₀ s.heap L m topProg loose mean mg mb env outer) (N : News h₀ L s.heap news)
    (hM : MgrAt w news mgr dG dS) (hS : (dS, oS) ∈ news) (hds : (dS == sysModules) = false) (hd : oS.IsDictOf (mixKind PR w) kvs)
    (hT : T ∈ kindNames) (hobj : ∀ (g : Heap) (L : Addr) (s : Shared), News g L s.heap news → s.TypeIs obj T) (hty : ∀ n, valueAt kvs (MK.ty n) = none) (hst : StatOk news base)
    (hdp : A.depth ≤ 350) (hup : A.units ≤ 150)
    (hR : ∀ v, (keysOf T).findSome? (valueAt kvs) = some v → ∀ base' h₀' h' tk own, Back w A₀ base h₀ L m loose mean mg mb outer news base' h₀' h' own → News h₀' L h' (own ++ news) → Q v { s with heap := h', toks := tk })
    (hE : (keysOf T).findSome? (valueAt kvs) = none → ∀ base' h₀' G h' e t tk tx own, Back w A₀ base h₀ L m loose mean mg mb outer news base' h₀' G own → RaisedS base' G (env :: outer) e (.type "KeyError") t [.str (pathOf T) tx] (own ++ news) h' → G.UpToSlots h' → E (.ref e) { s with heap := h', toks := tk }) :
    wpAny (model PySem.Challenge.rw_in0087_01.row.prog w) A (call (.ref 63) [.ref mgr, page, obj] []) Q E s := by
  have kX0 := C.X
  revert kX0
  k_fill
  intro kX0
  obtain ⟨dm, t1, t2, hm1, hm2⟩ := hM
  refine' enterT C N ?k6 ?k7 ?k8 ?k9 ?c1 ?c2 ?c3 ?c4 ?_
  case k6 => k_dflt k_is
  case k7 => k_dflt k_is
  case k8 => exact BindsTo.of_eq rfl
  case k9 => exact locs rfl
  case c1 => exact rfl
  case c2 => exact rfl
  case c3 => exact rfl
  case c4 => decide
  clear kX0
  have C0 := C
  obtain ⟨B, F, X, TT, hA, hf, hke, hroom, hun, hh, hc90, XB, TB⟩ := C
  obtain ⟨hd', dep, fr, gs, un⟩ := A
  dsimp only at hA hroom hun hh hdp hup
  subst hA
  subst hh
  clear F TT X
  intro g' L' h' FG' F' N' B' X' T' l1
  try dsimp only
  try k_fold
  k_steps
  rename Fr g' L' _ _ => F1
  rename News g' L' _ _ => N1
  refine call_type_of (hobj _ _ _ N1) (kind_nb T hT) ?_
  refine mro_step B' F1 N1 XB TB hT hst ?_
  intro base2 g2 h2 tk2 a own2 TB2 TG2 B2 XB2 TT2 F2 N2 ha hab hst2
  have X2 := XB2.keeps B2.stays
  have T2 := TT2.keeps B2.stays
  clear F1 N1
  refine wpAny_mono (Q := fun it s₂ => LoopAtV PR w _ g2 _ _ _ _ _ it s₂) ?loop (fun it s₂ h => ⟨g2, h⟩) fun _ _ e => e
  case loop =>
    refine tup_iter (vs := (chainOf T).map Value.type) (fun i m' => ∃ u fp, m' = fMap u fp mgr page obj ∧ (i = 0 → fp = .none) ∧ (∀ j < i, ∀ n, (chainOf T)[j]? = some n → valueAt kvs (MK.str (pathOf n)) = none ∧ valueAt kvs (MK.str (Str.ofString n)) = none) ∧ (0 < i → ∃ n t, (chainOf T)[0]? = some n ∧ fp = .str (pathOf n) t)) rfl ha F2 N2 ?j0 ?turn ?done
    case j0 =>
      refine ⟨fun _ => none, .none, ?_, fun _ => rfl, fun j hj => absurd hj (Nat.not_lt_zero _), fun hj => absurd hj (Nat.lt_irrefl _)⟩
      funext y
      unfold fMap
      by_cases h1 : y = Str.ofString "typ"
      · subst h1; rfl
      by_cases h2 : y = Str.ofString "qname"
      · subst h2; rfl
      by_cases h3 : y = Str.ofString "modname"
      · subst h3; rfl
      by_cases h4 : y = Str.ofString "full_path"
      · subst h4; rfl
      by_cases h5 : y = Str.ofString "name"
      · subst h5; rfl
      by_cases h6 : y = Str.ofString "full_path_for_error"
      · subst h6; rfl
      by_cases h7 : y = Str.ofString "self"
      · subst h7; rfl
      by_cases h8 : y = Str.ofString "msg"
      · subst h8; rfl
      by_cases h9 : y = Str.ofString "obj"
      · subst h9; rfl
      simp only [if_neg h1, if_neg h2, if_neg h3, if_neg h4, if_neg h5, if_neg h6, if_neg h7, if_neg h8, if_neg h9]
      show List.lookup y [(Str.ofString "obj", obj), (Str.ofString "msg", page), (Str.ofString "self", Value.ref mgr)] = none
      simp only [List.lookup, beq_eq_false_iff_ne.mpr h7, beq_eq_false_iff_ne.mpr h8, beq_eq_false_iff_ne.mpr h9]
    case turn =>
      rintro i v m₁ h1 tk1 I oI hv ⟨u, fp, rfl, hJ0, hJ, hJ1⟩ hI F1 N1
      obtain ⟨n, hn, rfl⟩ : ∃ n, (chainOf T)[i]? = some n ∧ v = .type n := by
        rw [List.getElem?_map] at hv
        obtain ⟨n, h1, h2⟩ := Option.map_eq_some_iff.mp hv
        exact ⟨n, h1, h2.symm⟩
      have hnT : n ∈ tyNames := chain_ty T hT n (List.mem_of_getElem? hn)
      have F1' : Fr g2 L' h1 (fun y => if y = Str.ofString "typ" then some (Value.type n) else fMap u fp mgr page obj y) := F1
      unfold fMap at F1'
      clear F1 F2 N2
      have hret : ∀ (v : Value) (hx : Heap) (tkx : Nat) (mx : Str → Option Value) (nx : List (Addr × Obj)), Fr g2 L' hx mx → News g2 L' hx nx → (∀ p ∈ own2 ++ news, p ∈ nx) → (keysOf T).findSome? (valueAt kvs) = some v → Q v { s with heap := hx, toks := tkx } := by
        intro v hx tkx mx nx Fx Nx hsx e
        obtain ⟨h₀', K0⟩ := Back.up C0 FG' (newsI := news) (G := hx) (mi := mx) ⟨TB2, TG2.mono (fun _ hb => nomatch hb), B2, XB2, TT2, Fx, hab, hst2⟩ hab (fun _ hp => hp)
        obtain ⟨Fz, Nz⟩ := K0.led Fx Nx hsx
        exact hR v e base2 h₀' hx tkx own2 ⟨K0.TB, K0.T0, K0.B, K0.XB, K0.TT, Fz, K0.ab, K0.st⟩ Nz
      rcases Nat.eq_zero_or_pos i with hi | hi
      · obtain rfl := hJ0 hi
        k_steps
        · rename (valueAt kvs (MK.str (pathOf n))).isSome = true => hq
          rename Fr g2 L' _ _ => F9
          rename News g2 L' _ _ => N9
          exact hret _ _ _ _ _ F9 N9 (by intro p hp; k_mem) (find_path hn hJ (.inl (some_of hq)))
        · rename (valueAt kvs (MK.str (pathOf n))).isSome = false => q1
          rename (valueAt kvs (MK.str (Str.ofString n))).isSome = true => hq
          rename Fr g2 L' _ _ => F9
          rename News g2 L' _ _ => N9
          exact hret _ _ _ _ _ F9 N9 (by intro p hp; k_mem) (find_path hn hJ (.inr ⟨none_of q1, some_of hq⟩))
        · rename (valueAt kvs (MK.str (pathOf n))).isSome = false => q1
          rename (valueAt kvs (MK.str (Str.ofString n))).isSome = false => q2
          rename Fr g2 L' _ _ => F9
          rename News g2 L' _ _ => N9
          refine ⟨_, _, _, rfl, F9, news_sub N9 (by intro p hp; rcases List.mem_cons.mp hp with rfl | hp <;> k_mem), _, .str (pathOf n) _, fMap_of rfl rfl rfl rfl (fun y a1 a2 a3 a4 a5 a6 a7 a8 a9 => by simp only [if_neg a1, if_neg a2, if_neg a3, if_neg a4, if_neg a5, if_neg a6, if_neg a7, if_neg a8, if_neg a9]), fun z => absurd z (Nat.succ_ne_zero _), fun j hj n' hn' => ?_, fun _ => ⟨n, _, (hi ▸ hn), rfl⟩⟩
          rcases Nat.lt_or_ge j i with hji | hji
          · exact hJ j hji n' hn'
          · obtain rfl : j = i := by omega
            rw [hn] at hn'
            cases hn'
            exact ⟨none_of q1, none_of q2⟩
      · obtain ⟨n0, t0, hn0, rfl⟩ := hJ1 hi
        k_steps
        · rename (valueAt kvs (MK.str (pathOf n))).isSome = true => hq
          rename Fr g2 L' _ _ => F9
          rename News g2 L' _ _ => N9
          exact hret _ _ _ _ _ F9 N9 (by intro p hp; k_mem) (find_path hn hJ (.inl (some_of hq)))
        · rename (valueAt kvs (MK.str (pathOf n))).isSome = false => q1
          rename (valueAt kvs (MK.str (Str.ofString n))).isSome = true => hq
          rename Fr g2 L' _ _ => F9
          rename News g2 L' _ _ => N9
          exact hret _ _ _ _ _ F9 N9 (by intro p hp; k_mem) (find_path hn hJ (.inr ⟨none_of q1, some_of hq⟩))
        · rename (valueAt kvs (MK.str (pathOf n))).isSome = false => q1
          rename (valueAt kvs (MK.str (Str.ofString n))).isSome = false => q2
          rename Fr g2 L' _ _ => F9
          rename News g2 L' _ _ => N9
          refine ⟨_, _, _, rfl, F9, news_sub N9 (by intro p hp; rcases List.mem_cons.mp hp with rfl | hp <;> k_mem), _, .str (pathOf n0) _, fMap_of rfl rfl rfl rfl (fun y a1 a2 a3 a4 a5 a6 a7 a8 a9 => by simp only [if_neg a1, if_neg a2, if_neg a3, if_neg a4, if_neg a5, if_neg a6, if_neg a7, if_neg a8, if_neg a9]), fun z => absurd z (Nat.succ_ne_zero _), fun j hj n' hn' => ?_, fun _ => ⟨n0, _, hn0, rfl⟩⟩
          rcases Nat.lt_or_ge j i with hji | hji
          · exact hJ j hji n' hn'
          · obtain rfl : j = i := by omega
            rw [hn] at hn'
            cases hn'
            exact ⟨none_of q1, none_of q2⟩
    case done =>
      rintro m₁ h1 tk1 ⟨u, fp, rfl, hJ0, hJ, hJ1⟩ F1 N1
      have hlen : 0 < (List.map Value.type (chainOf T)).length := by
        rw [List.length_map]
        exact (List.getElem?_eq_some_iff.mp (chain_head T hT)).1
      obtain ⟨n0, t0, hn0, rfl⟩ := hJ1 hlen
      rw [chain_head T hT] at hn0
      cases hn0
      have hall : ∀ n ∈ chainOf T, valueAt kvs (MK.str (pathOf n)) = none ∧ valueAt kvs (MK.str (Str.ofString n)) = none := fun n hn => by
        obtain ⟨j, hj, rfl⟩ := List.getElem_of_mem hn
        exact hJ j (by rw [List.length_map]; exact hj) _ (List.getElem?_eq_getElem hj)
      have F1' : Fr g2 L' h1 (fMap u (.str (pathOf T) t0) mgr page obj) := F1
      unfold fMap at F1'
      clear F1 F2 N2
      k_steps
      · rename (valueAt kvs MK.none).isSome = true => hq
        rename Fr g2 L' _ _ => F9
        rename News g2 L' _ _ => N9
        obtain ⟨h₀', K0⟩ := Back.up C0 FG' (newsI := news) (G := _) (mi := _) ⟨TB2, TG2.mono (fun _ hb => nomatch hb), B2, XB2, TT2, F9, hab, hst2⟩ hab (fun _ hp => hp)
        obtain ⟨Fz, Nz⟩ := K0.led F9 N9 (fun _ hp => hp)
        exact hR _ (by unfold keysOf; rw [find_none hall]; exact find_one hq) base2 h₀' _ _ own2 ⟨K0.TB, K0.T0, K0.B, K0.XB, K0.TT, Fz, K0.ab, K0.st⟩ Nz
      · rename (valueAt kvs MK.none).isSome = false => hq
        rename Fr g2 L' _ _ => F9
        rename News g2 L' _ _ => N9
        unfold Halt
        refine' Raise_X (he := by rfl) excClass_KeyError raise_KeyError rfl ?hx
        case hx =>
          refine' name_B F9 ?k1 ?k2 ?k3 ?k4 ?k5 ?_
          case k1 => k_asm
          case k2 => k_asm
          case k3 => k_dflt k_is
          case k4 => exact ExcClass.boot excClass_KeyError
          case k5 => decide
          refine ⟨rfl, ?_⟩
          k_steps
          intro h3 e hx
          refine leave_raiseS B2 (Heap.MadeExc.of hx) F9 N9 fun h4 t S4 _ U4 => ?_
          obtain ⟨h₀', K0⟩ := Back.up C0 FG' (newsI := news) (G := _) (mi := _) ⟨TB2, TG2.mono (fun _ hb => nomatch hb), B2, XB2, TT2, F9, hab, hst2⟩ hab (fun _ hp => hp)
          exact hE (by unfold keysOf; rw [find_none hall]; simp only [List.findSome?_cons, List.findSome?_nil, none_of hq]) base2 h₀' g2 h4 e t _ t0 own2 K0 S4 U4
end
end

-- L_set
section
theorem words_L_set : True := by
  w_top off
  k_with_none
  (k_with "ne" => with_reducible first | exact Nat.ne_of_lt (‹@LT.lt _ _ _ _ ∧ _›).1 | exact Nat.ne_of_gt (‹@LT.lt _ _ _ _ ∧ _›).1 | exact Nat.ne_of_lt (‹_ ∧ @LT.lt _ _ _ _ ∧ _›).2.1 | exact Nat.ne_of_gt (‹_ ∧ @LT.lt _ _ _ _ ∧ _›).2.1 | exact Nat.ne_of_lt (‹_ ∧ _ ∧ @LT.lt _ _ _ _ ∧ _›).2.2.1 | exact Nat.ne_of_gt (‹_ ∧ _ ∧ @LT.lt _ _ _ _ ∧ _›).2.2.1 | exact Nat.ne_of_lt (‹_ ∧ _ ∧ _ ∧ @LT.lt _ _ _ _ ∧ _›).2.2.2.1 | exact Nat.ne_of_gt (‹_ ∧ _ ∧ _ ∧ @LT.lt _ _ _ _ ∧ _›).2.2.2.1 | exact Nat.ne_of_lt (‹_ ∧ _ ∧ _ ∧ _ ∧ @LT.lt _ _ _ _ ∧ _›).2.2.2.2.1 | exact Nat.ne_of_gt (‹_ ∧ _ ∧ _ ∧ _ ∧ @LT.lt _ _ _ _ ∧ _›).2.2.2.2.1 | exact Nat.ne_of_lt (‹_ ∧ _ ∧ _ ∧ _ ∧ _ ∧ @LT.lt _ _ _ _ ∧ _›).2.2.2.2.2.1 | exact Nat.ne_of_gt (‹_ ∧ _ ∧ _ ∧ _ ∧ _ ∧ @LT.lt _ _ _ _ ∧ _›).2.2.2.2.2.1 | exact Nat.ne_of_lt (‹_ ∧ _ ∧ _ ∧ _ ∧ _ ∧ _ ∧ @LT.lt _ _ _ _ ∧ _›).2.2.2.2.2.2.1 | exact Nat.ne_of_gt (‹_ ∧ _ ∧ _ ∧ _ ∧ _ ∧ _ ∧ @LT.lt _ _ _ _ ∧ _›).2.2.2.2.2.2.1 | exact Nat.ne_of_lt (‹_ ∧ _ ∧ _ ∧ _ ∧ _ ∧ _ ∧ _ ∧ @LT.lt _ _ _ _ ∧ _›).2.2.2.2.2.2.2.1 | exact Nat.ne_of_gt (‹_ ∧ _ ∧ _ ∧ _ ∧ _ ∧ _ ∧ _ ∧ @LT.lt _ _ _ _ ∧ _›).2.2.2.2.2.2.2.1 | exact Nat.ne_of_lt (‹_ ∧ _ ∧ _ ∧ _ ∧ _ ∧ _ ∧ _ ∧ _ ∧ @LT.lt _ _ _ _ ∧ _›).2.2.2.2.2.2.2.2.1 | exact Nat.ne_of_gt (‹_ ∧ _ ∧ _ ∧ _ ∧ _ ∧ _ ∧ _ ∧ _ ∧ @LT.lt _ _ _ _ ∧ _›).2.2.2.2.2.2.2.2.1 | exact Nat.ne_of_lt (‹_ ∧ _ ∧ _ ∧ _ ∧ _ ∧ _ ∧ _ ∧ _ ∧ _ ∧ @LT.lt _ _ _ _ ∧ _›).2.2.2.2.2.2.2.2.2.1 | exact Nat.ne_of_gt (‹_ ∧ _ ∧ _ ∧ _ ∧ _ ∧ _ ∧ _ ∧ _ ∧ _ ∧ @LT.lt _ _ _ _ ∧ _›).2.2.2.2.2.2.2.2.2.1 | exact Nat.ne_of_lt (‹_ ∧ _ ∧ _ ∧ _ ∧ _ ∧ _ ∧ _ ∧ _ ∧ _ ∧ _ ∧ @LT.lt _ _ _ _ ∧ _›).2.2.2.2.2.2.2.2.2.2.1 | exact Nat.ne_of_gt (‹_ ∧ _ ∧ _ ∧ _ ∧ _ ∧ _ ∧ _ ∧ _ ∧ _ ∧ _ ∧ @LT.lt _ _ _ _ ∧ _›).2.2.2.2.2.2.2.2.2.2.1 | exact Nat.ne_of_lt (‹_ ∧ _ ∧ _ ∧ _ ∧ _ ∧ _ ∧ _ ∧ _ ∧ _ ∧ _ ∧ _ ∧ @LT.lt _ _ _ _ ∧ _›).2.2.2.2.2.2.2.2.2.2.2.1 | exact Nat.ne_of_gt (‹_ ∧ _ ∧ _ ∧ _ ∧ _ ∧ _ ∧ _ ∧ _ ∧ _ ∧ _ ∧ _ ∧ @LT.lt _ _ _ _ ∧ _›).2.2.2.2.2.2.2.2.2.2.2.1 | exact Nat.ne_of_lt (‹_ ∧ _ ∧ _ ∧ _ ∧ _ ∧ _ ∧ _ ∧ _ ∧ _ ∧ _ ∧ _ ∧ _ ∧ @LT.lt _ _ _ _ ∧ _›).2.2.2.2.2.2.2.2.2.2.2.2.1 | exact Nat.ne_of_gt (‹_ ∧ _ ∧ _ ∧ _ ∧ _ ∧ _ ∧ _ ∧ _ ∧ _ ∧ _ ∧ _ ∧ _ ∧ @LT.lt _ _ _ _ ∧ _›).2.2.2.2.2.2.2.2.2.2.2.2.1 | exact Nat.ne_of_lt (‹_ ∧ _ ∧ _ ∧ _ ∧ _ ∧ _ ∧ _ ∧ _ ∧ _ ∧ _ ∧ _ ∧ _ ∧ _ ∧ @LT.lt _ _ _ _ ∧ _›).2.2.2.2.2.2.2.2.2.2.2.2.2.1 | exact Nat.ne_of_gt (‹_ ∧ _ ∧ _ ∧ _ ∧ _ ∧ _ ∧ _ ∧ _ ∧ _ ∧ _ ∧ _ ∧ _ ∧ _ ∧ @LT.lt _ _ _ _ ∧ _›).2.2.2.2.2.2.2.2.2.2.2.2.2.1)
  (k_with "adr" => (repeat (first | exact List.Mem.head _ | refine List.Mem.tail _ ?_)))
  (k_with "mine cx" => exact ⟨by assumption, by assumption, by assumption, by assumption, rfl, rfl, rfl, by (first | exact Nat.le_trans (Nat.succ_le_succ (show _ ≤ 330 by assumption)) (by decide) | exact Nat.le_trans (Nat.succ_le_succ (show _ ≤ 340 by assumption)) (by decide) | exact Nat.le_trans (Nat.succ_le_succ (show _ ≤ 345 by assumption)) (by decide) | exact Nat.le_trans (Nat.succ_le_succ (show _ ≤ 350 by assumption)) (by decide) | (simp only [depth_deeper]; omega)), by (first | exact Nat.le_trans (Nat.add_le_add_right (show _ ≤ 100 by assumption) 3) (by decide) | exact Nat.le_trans (Nat.add_le_add_right (show _ ≤ 130 by assumption) 3) (by decide) | exact Nat.le_trans (Nat.add_le_add_right (show _ ≤ 140 by assumption) 3) (by decide) | exact Nat.le_trans (Nat.add_le_add_right (show _ ≤ 150 by assumption) 3) (by decide) | (simp only [units_deeper]; omega)), rfl, by assumption, by assumption, by assumption⟩)
  (k_with "kind k_mem" => first | assumption | (refine List.mem_append_left _ ?_; k_mem) | (refine List.mem_append_right _ ?_; k_mem))
  (k_with "kind k_room" => (show _ < _; simp only [depth_under_make, depth_under_kw, depth_in1, depth_deeper, depth_caller, recursionLimit]; omega))
  (k_with "StarOf ref" => (k_here; k_dflt (refine' star_seq ?w63k1 ?w63k2 ?w63m ?w63c ?w63d ?w63T ?w63e ?w63z ?_; (case w63k1 => k_asm); (case w63k2 => k_asm); (case w63m => k_mem); (case w63c => exact rfl); (case w63d => exact rfl); (case w63T => exact .inr rfl); (case w63e => exact rfl); (case w63z => exact PsOk.size (by assumption)); k_whole); intro _ _ _))
  (k_with "exec Raise some none" => (refine Halt.to ?_))
  (k_with "callWith ref nil" => (k_here; (try dsimp only); (k_dflt (refine' callWith_F0 (PageFn.fnAt ?w65N ?w65hf ?w65hs) ?_; (case w65hf => with_reducible assumption); (case w65N => k_asm); (case w65hs => (intro _ _; k_mem))))))
  (k_with "call ref" => (k_here; (show wpAny _ _ (call (Value.ref _) [] []) _ _ _); (first
  | (refine' page_main ?w66C ?w66N (PageFn.mono ?w66p ?w66s) ?w66t ?w66v ?w66x ?w66m ?_; (case w66p => assumption); (case w66C => walk_at "mine cx"); (case w66N => k_asm); (case w66s => (intro _ _; k_mem)); (case w66t => k_mem); (case w66v => assumption); (case w66x => assumption); (case w66m => assumption); intro _ _ _ _ _)
  | (refine Halt.to ?_))))
  (k_with "getMethod ref" => (k_here; k_dflt (refine' kmu_own ?w67k1 ?w67k2 ?w67k3 ?w67k4 ?w67k5 ?_; (case w67k1 => k_asm); (case w67k2 => k_asm); (case w67k3 => k_inst); (case w67k4 => k_is); (case w67k5 => k_is); k_whole)))
  (k_with "callWith ref nil" => ((with_reducible show wpAny _ _ (callWith _ (Value.ref _) [] (backTo _ (starEach (_ :: _) _)) _) _ _ _); refine Halt.to ?_))
  (k_with "call ref" => (k_here; (with_reducible show wpAny _ _ (call (Value.ref 63) _ _) _ _ _); refine Halt.to ?_))
  trivial
set_option maxHeartbeats 2000000
section
variable {w : World} {A A₀ : Around} {E : Value → Shared → Prop} {s : Shared} {h₀ base : Heap} {L : Addr} {m mg mb : Str → Option Value} {news : List (Addr × Obj)} {loose : List Str} {mean : ExcName → Option Value} {env : Env} {outer : List Env}

theorem set_content_ok {mgr dG dS page told types : Addr} {obj : Value} {T : String} {tl : List Value} {nn nt : Nat} {rest : List (Addr × Obj)} {oS : Obj} {its : Array Value} {kvs : List (MK × Value)} {x mx : Str} {rx : List Str} {tx : Tok} {ps : List Value} {kws : List (Str × Value)} {Q : Value → Shared → Prop}
    (C : Cx w A₀ A base h₀ s.heap L m topProg loose mean mg mb env outer) (N : News h₀ L s.heap ((told, W.listOf tl.toArray nn) :: rest)) (hoff : ∀ p ∈ rest, p.1 ≠ told)
    (hM : MgrAt w rest mgr dG dS) (hP : PageAt w rest page told types) (hS : (dS, oS) ∈ rest) (hds : (dS == sysModules) = false) (hd : oS.IsDictOf (mixKind PR w) kvs)
    (ht : (types, W.listOf its nt) ∈ rest) (hv : its.back? = some (.str x tx)) (hx : x.length ≤ 1000) (hm : Txt.split x (Str.ofString "/") = mx :: rx)
    (hps : PsOk ps) (hps' : PsOk (obj :: ps)) (hk : KwOk kws) (hsz : tl.length ≤ 900) (hdp : A.depth ≤ 345) (hup : A.units ≤ 140)
    (hT : T ∈ kindNames) (hobj : ∀ (g : Heap) (L : Addr) (s : Shared), News g L s.heap rest → s.TypeIs obj T) (hty : ∀ n, valueAt kvs (MK.ty n) = none) (hst : StatOk rest base)
    (hkv : ∀ k v, valueAt kvs k = some v → ∃ f n, v = .ref f ∧ HandlerAt w rest told f n)
    (hR : mx ≠ Str.ofString "multipart" → ∀ f n, (keysOf T).findSome? (valueAt kvs) = some (.ref f) → HandlerAt w rest told f n → ∀ base' h₀' h' tk own c d t oD tn tc nn', Back w A₀ base h₀ L m loose mean mg mb outer ((told, W.listOf tl.toArray nn) :: rest) base' h₀' h' own →
      News h₀' L h' ((t, ({ cls := .type "tuple", data := .seq #[.int n tn, .ref page, .ref c, .ref d] } : Obj)) :: (d, oD) :: (c, ({ cls := .type "tuple", data := .seq (obj :: ps).toArray } : Obj)) :: (told, W.listOf (tl ++ [Value.str (Str.ofString "cleared") tc] ++ [Value.ref t]).toArray nn') :: (own ++ rest)) →
      oD.IsDictOf (strKind PR w) kws → (d == sysModules) = false → (∀ p ∈ (told, W.listOf tl.toArray nn) :: (own ++ rest), @LT.lt Nat _ p.1 c) → @LT.lt Nat _ c d → @LT.lt Nat _ d t → Q .none { s with heap := h', toks := tk })
    (hE : ∀ X y, (mx = Str.ofString "multipart" ∧ X = "TypeError" ∧ y = Str.ofString "set_content not valid on multipart" ∨ mx ≠ Str.ofString "multipart" ∧ (keysOf T).findSome? (valueAt kvs) = none ∧ X = "KeyError" ∧ y = pathOf T) → ∀ base' h₀' G h' e t tk tx own, Back w A₀ base h₀ L m loose mean mg mb outer ((told, W.listOf tl.toArray nn) :: rest) base' h₀' G own →
      RaisedS base' G (env :: outer) e (.type X) t [.str y tx] (own ++ (told, W.listOf tl.toArray nn) :: rest) h' → G.UpToSlots h' → E (.ref e) { s with heap := h', toks := tk }) :
    codeAny (model PySem.Challenge.rw_in0087_01.row.prog w) A (.call (.ref 56) ⟨.ref mgr :: .ref page :: obj :: ps, kws⟩) (fun r s' => match r with | .ok (.ret v) => Q v s' | .ok _ => False | .error e => E e s') s := by
  have kX0 := C.X
  revert kX0
  k_fill
  intro kX0
  have hM0 := hM
  obtain ⟨dm, t1, t2, hm1, hm2⟩ := hM
  obtain ⟨dp, e1, e2, f1, f2, f3, u1, u2, u3, u4, u5, hp1, hp2, hp3, hp4, hp5⟩ := hP
  refine' enterVTT (ex := kws) (vs := ps) C N ?k6 ?k7 ?hb ?hloc ?c1 ?c2 ?c3 ?c4 ?_
  case k6 => k_dflt k_is
  case k7 => k_dflt k_is
  case hb => intro A' E' Q' hQ; exact bind3 rfl rfl hps hk C.F N C.T.nolimit hQ
  case hloc => exact fun C D => locs rfl
  case c1 => exact rfl
  case c2 => exact rfl
  case c3 => exact rfl
  case c4 => decide
  clear kX0
  have C0 := C
  obtain ⟨B, F, X, TT, hA, hf, hke, hroom, hun, hh, hc90, XB, TB⟩ := C
  obtain ⟨hd', dep, fr, gs, un⟩ := A
  dsimp only at hA hroom hun hh hdp hup
  subst hA
  subst hh
  clear F TT X
  intro C D oD g' L' h' tk l1 l2 hs hoD FG' F' N' B' X' T'
  have lt := l1 _ (.head _)
  try dsimp only
  try k_fold
  k_steps
  · rename (_ == _) = true => hmx
    have hmx' : mx = Str.ofString "multipart" := by simpa using hmx
    rename Fr g' L' _ _ => F1
    rename News g' L' _ _ => N1
    unfold Halt
    refine' Raise_X (he := by rfl) excClass_TypeError raise_TypeError rfl ?hx
    case hx =>
      refine' name_B F1 ?k1 ?k2 ?k3 ?k4 ?k5 ?_
      case k1 => k_asm
      case k2 => k_asm
      case k3 => k_dflt k_is
      case k4 => exact ExcClass.boot excClass_TypeError
      case k5 => decide
      refine ⟨rfl, ?_⟩
      k_steps
      intro h2 e hx
      refine leave_raiseS B' (Heap.MadeExc.of hx) F1 (news_sub N1 fun p hp => .tail _ (.tail _ hp)) fun h3 t S3 _ U3 => ?_
      exact hE "TypeError" (Str.ofString "set_content not valid on multipart") (.inl ⟨hmx', rfl, rfl⟩) base h₀ g' h3 e t _ _ [] (Back.refl C0 FG' (hst.mono fun p hp => .tail _ hp)) S3 U3
  · rename (_ == _) = false => hmx
    have hmx' : mx ≠ Str.ofString "multipart" := by simpa using hmx
    rename Fr g' L' _ _ => F1
    rename News g' L' _ _ => N1
    unfold Halt
    refine' find_ok (T := T) (kvs := kvs) (dG := dG) (dS := dS) (oS := oS) ?C N1 (hM0.mono ?m1) ?m2 hds hd hT (fun g L s Nx => hobj g L s (news_sub Nx ?m3)) hty (hst.mono ?m4) ?dp ?up ?R ?E
    case C => walk_at "mine cx"
    case m1 => intro p hp; exact .tail _ (.tail _ (.tail _ hp))
    case m2 => exact .tail _ (.tail _ (.tail _ hS))
    case m3 => intro p hp; exact .tail _ (.tail _ (.tail _ hp))
    case m4 => intro p hp; exact .tail _ (.tail _ (.tail _ hp))
    case dp => first | exact Nat.le_trans (Nat.succ_le_succ hdp) (by decide) | (simp only [depth_deeper]; omega)
    case up => first | exact Nat.le_trans (Nat.add_le_add_right hup 3) (by decide) | (simp only [units_deeper]; omega)
    case E =>
      intro ev base2 h₀2 G2 h2 e t tk2 tx2 own2 K2 R2 U2
      have K2' := K2
      obtain ⟨TB2, T02, B2, XB2, TT2, F2, ab2, st2⟩ := K2'
      refine leave_onS B2 F2 R2 U2 fun h3 R3 _ U3 => ?_
      have hab3 : Above (own2 ++ [(D, oD), (C, ({ cls := .type "tuple", data := .seq ps.toArray } : Obj))]) ((told, W.listOf tl.toArray nn) :: rest) := by
        intro p hp q hq
        rcases List.mem_append.mp hp with hp | hp
        · exact ab2 p hp q (.tail _ (.tail _ hq))
        · simp only [List.mem_cons, List.not_mem_nil, or_false] at hp
          rcases hp with rfl | rfl
          · exact Nat.lt_trans (l1 q hq) l2
          · exact l1 q hq
      obtain ⟨h₀', K0⟩ := Back.up C0 FG' ⟨TB2, T02, B2, XB2, TT2, F2, ab2, st2⟩ hab3 (fun p hp => by simpa using hp)
      exact hE "KeyError" (pathOf T) (.inr ⟨hmx', ev, rfl, rfl⟩) base2 h₀' h₀2 h3 e t _ tx2 _ K0 (raised_sub R3 fun p hp => by simpa using hp) U3
    case R =>
      intro v ev base2 g2 h2 tk2 own2 K2 N2
      have hab3 : Above (own2 ++ [(D, oD), (C, ({ cls := .type "tuple", data := .seq ps.toArray } : Obj))]) ((told, W.listOf tl.toArray nn) :: rest) := by
        intro p hp q hq
        rcases List.mem_append.mp hp with hp | hp
        · exact K2.ab p hp q (.tail _ (.tail _ hq))
        · simp only [List.mem_cons, List.not_mem_nil, or_false] at hp
          rcases hp with rfl | rfl
          · exact Nat.lt_trans (l1 q hq) l2
          · exact l1 q hq
      obtain ⟨k0, _, ev0⟩ := List.exists_of_findSome?_eq_some ev
      obtain ⟨f, n, rfl, hH⟩ := hkv _ _ ev0
      obtain ⟨TB2, T02, B2, XB2, TT2, F2, ab2, st2⟩ := K2
      have X2 := XB2.keeps B2.stays
      have T2 := TT2.keeps B2.stays
      have hc2 : CodeHd base2 90 86 := codeHd_turn hc90 TB2 (let ⟨mc, h1, _⟩ := TB.nolimit; ⟨mc, h1⟩)
      clear F1 N1 hM0 hc90 XB TB T' X' B'
      k_steps
      rename Fr g2 L' _ _ => F3
      rename News g2 L' _ _ => N3
      unfold Halt
      have hoff' : ∀ p ∈ own2 ++ ((D, oD) :: (C, ({ cls := .type "tuple", data := .seq ps.toArray } : Obj)) :: rest), p.1 ≠ told := by
        intro p hp
        rcases List.mem_append.mp hp with hp | hp
        · exact Nat.ne_of_gt (ab2 p hp _ (.tail _ (.tail _ (.head _))))
        · rcases List.mem_cons.mp hp with rfl | hp
          · exact Nat.ne_of_gt (Nat.lt_trans lt l2)
          · rcases List.mem_cons.mp hp with rfl | hp
            · exact Nat.ne_of_gt lt
            · exact hoff p hp
      have sub' : ∀ p ∈ rest, p ∈ own2 ++ ((D, oD) :: (C, ({ cls := .type "tuple", data := .seq ps.toArray } : Obj)) :: rest) := fun p hp => List.mem_append_right _ (.tail _ (.tail _ hp))
      have N4 := news_sub (b := (told, W.listOf tl.toArray nn) :: (own2 ++ ((D, oD) :: (C, ({ cls := .type "tuple", data := .seq ps.toArray } : Obj)) :: rest))) N3 (by
        intro p hp
        rcases List.mem_cons.mp hp with rfl | hp
        · exact List.mem_append_right _ (.tail _ (.tail _ (.head _)))
        · rcases List.mem_append.mp hp with hp | hp
          · exact List.mem_append_left _ hp
          · refine List.mem_append_right _ ?_
            rcases List.mem_cons.mp hp with rfl | hp
            · exact .head _
            · rcases List.mem_cons.mp hp with rfl | hp
              · exact .tail _ (.head _)
              · exact .tail _ (.tail _ (.tail _ hp)))
      refine' page_clear ?C N4 hoff' (hp5.mono sub') (by omega) ?_
      case C => walk_at "mine cx"
      intro h5 tk5 tc nn5 F5 N5
      clear F3 N3 N4
      k_steps
      unfold Halt
      refine' callStar ?hl ?_
      case hl => intro y hy; cases hy
      k_steps
      rename Fr g2 L' _ _ => F6
      rename News g2 L' _ _ => N6
      refine' kwRead_ok F6 N6 ?m hoD hk hs ?x ?_
      case m => k_mem
      case x => intro E' Q' s' Fs hq; k_steps; exact hq
      intro h7 F7 N7
      refine ⟨HandlerAt.fnAt N7 hH (by intro _ _; k_mem), ?_⟩
      rw [List.append_nil]
      refine' handler_call ?C N7 hoff' (hH.mono sub') hps' hk ?sz ?_
      case C => walk_at "mine cx"
      case sz => rw [List.length_append]; simp only [List.length_cons, List.length_nil]; omega
      intro h8 tk8 c d t oD8 tn nn8 F8 N8 hoD8 hs8 l3 l4 l5
      k_steps
      obtain ⟨h₀', K0⟩ := Back.up C0 FG' ⟨TB2, T02, B2, XB2, TT2, F8, ab2, st2⟩ hab3 (fun p hp => by simpa using hp)
      have sub2 : ∀ p ∈ (own2 ++ [(D, oD), (C, ({ cls := .type "tuple", data := .seq ps.toArray } : Obj))]) ++ rest, p ∈ own2 ++ ((D, oD) :: (C, ({ cls := .type "tuple", data := .seq ps.toArray } : Obj)) :: rest) := fun p hp => by simpa using hp
      obtain ⟨Fz, Nz⟩ := K0.led F8 N8 (ny := (t, ({ cls := .type "tuple", data := .seq #[.int n tn, .ref page, .ref c, .ref d] } : Obj)) :: (d, oD8) :: (c, ({ cls := .type "tuple", data := .seq (obj :: ps).toArray } : Obj)) :: (told, W.listOf (tl ++ [Value.str (Str.ofString "cleared") tc] ++ [Value.ref t]).toArray nn8) :: ((own2 ++ [(D, oD), (C, ({ cls := .type "tuple", data := .seq ps.toArray } : Obj))]) ++ rest)) (by
        intro p hp
        rcases List.mem_cons.mp hp with rfl | hp
        · exact .head _
        · rcases List.mem_cons.mp hp with rfl | hp
          · exact .tail _ (.head _)
          · rcases List.mem_cons.mp hp with rfl | hp
            · exact .tail _ (.tail _ (.head _))
            · rcases List.mem_cons.mp hp with rfl | hp
              · exact .tail _ (.tail _ (.tail _ (.head _)))
              · exact .tail _ (.tail _ (.tail _ (.tail _ (sub2 p hp)))))
      refine hR hmx' f n ev hH base2 h₀' h8 _ _ c d t oD8 tn tc nn8 ⟨K0.TB, K0.T0, K0.B, K0.XB, K0.TT, Fz, K0.ab, K0.st⟩ Nz hoD8 hs8 ?_ l4 l5
      intro p hp
      rcases List.mem_cons.mp hp with rfl | hp
      · have := l3 _ (List.Mem.head _)
        exact this
      · exact l3 p (.tail _ (sub2 p hp))
end
end

-- L_get
section
theorem words_L_get : True := by
  w_top off
  k_with_none
  (k_with "ne" => with_reducible first | exact Nat.ne_of_lt (‹@LT.lt _ _ _ _ ∧ _›).1 | exact Nat.ne_of_gt (‹@LT.lt _ _ _ _ ∧ _›).1 | exact Nat.ne_of_lt (‹_ ∧ @LT.lt _ _ _ _ ∧ _›).2.1 | exact Nat.ne_of_gt (‹_ ∧ @LT.lt _ _ _ _ ∧ _›).2.1 | exact Nat.ne_of_lt (‹_ ∧ _ ∧ @LT.lt _ _ _ _ ∧ _›).2.2.1 | exact Nat.ne_of_gt (‹_ ∧ _ ∧ @LT.lt _ _ _ _ ∧ _›).2.2.1 | exact Nat.ne_of_lt (‹_ ∧ _ ∧ _ ∧ @LT.lt _ _ _ _ ∧ _›).2.2.2.1 | exact Nat.ne_of_gt (‹_ ∧ _ ∧ _ ∧ @LT.lt _ _ _ _ ∧ _›).2.2.2.1 | exact Nat.ne_of_lt (‹_ ∧ _ ∧ _ ∧ _ ∧ @LT.lt _ _ _ _ ∧ _›).2.2.2.2.1 | exact Nat.ne_of_gt (‹_ ∧ _ ∧ _ ∧ _ ∧ @LT.lt _ _ _ _ ∧ _›).2.2.2.2.1 | exact Nat.ne_of_lt (‹_ ∧ _ ∧ _ ∧ _ ∧ _ ∧ @LT.lt _ _ _ _ ∧ _›).2.2.2.2.2.1 | exact Nat.ne_of_gt (‹_ ∧ _ ∧ _ ∧ _ ∧ _ ∧ @LT.lt _ _ _ _ ∧ _›).2.2.2.2.2.1 | exact Nat.ne_of_lt (‹_ ∧ _ ∧ _ ∧ _ ∧ _ ∧ _ ∧ @LT.lt _ _ _ _ ∧ _›).2.2.2.2.2.2.1 | exact Nat.ne_of_gt (‹_ ∧ _ ∧ _ ∧ _ ∧ _ ∧ _ ∧ @LT.lt _ _ _ _ ∧ _›).2.2.2.2.2.2.1 | exact Nat.ne_of_lt (‹_ ∧ _ ∧ _ ∧ _ ∧ _ ∧ _ ∧ _ ∧ @LT.lt _ _ _ _ ∧ _›).2.2.2.2.2.2.2.1 | exact Nat.ne_of_gt (‹_ ∧ _ ∧ _ ∧ _ ∧ _ ∧ _ ∧ _ ∧ @LT.lt _ _ _ _ ∧ _›).2.2.2.2.2.2.2.1 | exact Nat.ne_of_lt (‹_ ∧ _ ∧ _ ∧ _ ∧ _ ∧ _ ∧ _ ∧ _ ∧ @LT.lt _ _ _ _ ∧ _›).2.2.2.2.2.2.2.2.1 | exact Nat.ne_of_gt (‹_ ∧ _ ∧ _ ∧ _ ∧ _ ∧ _ ∧ _ ∧ _ ∧ @LT.lt _ _ _ _ ∧ _›).2.2.2.2.2.2.2.2.1 | exact Nat.ne_of_lt (‹_ ∧ _ ∧ _ ∧ _ ∧ _ ∧ _ ∧ _ ∧ _ ∧ _ ∧ @LT.lt _ _ _ _ ∧ _›).2.2.2.2.2.2.2.2.2.1 | exact Nat.ne_of_gt (‹_ ∧ _ ∧ _ ∧ _ ∧ _ ∧ _ ∧ _ ∧ _ ∧ _ ∧ @LT.lt _ _ _ _ ∧ _›).2.2.2.2.2.2.2.2.2.1 | exact Nat.ne_of_lt (‹_ ∧ _ ∧ _ ∧ _ ∧ _ ∧ _ ∧ _ ∧ _ ∧ _ ∧ _ ∧ @LT.lt _ _ _ _ ∧ _›).2.2.2.2.2.2.2.2.2.2.1 | exact Nat.ne_of_gt (‹_ ∧ _ ∧ _ ∧ _ ∧ _ ∧ _ ∧ _ ∧ _ ∧ _ ∧ _ ∧ @LT.lt _ _ _ _ ∧ _›).2.2.2.2.2.2.2.2.2.2.1 | exact Nat.ne_of_lt (‹_ ∧ _ ∧ _ ∧ _ ∧ _ ∧ _ ∧ _ ∧ _ ∧ _ ∧ _ ∧ _ ∧ @LT.lt _ _ _ _ ∧ _›).2.2.2.2.2.2.2.2.2.2.2.1 | exact Nat.ne_of_gt (‹_ ∧ _ ∧ _ ∧ _ ∧ _ ∧ _ ∧ _ ∧ _ ∧ _ ∧ _ ∧ _ ∧ @LT.lt _ _ _ _ ∧ _›).2.2.2.2.2.2.2.2.2.2.2.1 | exact Nat.ne_of_lt (‹_ ∧ _ ∧ _ ∧ _ ∧ _ ∧ _ ∧ _ ∧ _ ∧ _ ∧ _ ∧ _ ∧ _ ∧ @LT.lt _ _ _ _ ∧ _›).2.2.2.2.2.2.2.2.2.2.2.2.1 | exact Nat.ne_of_gt (‹_ ∧ _ ∧ _ ∧ _ ∧ _ ∧ _ ∧ _ ∧ _ ∧ _ ∧ _ ∧ _ ∧ _ ∧ @LT.lt _ _ _ _ ∧ _›).2.2.2.2.2.2.2.2.2.2.2.2.1 | exact Nat.ne_of_lt (‹_ ∧ _ ∧ _ ∧ _ ∧ _ ∧ _ ∧ _ ∧ _ ∧ _ ∧ _ ∧ _ ∧ _ ∧ _ ∧ @LT.lt _ _ _ _ ∧ _›).2.2.2.2.2.2.2.2.2.2.2.2.2.1 | exact Nat.ne_of_gt (‹_ ∧ _ ∧ _ ∧ _ ∧ _ ∧ _ ∧ _ ∧ _ ∧ _ ∧ _ ∧ _ ∧ _ ∧ _ ∧ @LT.lt _ _ _ _ ∧ _›).2.2.2.2.2.2.2.2.2.2.2.2.2.1)
  (k_with "adr" => (repeat (first | exact List.Mem.head _ | refine List.Mem.tail _ ?_)))
  (k_with "mine cx" => exact ⟨by assumption, by assumption, by assumption, by assumption, rfl, rfl, rfl, by (first | exact Nat.le_trans (Nat.succ_le_succ (show _ ≤ 330 by assumption)) (by decide) | exact Nat.le_trans (Nat.succ_le_succ (show _ ≤ 340 by assumption)) (by decide) | exact Nat.le_trans (Nat.succ_le_succ (show _ ≤ 345 by assumption)) (by decide) | exact Nat.le_trans (Nat.succ_le_succ (show _ ≤ 350 by assumption)) (by decide) | (simp only [depth_deeper]; omega)), by (first | exact Nat.le_trans (Nat.add_le_add_right (show _ ≤ 100 by assumption) 3) (by decide) | exact Nat.le_trans (Nat.add_le_add_right (show _ ≤ 130 by assumption) 3) (by decide) | exact Nat.le_trans (Nat.add_le_add_right (show _ ≤ 140 by assumption) 3) (by decide) | exact Nat.le_trans (Nat.add_le_add_right (show _ ≤ 150 by assumption) 3) (by decide) | (simp only [units_deeper]; omega)), rfl, by assumption, by assumption, by assumption⟩)
  (k_with "kind k_mem" => first | assumption | (refine List.mem_append_left _ ?_; k_mem) | (refine List.mem_append_right _ ?_; k_mem))
  (k_with "kind k_room" => (show _ < _; simp only [depth_under_make, depth_under_kw, depth_in1, depth_deeper, depth_caller, recursionLimit]; omega))
  (k_with "compareOp In" => (k_here; (refine' in_mix ?w75N ?w75m ?w75d ?w75s ?w75k ?_; (case w75N => k_asm); (case w75m => k_mem); (case w75d => assumption); (case w75s => assumption); (case w75k => first | exact mix_str _ _ | exact mix_none | assumption))))
  (k_with "subscriptTail" => (k_here; (refine' item_mix (hs := by with_unfolding_all rfl) ?w76N ?w76m ?w76d ?w76k ?w76v ?_; (case w76N => k_asm); (case w76m => k_mem); (case w76d => assumption); (case w76k => first | exact mix_str _ _ | exact mix_none | assumption); (case w76v => assumption))))
  (k_with "callWith ref nil" => (k_here; (try dsimp only); (k_dflt (refine' callWith_F0 (PageFn.fnAt ?w77N ?w77hf ?w77hs) ?_; (case w77hf => with_reducible assumption); (case w77N => k_asm); (case w77hs => (intro _ _; k_mem))))))
  (k_with "call ref" => (k_here; (show wpAny _ _ (call (Value.ref _) [] []) _ _ _); (first
  | (refine' page_type ?w78C ?w78N (PageFn.mono ?w78p ?w78s) ?w78t ?w78v ?_; (case w78p => assumption); (case w78C => walk_at "mine cx"); (case w78N => k_asm); (case w78s => (intro _ _; k_mem)); (case w78t => k_mem); (case w78v => assumption); intro _ _ _ _)
  | (refine' page_main ?w78C ?w78N (PageFn.mono ?w78p ?w78s) ?w78t ?w78v ?w78x ?w78m ?_; (case w78p => assumption); (case w78C => walk_at "mine cx"); (case w78N => k_asm); (case w78s => (intro _ _; k_mem)); (case w78t => k_mem); (case w78v => assumption); (case w78x => assumption); (case w78m => assumption); intro _ _ _ _ _))))
  (k_with "StarOf ref" => (k_here; k_dflt (refine' star_seq ?w79k1 ?w79k2 ?w79m ?w79c ?w79d ?w79T ?w79e ?w79z ?_; (case w79k1 => k_asm); (case w79k2 => k_asm); (case w79m => k_mem); (case w79c => exact rfl); (case w79d => exact rfl); (case w79T => exact .inr rfl); (case w79e => exact rfl); (case w79z => exact PsOk.size (by assumption)); k_whole); intro _ _ _))
  (k_with "getMethod ref" => (k_here; k_dflt (refine' kmu_own ?w80k1 ?w80k2 ?w80k3 ?w80k4 ?w80k5 ?_; (case w80k1 => k_asm); (case w80k2 => k_asm); (case w80k3 => k_inst); (case w80k4 => k_is); (case w80k5 => k_is); k_whole)))
  (k_with "eval Call Subscript cons cons" => (refine Halt.to ?_))
  (k_with "callWith ref nil" => ((with_reducible show wpAny _ _ (callWith _ (Value.ref _) [] (backTo _ (starEach (_ :: _) _)) _) _ _ _); refine Halt.to ?_))
  (k_with "exec Raise some none" => (refine Halt.to ?_))
  trivial
section
variable {w : World} {A A₀ : Around} {E : Value → Shared → Prop} {s : Shared} {h₀ base : Heap} {L : Addr} {m mg mb : Str → Option Value} {news : List (Addr × Obj)} {p : Program} {loose : List Str} {mean : ExcName → Option Value} {env : Env} {outer : List Env}

theorem none_ofG {α : Type} {o : Option α} (h : o.isSome = false) : o = none := by cases o <;> first | rfl | cases h

theorem get_content_ok {mgr dG dS page told types : Addr} {tl : List Value} {nn nt : Nat} {rest : List (Addr × Obj)} {oG : Obj} {its : Array Value} {kvs : List (MK × Value)} {x mx : Str} {rx : List Str} {tx : Tok} {ps : List Value} {kws : List (Str × Value)} {Q : Value → Shared → Prop}
    (C : Cx w A₀ A base h₀ s.heap L m p loose mean mg mb env outer) (N : News h₀ L s.heap ((told, W.listOf tl.toArray nn) :: rest)) (hoff : ∀ p ∈ rest, p.1 ≠ told)
    (hM : MgrAt w rest mgr dG dS) (hP : PageAt w rest page told types) (hG : (dG, oG) ∈ rest) (hds : (dG == sysModules) = false) (hd : oG.IsDictOf (mixKind PR w) kvs)
    (ht : (types, W.listOf its nt) ∈ rest) (hv : its.back? = some (.str x tx)) (hx : x.length ≤ 1000) (hm : Txt.split x (Str.ofString "/") = mx :: rx)
    (hps : PsOk ps) (hk : KwOk kws) (hsz : tl.length ≤ 1000) (hdp : A.depth ≤ 350) (hup : A.units ≤ 150)
    (hkv : ∀ k v, valueAt kvs k = some v → ∃ f n, v = .ref f ∧ HandlerAt w rest told f n)
    (hR : ∀ f n, [MK.str x, MK.str mx, MK.str (Str.ofString "")].findSome? (valueAt kvs) = some (.ref f) → HandlerAt w rest told f n → ∀ h' tk c d t oD tn nn', Fr h₀ L h' m → News h₀ L h' ((t, ({ cls := .type "tuple", data := .seq #[.int n tn, .ref page, .ref c, .ref d] } : Obj)) :: (d, oD) :: (c, ({ cls := .type "tuple", data := .seq ps.toArray } : Obj)) :: (told, W.listOf (tl ++ [Value.ref t]).toArray nn') :: rest) →
      oD.IsDictOf (strKind PR w) kws → (d == sysModules) = false → (∀ p ∈ (told, W.listOf tl.toArray nn) :: rest, @LT.lt Nat _ p.1 c) → @LT.lt Nat _ c d → @LT.lt Nat _ d t → Q (.ref t) { s with heap := h', toks := tk })
    (hE : [MK.str x, MK.str mx, MK.str (Str.ofString "")].findSome? (valueAt kvs) = none → ∀ G h' e t tk, Fr h₀ L G m → RaisedS base G (env :: outer) e (.type "KeyError") t [.str x tx] ((told, W.listOf tl.toArray nn) :: rest) h' → G.UpToSlots h' → E (.ref e) { s with heap := h', toks := tk }) :
    codeAny (model PySem.Challenge.rw_in0087_01.row.prog w) A (.call (.ref 42) ⟨.ref mgr :: .ref page :: ps, kws⟩) (fun r s' => match r with | .ok (.ret v) => Q v s' | .ok _ => False | .error e => E e s') s := by
  have kX0 := C.X
  revert kX0
  k_fill
  intro kX0
  obtain ⟨dm, t1, t2, hm1, hm2⟩ := hM
  obtain ⟨dp, e1, e2, f1, f2, f3, u1, u2, u3, u4, u5, hp1, hp2, hp3, hp4, hp5⟩ := hP
  refine' enterVTc (ex := kws) (vs := ps) C N ?k6 ?k7 ?hb ?hloc ?c1 ?c2 ?c3 ?c4 ?_
  case k6 => k_dflt k_is
  case k7 => k_dflt k_is
  case hb => intro A' E' Q' hQ; exact bind2 rfl rfl hps hk C.F N C.T.nolimit hQ
  case hloc => exact fun C D => locs rfl
  case c1 => exact rfl
  case c2 => exact rfl
  case c3 => exact rfl
  case c4 => decide
  clear kX0
  obtain ⟨B, F, X, T, hA, hf, hke, hroom, hun, hh, hc90⟩ := C
  obtain ⟨hd', dep, fr, gs, un⟩ := A
  dsimp only at hA hroom hun hh hdp hup
  subst hA
  subst hh
  clear F T X
  intro C D oD g' L' h' tk l1 l2 hs hoD FG' F' N' B' X' T'
  have lt := l1 _ (.head _)
  try dsimp only
  try k_fold
  k_steps
  · rename (valueAt kvs _).isSome = true => hq
    obtain ⟨v, ev⟩ := Option.isSome_iff_exists.mp hq
    obtain ⟨f, n, rfl, hH⟩ := hkv _ _ ev
    unfold Halt
    refine' CallKw_ (he := by rfl) ?_
    k_steps
    unfold Halt
    dsimp only
    refine' callStar ?hl ?_
    case hl => intro y hy; cases hy
    k_steps
    rename Fr g' L' _ _ => F1
    rename News g' L' _ _ => N1
    refine' kwRead_ok F1 N1 ?m hoD hk hs ?x ?_
    case m => k_mem
    case x => intro E' Q' s' Fs hq; k_steps; exact hq
    intro h1 F2 N2
    refine ⟨HandlerAt.fnAt N2 hH (by intro _ _; k_mem), ?_⟩
    rw [List.append_nil]
    have N3 : News g' L' h1 ((told, W.listOf tl.toArray nn) :: (D, oD) :: (C, ({ cls := .type "tuple", data := .seq ps.toArray } : Obj)) :: rest) := fun p hp => N2 p (by
      rcases List.mem_cons.mp hp with rfl | hp
      · exact .tail _ (.tail _ (.head _))
      · rcases List.mem_cons.mp hp with rfl | hp
        · exact .head _
        · rcases List.mem_cons.mp hp with rfl | hp
          · exact .tail _ (.head _)
          · exact .tail _ (.tail _ (.tail _ hp)))
    refine' handler_call ?C N3 ?off (hH.mono ?mo) hps hk hsz ?_
    case C => walk_at "mine cx"
    case off =>
      intro p hp
      rcases List.mem_cons.mp hp with rfl | hp
      · exact Nat.ne_of_gt (Nat.lt_trans lt l2)
      · rcases List.mem_cons.mp hp with rfl | hp
        · exact Nat.ne_of_gt lt
        · exact hoff p hp
    case mo => intro p hp; exact .tail _ (.tail _ hp)
    intro h3 tk3 c d t oD3 tn nn' F3 N4 hoD3 hs3 l3 l4 l5
    refine leaveK_ F3 N4 fun F5 N5 => ?_
    refine hR f n ?_ hH h3 _ c d t oD3 tn nn' F5 (news_sub N5 ?_) hoD3 hs3 ?_ l4 l5
    · simp only [List.findSome?, ev]
    · intro p hp
      rcases List.mem_cons.mp hp with rfl | hp
      · exact .head _
      · rcases List.mem_cons.mp hp with rfl | hp
        · exact .tail _ (.head _)
        · rcases List.mem_cons.mp hp with rfl | hp
          · exact .tail _ (.tail _ (.head _))
          · rcases List.mem_cons.mp hp with rfl | hp
            · exact .tail _ (.tail _ (.tail _ (.head _)))
            · exact .tail _ (.tail _ (.tail _ (.tail _ (.tail _ (.tail _ hp)))))
    · intro p hp
      rcases List.mem_cons.mp hp with rfl | hp
      · exact l3 _ (.head _)
      · exact l3 p (.tail _ (.tail _ (.tail _ hp)))
  · rename (valueAt kvs _).isSome = true => hq
    obtain ⟨v, ev⟩ := Option.isSome_iff_exists.mp hq
    obtain ⟨f, n, rfl, hH⟩ := hkv _ _ ev
    unfold Halt
    refine' CallKw_ (he := by rfl) ?_
    k_steps
    unfold Halt
    dsimp only
    refine' callStar ?hl ?_
    case hl => intro y hy; cases hy
    k_steps
    rename Fr g' L' _ _ => F1
    rename News g' L' _ _ => N1
    refine' kwRead_ok F1 N1 ?m hoD hk hs ?x ?_
    case m => k_mem
    case x => intro E' Q' s' Fs hq; k_steps; exact hq
    intro h1 F2 N2
    refine ⟨HandlerAt.fnAt N2 hH (by intro _ _; k_mem), ?_⟩
    rw [List.append_nil]
    have N3 : News g' L' h1 ((told, W.listOf tl.toArray nn) :: (D, oD) :: (C, ({ cls := .type "tuple", data := .seq ps.toArray } : Obj)) :: rest) := fun p hp => N2 p (by
      rcases List.mem_cons.mp hp with rfl | hp
      · exact .tail _ (.tail _ (.head _))
      · rcases List.mem_cons.mp hp with rfl | hp
        · exact .head _
        · rcases List.mem_cons.mp hp with rfl | hp
          · exact .tail _ (.head _)
          · exact .tail _ (.tail _ (.tail _ hp)))
    refine' handler_call ?C N3 ?off (hH.mono ?mo) hps hk hsz ?_
    case C => walk_at "mine cx"
    case off =>
      intro p hp
      rcases List.mem_cons.mp hp with rfl | hp
      · exact Nat.ne_of_gt (Nat.lt_trans lt l2)
      · rcases List.mem_cons.mp hp with rfl | hp
        · exact Nat.ne_of_gt lt
        · exact hoff p hp
    case mo => intro p hp; exact .tail _ (.tail _ hp)
    intro h3 tk3 c d t oD3 tn nn' F3 N4 hoD3 hs3 l3 l4 l5
    refine leaveK_ F3 N4 fun F5 N5 => ?_
    refine hR f n ?_ hH h3 _ c d t oD3 tn nn' F5 (news_sub N5 ?_) hoD3 hs3 ?_ l4 l5
    · rename (valueAt kvs (MK.str x)).isSome = false => q1
      simp only [List.findSome?, none_ofG q1, ev]
    · intro p hp
      rcases List.mem_cons.mp hp with rfl | hp
      · exact .head _
      · rcases List.mem_cons.mp hp with rfl | hp
        · exact .tail _ (.head _)
        · rcases List.mem_cons.mp hp with rfl | hp
          · exact .tail _ (.tail _ (.head _))
          · rcases List.mem_cons.mp hp with rfl | hp
            · exact .tail _ (.tail _ (.tail _ (.head _)))
            · exact .tail _ (.tail _ (.tail _ (.tail _ (.tail _ (.tail _ hp)))))
    · intro p hp
      rcases List.mem_cons.mp hp with rfl | hp
      · exact l3 _ (.head _)
      · exact l3 p (.tail _ (.tail _ (.tail _ hp)))
  · rename (valueAt kvs _).isSome = true => hq
    obtain ⟨v, ev⟩ := Option.isSome_iff_exists.mp hq
    obtain ⟨f, n, rfl, hH⟩ := hkv _ _ ev
    unfold Halt
    refine' CallKw_ (he := by rfl) ?_
    k_steps
    unfold Halt
    dsimp only
    refine' callStar ?hl ?_
    case hl => intro y hy; cases hy
    k_steps
    rename Fr g' L' _ _ => F1
    rename News g' L' _ _ => N1
    refine' kwRead_ok F1 N1 ?m hoD hk hs ?x ?_
    case m => k_mem
    case x => intro E' Q' s' Fs hq; k_steps; exact hq
    intro h1 F2 N2
    refine ⟨HandlerAt.fnAt N2 hH (by intro _ _; k_mem), ?_⟩
    rw [List.append_nil]
    have N3 : News g' L' h1 ((told, W.listOf tl.toArray nn) :: (D, oD) :: (C, ({ cls := .type "tuple", data := .seq ps.toArray } : Obj)) :: rest) := fun p hp => N2 p (by
      rcases List.mem_cons.mp hp with rfl | hp
      · exact .tail _ (.tail _ (.head _))
      · rcases List.mem_cons.mp hp with rfl | hp
        · exact .head _
        · rcases List.mem_cons.mp hp with rfl | hp
          · exact .tail _ (.head _)
          · exact .tail _ (.tail _ (.tail _ hp)))
    refine' handler_call ?C N3 ?off (hH.mono ?mo) hps hk hsz ?_
    case C => walk_at "mine cx"
    case off =>
      intro p hp
      rcases List.mem_cons.mp hp with rfl | hp
      · exact Nat.ne_of_gt (Nat.lt_trans lt l2)
      · rcases List.mem_cons.mp hp with rfl | hp
        · exact Nat.ne_of_gt lt
        · exact hoff p hp
    case mo => intro p hp; exact .tail _ (.tail _ hp)
    intro h3 tk3 c d t oD3 tn nn' F3 N4 hoD3 hs3 l3 l4 l5
    refine leaveK_ F3 N4 fun F5 N5 => ?_
    refine hR f n ?_ hH h3 _ c d t oD3 tn nn' F5 (news_sub N5 ?_) hoD3 hs3 ?_ l4 l5
    · rename (valueAt kvs (MK.str x)).isSome = false => q1
      rename (valueAt kvs (MK.str mx)).isSome = false => q2
      simp only [List.findSome?, none_ofG q1, none_ofG q2, ev]
    · intro p hp
      rcases List.mem_cons.mp hp with rfl | hp
      · exact .head _
      · rcases List.mem_cons.mp hp with rfl | hp
        · exact .tail _ (.head _)
        · rcases List.mem_cons.mp hp with rfl | hp
          · exact .tail _ (.tail _ (.head _))
          · rcases List.mem_cons.mp hp with rfl | hp
            · exact .tail _ (.tail _ (.tail _ (.head _)))
            · exact .tail _ (.tail _ (.tail _ (.tail _ (.tail _ (.tail _ hp)))))
    · intro p hp
      rcases List.mem_cons.mp hp with rfl | hp
      · exact l3 _ (.head _)
      · exact l3 p (.tail _ (.tail _ (.tail _ hp)))
  · rename Fr g' L' _ _ => F1
    rename News g' L' _ _ => N1
    rename (valueAt kvs (MK.str x)).isSome = false => q1
    rename (valueAt kvs (MK.str mx)).isSome = false => q2
    rename (valueAt kvs (MK.str (Str.ofString ""))).isSome = false => q3
    unfold Halt
    refine' Raise_X (he := by rfl) excClass_KeyError raise_KeyError rfl ?hx
    case hx =>
      refine' name_B F1 ?k1 ?k2 ?k3 ?k4 ?k5 ?_
      case k1 => k_asm
      case k2 => k_asm
      case k3 => k_dflt k_is
      case k4 => exact ExcClass.boot excClass_KeyError
      case k5 => decide
      refine ⟨rfl, ?_⟩
      k_steps
      intro h2 e hx
      refine leave_raiseS B' (Heap.MadeExc.of hx) F1 (news_sub N1 fun p hp => .tail _ (.tail _ hp)) fun h3 t S3 _ U3 => ?_
      exact hE (by simp only [List.findSome?, none_ofG q1, none_ofG q2, none_ofG q3]) g' h3 e t _ FG' S3 U3
end
end

-- L_c1
section
theorem words_L_c1 : True := by
  w_top off
  k_with_none
  (k_with "ne" => with_reducible first | exact Nat.ne_of_lt (‹@LT.lt _ _ _ _ ∧ _›).1 | exact Nat.ne_of_gt (‹@LT.lt _ _ _ _ ∧ _›).1 | exact Nat.ne_of_lt (‹_ ∧ @LT.lt _ _ _ _ ∧ _›).2.1 | exact Nat.ne_of_gt (‹_ ∧ @LT.lt _ _ _ _ ∧ _›).2.1 | exact Nat.ne_of_lt (‹_ ∧ _ ∧ @LT.lt _ _ _ _ ∧ _›).2.2.1 | exact Nat.ne_of_gt (‹_ ∧ _ ∧ @LT.lt _ _ _ _ ∧ _›).2.2.1 | exact Nat.ne_of_lt (‹_ ∧ _ ∧ _ ∧ @LT.lt _ _ _ _ ∧ _›).2.2.2.1 | exact Nat.ne_of_gt (‹_ ∧ _ ∧ _ ∧ @LT.lt _ _ _ _ ∧ _›).2.2.2.1 | exact Nat.ne_of_lt (‹_ ∧ _ ∧ _ ∧ _ ∧ @LT.lt _ _ _ _ ∧ _›).2.2.2.2.1 | exact Nat.ne_of_gt (‹_ ∧ _ ∧ _ ∧ _ ∧ @LT.lt _ _ _ _ ∧ _›).2.2.2.2.1 | exact Nat.ne_of_lt (‹_ ∧ _ ∧ _ ∧ _ ∧ _ ∧ @LT.lt _ _ _ _ ∧ _›).2.2.2.2.2.1 | exact Nat.ne_of_gt (‹_ ∧ _ ∧ _ ∧ _ ∧ _ ∧ @LT.lt _ _ _ _ ∧ _›).2.2.2.2.2.1 | exact Nat.ne_of_lt (‹_ ∧ _ ∧ _ ∧ _ ∧ _ ∧ _ ∧ @LT.lt _ _ _ _ ∧ _›).2.2.2.2.2.2.1 | exact Nat.ne_of_gt (‹_ ∧ _ ∧ _ ∧ _ ∧ _ ∧ _ ∧ @LT.lt _ _ _ _ ∧ _›).2.2.2.2.2.2.1 | exact Nat.ne_of_lt (‹_ ∧ _ ∧ _ ∧ _ ∧ _ ∧ _ ∧ _ ∧ @LT.lt _ _ _ _ ∧ _›).2.2.2.2.2.2.2.1 | exact Nat.ne_of_gt (‹_ ∧ _ ∧ _ ∧ _ ∧ _ ∧ _ ∧ _ ∧ @LT.lt _ _ _ _ ∧ _›).2.2.2.2.2.2.2.1 | exact Nat.ne_of_lt (‹_ ∧ _ ∧ _ ∧ _ ∧ _ ∧ _ ∧ _ ∧ _ ∧ @LT.lt _ _ _ _ ∧ _›).2.2.2.2.2.2.2.2.1 | exact Nat.ne_of_gt (‹_ ∧ _ ∧ _ ∧ _ ∧ _ ∧ _ ∧ _ ∧ _ ∧ @LT.lt _ _ _ _ ∧ _›).2.2.2.2.2.2.2.2.1 | exact Nat.ne_of_lt (‹_ ∧ _ ∧ _ ∧ _ ∧ _ ∧ _ ∧ _ ∧ _ ∧ _ ∧ @LT.lt _ _ _ _ ∧ _›).2.2.2.2.2.2.2.2.2.1 | exact Nat.ne_of_gt (‹_ ∧ _ ∧ _ ∧ _ ∧ _ ∧ _ ∧ _ ∧ _ ∧ _ ∧ @LT.lt _ _ _ _ ∧ _›).2.2.2.2.2.2.2.2.2.1 | exact Nat.ne_of_lt (‹_ ∧ _ ∧ _ ∧ _ ∧ _ ∧ _ ∧ _ ∧ _ ∧ _ ∧ _ ∧ @LT.lt _ _ _ _ ∧ _›).2.2.2.2.2.2.2.2.2.2.1 | exact Nat.ne_of_gt (‹_ ∧ _ ∧ _ ∧ _ ∧ _ ∧ _ ∧ _ ∧ _ ∧ _ ∧ _ ∧ @LT.lt _ _ _ _ ∧ _›).2.2.2.2.2.2.2.2.2.2.1 | exact Nat.ne_of_lt (‹_ ∧ _ ∧ _ ∧ _ ∧ _ ∧ _ ∧ _ ∧ _ ∧ _ ∧ _ ∧ _ ∧ @LT.lt _ _ _ _ ∧ _›).2.2.2.2.2.2.2.2.2.2.2.1 | exact Nat.ne_of_gt (‹_ ∧ _ ∧ _ ∧ _ ∧ _ ∧ _ ∧ _ ∧ _ ∧ _ ∧ _ ∧ _ ∧ @LT.lt _ _ _ _ ∧ _›).2.2.2.2.2.2.2.2.2.2.2.1 | exact Nat.ne_of_lt (‹_ ∧ _ ∧ _ ∧ _ ∧ _ ∧ _ ∧ _ ∧ _ ∧ _ ∧ _ ∧ _ ∧ _ ∧ @LT.lt _ _ _ _ ∧ _›).2.2.2.2.2.2.2.2.2.2.2.2.1 | exact Nat.ne_of_gt (‹_ ∧ _ ∧ _ ∧ _ ∧ _ ∧ _ ∧ _ ∧ _ ∧ _ ∧ _ ∧ _ ∧ _ ∧ @LT.lt _ _ _ _ ∧ _›).2.2.2.2.2.2.2.2.2.2.2.2.1 | exact Nat.ne_of_lt (‹_ ∧ _ ∧ _ ∧ _ ∧ _ ∧ _ ∧ _ ∧ _ ∧ _ ∧ _ ∧ _ ∧ _ ∧ _ ∧ @LT.lt _ _ _ _ ∧ _›).2.2.2.2.2.2.2.2.2.2.2.2.2.1 | exact Nat.ne_of_gt (‹_ ∧ _ ∧ _ ∧ _ ∧ _ ∧ _ ∧ _ ∧ _ ∧ _ ∧ _ ∧ _ ∧ _ ∧ _ ∧ @LT.lt _ _ _ _ ∧ _›).2.2.2.2.2.2.2.2.2.2.2.2.2.1)
  (k_with "adr" => (repeat (first | exact List.Mem.head _ | refine List.Mem.tail _ ?_)))
  (k_with "mine cx" => exact ⟨by assumption, by assumption, by assumption, by assumption, rfl, rfl, rfl, by (first | exact Nat.le_trans (Nat.succ_le_succ (show _ ≤ 330 by assumption)) (by decide) | exact Nat.le_trans (Nat.succ_le_succ (show _ ≤ 340 by assumption)) (by decide) | exact Nat.le_trans (Nat.succ_le_succ (show _ ≤ 345 by assumption)) (by decide) | exact Nat.le_trans (Nat.succ_le_succ (show _ ≤ 350 by assumption)) (by decide) | (simp only [depth_deeper]; omega)), by (first | exact Nat.le_trans (Nat.add_le_add_right (show _ ≤ 100 by assumption) 3) (by decide) | exact Nat.le_trans (Nat.add_le_add_right (show _ ≤ 130 by assumption) 3) (by decide) | exact Nat.le_trans (Nat.add_le_add_right (show _ ≤ 140 by assumption) 3) (by decide) | exact Nat.le_trans (Nat.add_le_add_right (show _ ≤ 150 by assumption) 3) (by decide) | (simp only [units_deeper]; omega)), rfl, by assumption, by assumption, by assumption⟩)
  (k_with "kind k_mem" => first | assumption | (refine List.mem_append_left _ ?_; k_mem) | (refine List.mem_append_right _ ?_; k_mem))
  (k_with "kind k_room" => (show _ < _; simp only [depth_under_make, depth_under_kw, depth_in1, depth_deeper, depth_caller, recursionLimit]; omega))
  (k_with "StarOf ref" => (k_here; k_dflt (refine' star_seq ?w89k1 ?w89k2 ?w89m ?w89c ?w89d ?w89T ?w89e ?w89z ?_; (case w89k1 => k_asm); (case w89k2 => k_asm); (case w89m => k_mem); (case w89c => exact rfl); (case w89d => exact rfl); (case w89T => exact .inr rfl); (case w89e => exact rfl); (case w89z => exact PsOk.size (by assumption)); k_whole); intro _ _ _))
  (k_with "callWith ref" => (k_here; (with_reducible show wpAny _ _ (callWith _ (Value.ref _) _ _ (backToKw _ (keywordEach (_ :: _) _))) _ _ _); refine Halt.to ?_))
  (k_with "eval Call Attribute" => (k_here; (with_reducible show wpAny _ _ (eval (Expr.Call (Expr.Attribute _ _ _) _ (_ :: _) _) _) _ _ _); (refine' CallStarM_ (he := by rfl) ?_)))
  (k_with "call type:str" => (k_here; first
  | (refine' str_gotK ?w92N ?w92G ?w92u ?w92z ?_; (case w92G => assumption); (case w92N => assumption); (case w92u => exact units_ok (by (simp only [units_deeper, Around.mark_units]; omega))); (case w92z => exact repr_size (by assumption)); intro _ _)
  | (refine' str_gotT ?w92N ?w92G ?w92u ?_; (case w92G => assumption); (case w92N => assumption); (case w92u => exact units_ok (by (simp only [units_deeper, Around.mark_units]; omega))); intro _ _)))
  (k_with "binaryOp Add str str" => (k_here; (refine SBL.add (hsz := ?w93hsz) ?_); (case w93hsz => first | exact key_size (by assumption) | exact type_size); intro _ _))
  trivial
set_option maxHeartbeats 2000000
theorem key_size {y : Str} (h : y.length ≤ 2000) : (Str.ofString "key ").length + y.length ≤ sizeLine := by
  have e : (Str.ofString "key ").length = 4 := by decide +kernel
  rw [sizeLine_eq, e]; omega
theorem type_size : (Str.ofString "type ").length + (Str.ofString "set_content not valid on multipart").length ≤ sizeLine := by rw [sizeLine_eq]; decide +kernel
theorem repr_size {y : Str} (h : y.length ≤ 2000) : y.length ≤ sizeLine := by rw [sizeLine_eq]; omega
theorem units_ok {n : Nat} (h : n ≤ 190) : n + 2 < cLine := by unfold cLine; omega
section
variable {prog : Program} {w : World} {A : Around} {E : Value → Shared → Prop} {s : Shared} {h₀ : Heap} {L : Addr} {news : List (Addr × Obj)}
theorem got_exc {e t : Addr} {X : String} {vs : List Value} (N : News h₀ L s.heap news) (G : Got news e t (.type X) vs) : s.heap.ExcAt e X (.ref t) ∧ s.heap.TupAt t vs := by
  obtain ⟨oe, ot, ws, nt, h1, h2, h3, h4, h5, h6, h7⟩ := G
  exact ⟨⟨oe, ws, (N _ h1).1, h3, h4, h5⟩, ⟨ot, nt, (N _ h2).1, h6, h7⟩⟩
theorem str_gotK {e t : Addr} {x : Str} {tx : Tok} {Q : Value → Shared → Prop} (N : News h₀ L s.heap news) (G : Got news e t (.type "KeyError") [.str x tx]) (hu : A.units + 2 < cLine) (hz : (reprText x).length ≤ sizeLine) (h : ∀ tk u, Q (.str (reprText x) tk) { s with toks := u }) :
    wpAny (model prog w) A (call (.type "str") [.ref e]) Q E s := str_key hu (got_exc N G).1 (got_exc N G).2 hz (h _ _)
theorem str_gotT {e t : Addr} {x : Str} {tx : Tok} {Q : Value → Shared → Prop} (N : News h₀ L s.heap news) (G : Got news e t (.type "TypeError") [.str x tx]) (hu : A.units + 2 < cLine) (h : ∀ tk u, Q (.str x tk) { s with toks := u }) :
    wpAny (model prog w) A (call (.type "str") [.ref e]) Q E s := PySem.P.str_of_exc_one PySem.F.excStr_TypeError hu (got_exc N G).1 (got_exc N G).2 (h _ _)
theorem ktsDicts_push {env : Env} {outer : List Env} {h₀ g : Heap} {L : Addr} {m : Str → Option Value} (D : KtsDicts (outer.filterMap (·.frame)) h₀) (FG : Fr h₀ L g m) (hf : env.frame = some L) : KtsDicts ((env :: outer).filterMap (·.frame)) g := fun b hb => by
  rw [List.filterMap_cons, hf] at hb
  rcases List.mem_cons.mp hb with rfl | hb
  · obtain ⟨o, es, ep, e, hd, _⟩ := FG.ns
    exact ⟨o, es, ep, e, hd⟩
  · obtain ⟨o, es, n, ho, hd⟩ := D b hb
    exact ⟨o, es, n, FG.keep _ _ ho, hd⟩
theorem frames_noStat {A₀ : Around} {base h₀ : Heap} {outer : List Env} (B : Below A₀ base outer h₀) (hc : ∃ o, base.get? cStatics = some o) : cStatics ∉ outer.filterMap (·.frame) := fun q => by
  obtain ⟨o, h⟩ := hc
  have := (B.frames.mem q).1
  rw [h] at this
  cases this
theorem top_stat {loose : List Str} {mean : ExcName → Option Value} {mg mb : Str → Option Value} {base : Heap} (T : Top topProg loose mean mg mb base) : ∃ o, base.get? cStatics = some o := by obtain ⟨_, ⟨o, _, _, e, _⟩, _⟩ := T.nolimit; exact ⟨o, e⟩
theorem KtsDicts.turn2 {fs : List Addr} {g g' : Heap} (D : KtsDicts fs g) (T : Turn fs g g') (hn : cStatics ∉ fs) : KtsDicts fs g' := fun b m => by
  obtain ⟨o, es, n, ho, hd⟩ := D b m
  obtain ⟨sl, hs⟩ := T.frame b o ho (fun q => hn (q ▸ m)) m
  exact ⟨_, es, n, hs, hd⟩
end
section
variable {w : World} {A A₀ : Around} {E : Value → Shared → Prop} {s : Shared} {h₀ base : Heap} {L : Addr} {m mg mb : Str → Option Value} {news : List (Addr × Obj)} {loose : List Str} {mean : ExcName → Option Value} {env : Env} {outer : List Env}

theorem called_get {mgr dG dS page told types pl nm : Addr} {tl : List Value} {nn nt : Nat} {rest : List (Addr × Obj)} {oG oN : Obj} {its : Array Value} {kvs : List (MK × Value)} {x mx : Str} {rx : List Str} {tx : Tok} {ps : List Value} {kws : List (Str × Value)} {Q : Value → Shared → Prop}
    (C : Cx w A₀ A base h₀ s.heap L m topProg loose mean mg mb env outer) (hD : KtsDicts (outer.filterMap (·.frame)) h₀) (N : News h₀ L s.heap ((told, W.listOf tl.toArray nn) :: rest)) (hoff : ∀ p ∈ rest, p.1 ≠ told)
    (hM : MgrAt w rest mgr dG dS) (hP : PageAt w rest page told types) (hG : (dG, oG) ∈ rest) (hds : (dG == sysModules) = false) (hd : oG.IsDictOf (mixKind PR w) kvs)
    (ht : (types, W.listOf its nt) ∈ rest) (hv : its.back? = some (.str x tx)) (hx : x.length ≤ 1000) (hm : Txt.split x (Str.ofString "/") = mx :: rx)
    (hps : PsOk ps) (hk : KwOk kws) (hsz : tl.length ≤ 1000) (hdp : A.depth ≤ 340) (hup : A.units ≤ 130)
    (hpl : (pl, ({ cls := .type "tuple", data := .seq ps.toArray } : Obj)) ∈ rest) (hnm : (nm, oN) ∈ rest) (hnd : oN.IsDictOf (strKind PR w) kws) (hns : (nm == sysModules) = false) (hst : StatOk rest base) (hrx : (reprText x).length ≤ 2000)
    (hkv : ∀ k v, valueAt kvs k = some v → ∃ f n, v = .ref f ∧ HandlerAt w rest told f n)
    (hR : ∀ f n, [MK.str x, MK.str mx, MK.str (Str.ofString "")].findSome? (valueAt kvs) = some (.ref f) → HandlerAt w rest told f n → ∀ h' tk c d t oD tn nn', Fr h₀ L h' m → News h₀ L h' ((t, ({ cls := .type "tuple", data := .seq #[.int n tn, .ref page, .ref c, .ref d] } : Obj)) :: (d, oD) :: (c, ({ cls := .type "tuple", data := .seq ps.toArray } : Obj)) :: (told, W.listOf (tl ++ [Value.ref t]).toArray nn') :: rest) →
      oD.IsDictOf (strKind PR w) kws → (d == sysModules) = false → (∀ p ∈ (told, W.listOf tl.toArray nn) :: rest, @LT.lt Nat _ p.1 c) → @LT.lt Nat _ c d → @LT.lt Nat _ d t → Q (.ref t) { s with heap := h', toks := tk })
    (hE : [MK.str x, MK.str mx, MK.str (Str.ofString "")].findSome? (valueAt kvs) = none → ∀ base' h₀' h' tk u own, Back w A₀ base h₀ L m loose mean mg mb outer ((told, W.listOf tl.toArray nn) :: rest) base' h₀' h' own → News h₀' L h' (own ++ (told, W.listOf tl.toArray nn) :: rest) → Q (.str (Str.ofString "key " ++ reprText x) u) { s with heap := h', toks := tk }) :
    wpAny (model PySem.Challenge.rw_in0087_01.row.prog w) A (call (.ref 98) [.ref mgr, .ref page, .none, .ref pl, .ref nm] []) Q E s := by
  have kX0 := C.X
  revert kX0
  k_fill
  intro kX0
  have hM0 := hM
  obtain ⟨dm, t1, t2, hm1, hm2⟩ := hM
  refine' enterT C N ?k6 ?k7 ?k8 ?k9 ?c1 ?c2 ?c3 ?c4 ?_
  case k6 => k_dflt k_is
  case k7 => k_dflt k_is
  case k8 => exact BindsTo.of_eq rfl
  case k9 => exact locs rfl
  case c1 => exact rfl
  case c2 => exact rfl
  case c3 => exact rfl
  case c4 => decide
  clear kX0
  have C0 := C
  obtain ⟨B, F, X, TT, hA, hf, hke, hroom, hun, hh, hc90, XB, TB⟩ := C
  obtain ⟨hd', dep, fr, gs, un⟩ := A
  dsimp only at hA hroom hun hh hdp hup
  subst hA
  subst hh
  clear F TT X
  intro g' L' h' FG' F' N' B' X' T' l1
  try dsimp only
  try k_fold
  k_steps
  unfold Halt
  refine' callStarM (f := 42) (self := .ref mgr) ?fn ?hl ?_
  case fn => k_dflt k_is
  case hl => intro y hy; cases hy
  k_steps
  rename Fr g' L' _ _ => F1
  rename News g' L' _ _ => N1
  refine' kwRead_ok F1 N1 ?m hnd hk hns ?x ?_
  case m => k_mem
  case x => intro E' Q' s' Fs hq; k_steps; exact hq
  intro h1 F2 N2
  refine ⟨⟨?mq, X'.keeps F2.keep⟩, ?_⟩
  case mq => exact (N2 (_, methodObj (.ref 42) (.ref mgr)) (.head _)).1
  rw [List.append_nil]
  refine call_meth N2 (.head _) ?_
  refine' get_content_ok (kvs := kvs) (dG := dG) (dS := dS) ?C (news_sub N2 fun p hp => .tail _ hp) hoff hM0 hP hG hds hd ht hv hx hm hps hk hsz ?dp ?up hkv ?R ?E
  case C => walk_at "mine cx"
  case dp => first | exact Nat.le_trans (Nat.succ_le_succ hdp) (by decide) | (simp only [depth_deeper]; omega)
  case up => first | exact Nat.le_trans (Nat.add_le_add_right hup 3) (by decide) | (simp only [units_deeper]; omega)
  case R =>
    intro f n ev hH h3 tk3 c d t oD tn nn' F3 N3 hoD hs l3 l4 l5
    obtain ⟨Fz, Nz⟩ := (Back.refl (news := rest) C0 FG' hst).led F3 N3 (fun _ hp => hp)
    exact hR f n ev hH h3 _ c d t oD tn nn' Fz Nz hoD hs l3 l4 l5
  case E =>
    intro ev G h3 e t tk3 FG3 R3 U3
    have D3 := ktsDicts_push hD FG' hf
    clear F1 N1 F2 N2 hD
    k_steps
    rename Fr _ L' _ _ => F9
    rename News _ L' _ (_ :: _) => N9
    rename KtsTurn _ _ _ => T9
    obtain ⟨h₀', K0⟩ := Back.up (news := (told, W.listOf tl.toArray nn) :: rest) (own' := []) C0 FG' (newsI := (told, W.listOf tl.toArray nn) :: rest) (own := []) ⟨.refl, Turn.ofKts T9 (frames_noStat B' (top_stat TB)), by assumption, XB, TB, F9, (fun _ hp => nomatch hp), hst.mono fun _ hp => .tail _ hp⟩ (fun _ hp => nomatch hp) (fun _ hp => hp)
    obtain ⟨Fz, Nz⟩ := K0.led F9 N9 (fun _ hp => hp)
    exact hE ev base h₀' _ _ _ [] ⟨K0.TB, K0.T0, K0.B, K0.XB, K0.TT, Fz, K0.ab, K0.st⟩ Nz
end
end

-- L_c2
section
theorem words_L_c2 : True := by
  w_top off
  k_with_none
  (k_with "ne" => with_reducible first | exact Nat.ne_of_lt (‹@LT.lt _ _ _ _ ∧ _›).1 | exact Nat.ne_of_gt (‹@LT.lt _ _ _ _ ∧ _›).1 | exact Nat.ne_of_lt (‹_ ∧ @LT.lt _ _ _ _ ∧ _›).2.1 | exact Nat.ne_of_gt (‹_ ∧ @LT.lt _ _ _ _ ∧ _›).2.1 | exact Nat.ne_of_lt (‹_ ∧ _ ∧ @LT.lt _ _ _ _ ∧ _›).2.2.1 | exact Nat.ne_of_gt (‹_ ∧ _ ∧ @LT.lt _ _ _ _ ∧ _›).2.2.1 | exact Nat.ne_of_lt (‹_ ∧ _ ∧ _ ∧ @LT.lt _ _ _ _ ∧ _›).2.2.2.1 | exact Nat.ne_of_gt (‹_ ∧ _ ∧ _ ∧ @LT.lt _ _ _ _ ∧ _›).2.2.2.1 | exact Nat.ne_of_lt (‹_ ∧ _ ∧ _ ∧ _ ∧ @LT.lt _ _ _ _ ∧ _›).2.2.2.2.1 | exact Nat.ne_of_gt (‹_ ∧ _ ∧ _ ∧ _ ∧ @LT.lt _ _ _ _ ∧ _›).2.2.2.2.1 | exact Nat.ne_of_lt (‹_ ∧ _ ∧ _ ∧ _ ∧ _ ∧ @LT.lt _ _ _ _ ∧ _›).2.2.2.2.2.1 | exact Nat.ne_of_gt (‹_ ∧ _ ∧ _ ∧ _ ∧ _ ∧ @LT.lt _ _ _ _ ∧ _›).2.2.2.2.2.1 | exact Nat.ne_of_lt (‹_ ∧ _ ∧ _ ∧ _ ∧ _ ∧ _ ∧ @LT.lt _ _ _ _ ∧ _›).2.2.2.2.2.2.1 | exact Nat.ne_of_gt (‹_ ∧ _ ∧ _ ∧ _ ∧ _ ∧ _ ∧ @LT.lt _ _ _ _ ∧ _›).2.2.2.2.2.2.1 | exact Nat.ne_of_lt (‹_ ∧ _ ∧ _ ∧ _ ∧ _ ∧ _ ∧ _ ∧ @LT.lt _ _ _ _ ∧ _›).2.2.2.2.2.2.2.1 | exact Nat.ne_of_gt (‹_ ∧ _ ∧ _ ∧ _ ∧ _ ∧ _ ∧ _ ∧ @LT.lt _ _ _ _ ∧ _›).2.2.2.2.2.2.2.1 | exact Nat.ne_of_lt (‹_ ∧ _ ∧ _ ∧ _ ∧ _ ∧ _ ∧ _ ∧ _ ∧ @LT.lt _ _ _ _ ∧ _›).2.2.2.2.2.2.2.2.1 | exact Nat.ne_of_gt (‹_ ∧ _ ∧ _ ∧ _ ∧ _ ∧ _ ∧ _ ∧ _ ∧ @LT.lt _ _ _ _ ∧ _›).2.2.2.2.2.2.2.2.1 | exact Nat.ne_of_lt (‹_ ∧ _ ∧ _ ∧ _ ∧ _ ∧ _ ∧ _ ∧ _ ∧ _ ∧ @LT.lt _ _ _ _ ∧ _›).2.2.2.2.2.2.2.2.2.1 | exact Nat.ne_of_gt (‹_ ∧ _ ∧ _ ∧ _ ∧ _ ∧ _ ∧ _ ∧ _ ∧ _ ∧ @LT.lt _ _ _ _ ∧ _›).2.2.2.2.2.2.2.2.2.1 | exact Nat.ne_of_lt (‹_ ∧ _ ∧ _ ∧ _ ∧ _ ∧ _ ∧ _ ∧ _ ∧ _ ∧ _ ∧ @LT.lt _ _ _ _ ∧ _›).2.2.2.2.2.2.2.2.2.2.1 | exact Nat.ne_of_gt (‹_ ∧ _ ∧ _ ∧ _ ∧ _ ∧ _ ∧ _ ∧ _ ∧ _ ∧ _ ∧ @LT.lt _ _ _ _ ∧ _›).2.2.2.2.2.2.2.2.2.2.1 | exact Nat.ne_of_lt (‹_ ∧ _ ∧ _ ∧ _ ∧ _ ∧ _ ∧ _ ∧ _ ∧ _ ∧ _ ∧ _ ∧ @LT.lt _ _ _ _ ∧ _›).2.2.2.2.2.2.2.2.2.2.2.1 | exact Nat.ne_of_gt (‹_ ∧ _ ∧ _ ∧ _ ∧ _ ∧ _ ∧ _ ∧ _ ∧ _ ∧ _ ∧ _ ∧ @LT.lt _ _ _ _ ∧ _›).2.2.2.2.2.2.2.2.2.2.2.1 | exact Nat.ne_of_lt (‹_ ∧ _ ∧ _ ∧ _ ∧ _ ∧ _ ∧ _ ∧ _ ∧ _ ∧ _ ∧ _ ∧ _ ∧ @LT.lt _ _ _ _ ∧ _›).2.2.2.2.2.2.2.2.2.2.2.2.1 | exact Nat.ne_of_gt (‹_ ∧ _ ∧ _ ∧ _ ∧ _ ∧ _ ∧ _ ∧ _ ∧ _ ∧ _ ∧ _ ∧ _ ∧ @LT.lt _ _ _ _ ∧ _›).2.2.2.2.2.2.2.2.2.2.2.2.1 | exact Nat.ne_of_lt (‹_ ∧ _ ∧ _ ∧ _ ∧ _ ∧ _ ∧ _ ∧ _ ∧ _ ∧ _ ∧ _ ∧ _ ∧ _ ∧ @LT.lt _ _ _ _ ∧ _›).2.2.2.2.2.2.2.2.2.2.2.2.2.1 | exact Nat.ne_of_gt (‹_ ∧ _ ∧ _ ∧ _ ∧ _ ∧ _ ∧ _ ∧ _ ∧ _ ∧ _ ∧ _ ∧ _ ∧ _ ∧ @LT.lt _ _ _ _ ∧ _›).2.2.2.2.2.2.2.2.2.2.2.2.2.1)
  (k_with "adr" => (repeat (first | exact List.Mem.head _ | refine List.Mem.tail _ ?_)))
  (k_with "mine cx" => exact ⟨by assumption, by assumption, by assumption, by assumption, rfl, rfl, rfl, by (first | exact Nat.le_trans (Nat.succ_le_succ (show _ ≤ 330 by assumption)) (by decide) | exact Nat.le_trans (Nat.succ_le_succ (show _ ≤ 340 by assumption)) (by decide) | exact Nat.le_trans (Nat.succ_le_succ (show _ ≤ 345 by assumption)) (by decide) | exact Nat.le_trans (Nat.succ_le_succ (show _ ≤ 350 by assumption)) (by decide) | (simp only [depth_deeper]; omega)), by (first | exact Nat.le_trans (Nat.add_le_add_right (show _ ≤ 100 by assumption) 3) (by decide) | exact Nat.le_trans (Nat.add_le_add_right (show _ ≤ 130 by assumption) 3) (by decide) | exact Nat.le_trans (Nat.add_le_add_right (show _ ≤ 140 by assumption) 3) (by decide) | exact Nat.le_trans (Nat.add_le_add_right (show _ ≤ 150 by assumption) 3) (by decide) | (simp only [units_deeper]; omega)), rfl, by assumption, by assumption, by assumption⟩)
  (k_with "kind k_mem" => first | assumption | (refine List.mem_append_left _ ?_; k_mem) | (refine List.mem_append_right _ ?_; k_mem))
  (k_with "kind k_room" => (show _ < _; simp only [depth_under_make, depth_under_kw, depth_in1, depth_deeper, depth_caller, recursionLimit]; omega))
  (k_with "StarOf ref" => (k_here; k_dflt (refine' star_seq ?w99k1 ?w99k2 ?w99m ?w99c ?w99d ?w99T ?w99e ?w99z ?_; (case w99k1 => k_asm); (case w99k2 => k_asm); (case w99m => k_mem); (case w99c => exact rfl); (case w99d => exact rfl); (case w99T => exact .inr rfl); (case w99e => exact rfl); (case w99z => exact PsOk.size (by assumption)); k_whole); intro _ _ _))
  (k_with "callWith ref" => (k_here; (with_reducible show wpAny _ _ (callWith _ (Value.ref _) _ _ (backToKw _ (keywordEach (_ :: _) _))) _ _ _); refine Halt.to ?_))
  (k_with "eval Call Attribute" => (k_here; (with_reducible show wpAny _ _ (eval (Expr.Call (Expr.Attribute _ _ _) _ (_ :: _) _) _) _ _ _); (refine' CallStarM_ (he := by rfl) ?_)))
  (k_with "call type:str" => (k_here; first
  | (refine' str_gotK ?w102N ?w102G ?w102u ?w102z ?_; (case w102G => assumption); (case w102N => assumption); (case w102u => exact units_ok (by (simp only [units_deeper, Around.mark_units]; omega))); (case w102z => exact repr_size (by assumption)); intro _ _)
  | (refine' str_gotT ?w102N ?w102G ?w102u ?_; (case w102G => assumption); (case w102N => assumption); (case w102u => exact units_ok (by (simp only [units_deeper, Around.mark_units]; omega))); intro _ _)))
  (k_with "binaryOp Add str str" => (k_here; (refine SBL.add (hsz := ?w103hsz) ?_); (case w103hsz => first | exact key_size (by assumption) | exact type_size); intro _ _))
  trivial
set_option maxHeartbeats 2000000
section
variable {w : World} {A A₀ : Around} {E : Value → Shared → Prop} {s : Shared} {h₀ base : Heap} {L : Addr} {m mg mb : Str → Option Value} {news : List (Addr × Obj)} {loose : List Str} {mean : ExcName → Option Value} {env : Env} {outer : List Env}

theorem called_set {mgr dG dS page told types pl nm th : Addr} {obj : Value} {T : String} {tl : List Value} {nn nt : Nat} {rest : List (Addr × Obj)} {oS oN : Obj} {its : Array Value} {kvs : List (MK × Value)} {x mx : Str} {rx : List Str} {tx : Tok} {ps : List Value} {kws : List (Str × Value)} {Q : Value → Shared → Prop}
    (C : Cx w A₀ A base h₀ s.heap L m topProg loose mean mg mb env outer) (hD : KtsDicts (outer.filterMap (·.frame)) h₀) (N : News h₀ L s.heap ((told, W.listOf tl.toArray nn) :: rest)) (hoff : ∀ p ∈ rest, p.1 ≠ told)
    (hM : MgrAt w rest mgr dG dS) (hP : PageAt w rest page told types) (hS : (dS, oS) ∈ rest) (hds : (dS == sysModules) = false) (hd : oS.IsDictOf (mixKind PR w) kvs)
    (ht : (types, W.listOf its nt) ∈ rest) (hv : its.back? = some (.str x tx)) (hx : x.length ≤ 1000) (hm : Txt.split x (Str.ofString "/") = mx :: rx)
    (hps : PsOk ps) (hps' : PsOk (obj :: ps)) (hk : KwOk kws) (hsz : tl.length ≤ 900) (hdp : A.depth ≤ 340) (hup : A.units ≤ 130)
    (hth : (th, ({ cls := .type "tuple", data := .seq #[obj] } : Obj)) ∈ rest) (hpl : (pl, ({ cls := .type "tuple", data := .seq ps.toArray } : Obj)) ∈ rest) (hnm : (nm, oN) ∈ rest) (hnd : oN.IsDictOf (strKind PR w) kws) (hns : (nm == sysModules) = false)
    (hT : T ∈ kindNames) (hobj : ∀ (g : Heap) (L : Addr) (s : Shared), News g L s.heap rest → s.TypeIs obj T) (hty : ∀ n, valueAt kvs (MK.ty n) = none) (hst : StatOk rest base) (hrx : (reprText (pathOf T)).length ≤ 2000)
    (hkv : ∀ k v, valueAt kvs k = some v → ∃ f n, v = .ref f ∧ HandlerAt w rest told f n)
    (hR : mx ≠ Str.ofString "multipart" → ∀ f n, (keysOf T).findSome? (valueAt kvs) = some (.ref f) → HandlerAt w rest told f n → ∀ base' h₀' h' tk own c d t oD tn tc nn', Back w A₀ base h₀ L m loose mean mg mb outer ((told, W.listOf tl.toArray nn) :: rest) base' h₀' h' own →
      News h₀' L h' ((t, ({ cls := .type "tuple", data := .seq #[.int n tn, .ref page, .ref c, .ref d] } : Obj)) :: (d, oD) :: (c, ({ cls := .type "tuple", data := .seq (obj :: ps).toArray } : Obj)) :: (told, W.listOf (tl ++ [Value.str (Str.ofString "cleared") tc] ++ [Value.ref t]).toArray nn') :: (own ++ rest)) →
      oD.IsDictOf (strKind PR w) kws → (d == sysModules) = false → (∀ p ∈ (told, W.listOf tl.toArray nn) :: (own ++ rest), @LT.lt Nat _ p.1 c) → @LT.lt Nat _ c d → @LT.lt Nat _ d t → Q .none { s with heap := h', toks := tk })
    (hE : ∀ y, (mx = Str.ofString "multipart" ∧ y = Str.ofString "type " ++ Str.ofString "set_content not valid on multipart" ∨ mx ≠ Str.ofString "multipart" ∧ (keysOf T).findSome? (valueAt kvs) = none ∧ y = Str.ofString "key " ++ reprText (pathOf T)) → ∀ base' h₀' h' tk u own, Back w A₀ base h₀ L m loose mean mg mb outer ((told, W.listOf tl.toArray nn) :: rest) base' h₀' h' own →
      News h₀' L h' (own ++ (told, W.listOf tl.toArray nn) :: rest) → Q (.str y u) { s with heap := h', toks := tk }) :
    wpAny (model PySem.Challenge.rw_in0087_01.row.prog w) A (call (.ref 98) [.ref mgr, .ref page, .ref th, .ref pl, .ref nm] []) Q E s := by
  have kX0 := C.X
  revert kX0
  k_fill
  intro kX0
  have hM0 := hM
  obtain ⟨dm, t1, t2, hm1, hm2⟩ := hM
  refine' enterT C N ?k6 ?k7 ?k8 ?k9 ?c1 ?c2 ?c3 ?c4 ?_
  case k6 => k_dflt k_is
  case k7 => k_dflt k_is
  case k8 => exact BindsTo.of_eq rfl
  case k9 => exact locs rfl
  case c1 => exact rfl
  case c2 => exact rfl
  case c3 => exact rfl
  case c4 => decide
  clear kX0
  have C0 := C
  obtain ⟨B, F, X, TT, hA, hf, hke, hroom, hun, hh, hc90, XB, TB⟩ := C
  obtain ⟨hd', dep, fr, gs, un⟩ := A
  dsimp only at hA hroom hun hh hdp hup
  subst hA
  subst hh
  clear F TT X
  intro g' L' h' FG' F' N' B' X' T' l1
  try dsimp only
  try k_fold
  k_steps
  unfold Halt
  refine' callStarM (f := 56) (self := .ref mgr) ?fn ?hl ?_
  case fn => k_dflt k_is
  case hl => intro y hy; cases hy
  k_steps
  rename Fr g' L' _ _ => F1
  rename News g' L' _ _ => N1
  refine' kwRead_ok F1 N1 ?m hnd hk hns ?x ?_
  case m => k_mem
  case x => intro E' Q' s' Fs hq; k_steps; exact hq
  intro h1 F2 N2
  refine ⟨⟨?mq, X'.keeps F2.keep⟩, ?_⟩
  case mq => exact (N2 (_, methodObj (.ref 56) (.ref mgr)) (.head _)).1
  rw [List.append_nil]
  refine call_meth N2 (.head _) ?_
  refine' set_content_ok (T := T) (kvs := kvs) (dG := dG) (dS := dS) ?C (news_sub N2 fun p hp => .tail _ hp) hoff hM0 hP hS hds hd ht hv hx hm hps hps' hk hsz ?dp ?up hT hobj hty hst hkv ?R ?E
  case C => walk_at "mine cx"
  case dp => first | exact Nat.le_trans (Nat.succ_le_succ hdp) (by decide) | (simp only [depth_deeper]; omega)
  case up => first | exact Nat.le_trans (Nat.add_le_add_right hup 3) (by decide) | (simp only [units_deeper]; omega)
  case R =>
    intro hmx f n ev hH base2 h₀2 h3 tk3 own3 c d t oD tn tc nn' K3 N3 hoD hs l3 l4 l5
    obtain ⟨h₀', K0⟩ := Back.up C0 FG' K3 K3.ab (fun _ hp => hp)
    obtain ⟨Fz, Nz⟩ := K0.led K3.F N3 (fun _ hp => hp)
    exact hR hmx f n ev hH base2 h₀' h3 _ own3 c d t oD tn tc nn' ⟨K0.TB, K0.T0, K0.B, K0.XB, K0.TT, Fz, K0.ab, K0.st⟩ Nz hoD hs l3 l4 l5
  case E =>
    have hncs := frames_noStat B' (top_stat TB)
    have D0 := ktsDicts_push hD FG' hf
    intro X y hXY base2 h₀2 G h3 e t tk3 tx3 own3 K3 R3 U3
    have D3 := KtsDicts.turn2 D0 K3.T0 hncs
    obtain ⟨TB2, T02, B2, XB2, TT2, F3, ab2, st2⟩ := K3
    clear F1 N1 F2 N2 hD D0 B' X' T'
    rcases hXY with ⟨e1, rfl, rfl⟩ | ⟨e1, e2, rfl, rfl⟩
    · k_steps
      rename Fr _ L' _ _ => F9
      rename News _ L' _ (_ ++ _ :: _) => N9
      rename KtsTurn _ _ _ => T9
      obtain ⟨h₀', K0⟩ := Back.up (news := (told, W.listOf tl.toArray nn) :: rest) (own' := own3) C0 FG' (newsI := (told, W.listOf tl.toArray nn) :: rest) (own := own3) ⟨TB2, T02.trans (Turn.ofKts T9 hncs), by assumption, XB2, TT2, F9, ab2, st2⟩ ab2 (fun _ hp => hp)
      obtain ⟨Fz, Nz⟩ := K0.led F9 N9 (fun _ hp => hp)
      exact hE _ (.inl ⟨e1, rfl⟩) base2 h₀' _ _ _ own3 ⟨K0.TB, K0.T0, K0.B, K0.XB, K0.TT, Fz, K0.ab, K0.st⟩ Nz
    · k_steps
      rename Fr _ L' _ _ => F9
      rename News _ L' _ (_ ++ _ :: _) => N9
      rename KtsTurn _ _ _ => T9
      obtain ⟨h₀', K0⟩ := Back.up (news := (told, W.listOf tl.toArray nn) :: rest) (own' := own3) C0 FG' (newsI := (told, W.listOf tl.toArray nn) :: rest) (own := own3) ⟨TB2, T02.trans (Turn.ofKts T9 hncs), by assumption, XB2, TT2, F9, ab2, st2⟩ ab2 (fun _ hp => hp)
      obtain ⟨Fz, Nz⟩ := K0.led F9 N9 (fun _ hp => hp)
      exact hE _ (.inr ⟨e1, e2, rfl⟩) base2 h₀' _ _ _ own3 ⟨K0.TB, K0.T0, K0.B, K0.XB, K0.TT, Fz, K0.ab, K0.st⟩ Nz
end
end

-- L_k
section
open PySem.Calls
theorem words_L_k : True := by
  w_top off
  k_with_none
  (k_with "ne" => with_reducible first | exact Nat.ne_of_lt (‹@LT.lt _ _ _ _ ∧ _›).1 | exact Nat.ne_of_gt (‹@LT.lt _ _ _ _ ∧ _›).1 | exact Nat.ne_of_lt (‹_ ∧ @LT.lt _ _ _ _ ∧ _›).2.1 | exact Nat.ne_of_gt (‹_ ∧ @LT.lt _ _ _ _ ∧ _›).2.1 | exact Nat.ne_of_lt (‹_ ∧ _ ∧ @LT.lt _ _ _ _ ∧ _›).2.2.1 | exact Nat.ne_of_gt (‹_ ∧ _ ∧ @LT.lt _ _ _ _ ∧ _›).2.2.1 | exact Nat.ne_of_lt (‹_ ∧ _ ∧ _ ∧ @LT.lt _ _ _ _ ∧ _›).2.2.2.1 | exact Nat.ne_of_gt (‹_ ∧ _ ∧ _ ∧ @LT.lt _ _ _ _ ∧ _›).2.2.2.1 | exact Nat.ne_of_lt (‹_ ∧ _ ∧ _ ∧ _ ∧ @LT.lt _ _ _ _ ∧ _›).2.2.2.2.1 | exact Nat.ne_of_gt (‹_ ∧ _ ∧ _ ∧ _ ∧ @LT.lt _ _ _ _ ∧ _›).2.2.2.2.1 | exact Nat.ne_of_lt (‹_ ∧ _ ∧ _ ∧ _ ∧ _ ∧ @LT.lt _ _ _ _ ∧ _›).2.2.2.2.2.1 | exact Nat.ne_of_gt (‹_ ∧ _ ∧ _ ∧ _ ∧ _ ∧ @LT.lt _ _ _ _ ∧ _›).2.2.2.2.2.1 | exact Nat.ne_of_lt (‹_ ∧ _ ∧ _ ∧ _ ∧ _ ∧ _ ∧ @LT.lt _ _ _ _ ∧ _›).2.2.2.2.2.2.1 | exact Nat.ne_of_gt (‹_ ∧ _ ∧ _ ∧ _ ∧ _ ∧ _ ∧ @LT.lt _ _ _ _ ∧ _›).2.2.2.2.2.2.1 | exact Nat.ne_of_lt (‹_ ∧ _ ∧ _ ∧ _ ∧ _ ∧ _ ∧ _ ∧ @LT.lt _ _ _ _ ∧ _›).2.2.2.2.2.2.2.1 | exact Nat.ne_of_gt (‹_ ∧ _ ∧ _ ∧ _ ∧ _ ∧ _ ∧ _ ∧ @LT.lt _ _ _ _ ∧ _›).2.2.2.2.2.2.2.1 | exact Nat.ne_of_lt (‹_ ∧ _ ∧ _ ∧ _ ∧ _ ∧ _ ∧ _ ∧ _ ∧ @LT.lt _ _ _ _ ∧ _›).2.2.2.2.2.2.2.2.1 | exact Nat.ne_of_gt (‹_ ∧ _ ∧ _ ∧ _ ∧ _ ∧ _ ∧ _ ∧ _ ∧ @LT.lt _ _ _ _ ∧ _›).2.2.2.2.2.2.2.2.1 | exact Nat.ne_of_lt (‹_ ∧ _ ∧ _ ∧ _ ∧ _ ∧ _ ∧ _ ∧ _ ∧ _ ∧ @LT.lt _ _ _ _ ∧ _›).2.2.2.2.2.2.2.2.2.1 | exact Nat.ne_of_gt (‹_ ∧ _ ∧ _ ∧ _ ∧ _ ∧ _ ∧ _ ∧ _ ∧ _ ∧ @LT.lt _ _ _ _ ∧ _›).2.2.2.2.2.2.2.2.2.1 | exact Nat.ne_of_lt (‹_ ∧ _ ∧ _ ∧ _ ∧ _ ∧ _ ∧ _ ∧ _ ∧ _ ∧ _ ∧ @LT.lt _ _ _ _ ∧ _›).2.2.2.2.2.2.2.2.2.2.1 | exact Nat.ne_of_gt (‹_ ∧ _ ∧ _ ∧ _ ∧ _ ∧ _ ∧ _ ∧ _ ∧ _ ∧ _ ∧ @LT.lt _ _ _ _ ∧ _›).2.2.2.2.2.2.2.2.2.2.1 | exact Nat.ne_of_lt (‹_ ∧ _ ∧ _ ∧ _ ∧ _ ∧ _ ∧ _ ∧ _ ∧ _ ∧ _ ∧ _ ∧ @LT.lt _ _ _ _ ∧ _›).2.2.2.2.2.2.2.2.2.2.2.1 | exact Nat.ne_of_gt (‹_ ∧ _ ∧ _ ∧ _ ∧ _ ∧ _ ∧ _ ∧ _ ∧ _ ∧ _ ∧ _ ∧ @LT.lt _ _ _ _ ∧ _›).2.2.2.2.2.2.2.2.2.2.2.1 | exact Nat.ne_of_lt (‹_ ∧ _ ∧ _ ∧ _ ∧ _ ∧ _ ∧ _ ∧ _ ∧ _ ∧ _ ∧ _ ∧ _ ∧ @LT.lt _ _ _ _ ∧ _›).2.2.2.2.2.2.2.2.2.2.2.2.1 | exact Nat.ne_of_gt (‹_ ∧ _ ∧ _ ∧ _ ∧ _ ∧ _ ∧ _ ∧ _ ∧ _ ∧ _ ∧ _ ∧ _ ∧ @LT.lt _ _ _ _ ∧ _›).2.2.2.2.2.2.2.2.2.2.2.2.1 | exact Nat.ne_of_lt (‹_ ∧ _ ∧ _ ∧ _ ∧ _ ∧ _ ∧ _ ∧ _ ∧ _ ∧ _ ∧ _ ∧ _ ∧ _ ∧ @LT.lt _ _ _ _ ∧ _›).2.2.2.2.2.2.2.2.2.2.2.2.2.1 | exact Nat.ne_of_gt (‹_ ∧ _ ∧ _ ∧ _ ∧ _ ∧ _ ∧ _ ∧ _ ∧ _ ∧ _ ∧ _ ∧ _ ∧ _ ∧ @LT.lt _ _ _ _ ∧ _›).2.2.2.2.2.2.2.2.2.2.2.2.2.1)
  (k_with "adr" => (repeat (first | exact List.Mem.head _ | refine List.Mem.tail _ ?_)))
  (k_with "mine cx" => exact ⟨by assumption, by assumption, by assumption, by assumption, rfl, rfl, rfl, by (first | exact Nat.le_trans (Nat.succ_le_succ (show _ ≤ 330 by assumption)) (by decide) | exact Nat.le_trans (Nat.succ_le_succ (show _ ≤ 340 by assumption)) (by decide) | exact Nat.le_trans (Nat.succ_le_succ (show _ ≤ 345 by assumption)) (by decide) | exact Nat.le_trans (Nat.succ_le_succ (show _ ≤ 350 by assumption)) (by decide) | (simp only [depth_deeper]; omega)), by (first | exact Nat.le_trans (Nat.add_le_add_right (show _ ≤ 100 by assumption) 3) (by decide) | exact Nat.le_trans (Nat.add_le_add_right (show _ ≤ 130 by assumption) 3) (by decide) | exact Nat.le_trans (Nat.add_le_add_right (show _ ≤ 140 by assumption) 3) (by decide) | exact Nat.le_trans (Nat.add_le_add_right (show _ ≤ 150 by assumption) 3) (by decide) | (simp only [units_deeper]; omega)), rfl, by assumption, by assumption, by assumption⟩)
  (k_with "kind k_mem" => first | assumption | (refine List.mem_append_left _ ?_; k_mem) | (refine List.mem_append_right _ ?_; k_mem))
  (k_with "kind k_room" => (show _ < _; simp only [depth_under_make, depth_under_kw, depth_in1, depth_deeper, depth_caller, recursionLimit]; omega))
  (k_with "spliced" => (k_here; (with_reducible show wpAny _ _ (spliced (backTo _ (starEach (Expr.Constant (Const.str _) _ _ :: Expr.Constant (Const.str _) _ _ :: _) _))) _ _ _); (first | refine strs_display (.cons (.cons .nil)) ?_ | refine strs_display (.cons (.cons (.cons .nil))) ?_ | refine strs_display (.cons (.cons (.cons (.cons (.cons .nil))))) ?_); intro _ _))
  (k_with "subscriptTail Name Name ref int" => (refine Halt.to ?_))
  (k_with "call type:KeyError" => (k_here; (refine' key_led ?w111F ?w111N ?_; (case w111F => k_asm); (case w111N => k_asm); intro _ _ _ _ _ l9x; (try k_lt l9x); revert l9x; intro _)))
  trivial
set_option maxHeartbeats 4000000
section
variable {prog : Program} {w : World} {A : Around} {E : Value → Shared → Prop} {s : Shared} {X N I : String}
/-- a new exception of a built-in class, with what it was made from -/
theorem call_made2 (hc : ExcClass X N I) {rest : List Value} {Q : Value → Shared → Prop} (hrest : rest.length ≤ sizeLine)
    (h : ∀ h' e, Heap.MadeExc s.heap h' e X rest → s.heap.objs.size ≤ e → Q (.ref e) { s with heap := h' }) :
    wpAny (model prog w) A (call (.type X) rest) Q E s := by
  refine wpAny_call (codeAny_of_tree ?_)
  show wpAny _ _ (callAny (.type X) ⟨rest, []⟩) _ _ s
  simp only [callAny]
  refine wpAny_pure ⟨Code.quiet_builtin _ (by decide +kernel), codeAny_builtin entry_type_call ?_⟩
  rw [Around.under_plain (weight_type_call X _ _) (by first | rfl | kernel_rfl | decide +kernel)]
  unfold Builtin.«type.__call__»
  dsimp only
  rw [if_neg (by rw [hc.notType]; exact Bool.false_ne_true), if_neg (by rw [hc.canNew]; exact Bool.false_ne_true)]
  obtain ⟨l, hl, hle⟩ := hc.mro
  refine wpAny_bind (wpAny_of_eq (hc.typeCall rest) (wpAny_bind (wpAny_of_eq hl ?_)))
  rw [if_neg (by rw [hle]; exact Bool.false_ne_true)]
  refine wpAny_bind (wpAny_of_eq hc.madeBy ?_)
  dsimp only
  refine wpAny_bind (wpAny_pure (wpAny_bind (wpAny_holding (new_exc hc ?_ hrest))))
  have hT : ∀ h : Heap, (h.push ({ cls := .type X, data := .fields #[.ref s.heap.objs.size, .none, .none, .none, .bool false, .none] } : Obj)).get? h.objs.size = some ({ cls := .type X, data := .fields #[.ref s.heap.objs.size, .none, .none, .none, .bool false, .none] } : Obj) := fun h => Heap.get?_push_size _ rfl
  refine wpAny_bind (wpAny_isInstance (T := X) ⟨_, hT _, rfl⟩ hc.self ?_)
  simp only [Bool.not_true, Bool.false_eq_true, if_false]
  refine wpAny_bind (wpAny_holding (wpAny_callSpecial?_slot (name := Str.ofString "__init__") (T := X) ⟨_, hT _, rfl⟩ hc.init (init_exc hc (hT _) rfl rfl rfl ?_ hrest)))
  dsimp only
  rw [if_neg (by simp)]
  have ne : s.heap.objs.size + 1 + 1 ≠ s.heap.objs.size + 1 := by omega
  refine wpAny_pure (h _ _ ⟨fun b o hb => ?_, Heap.get?_none_of_le (by simp), s.heap.objs.size + 1 + 1, (Heap.get?_update_self _ (Heap.get?_push_of_some _ (hT _)) (Obj.isFreed_of_fields (Obj.data_mapFields rfl _))).trans (congrArg some ?_), Heap.get?_none_of_le (by omega), ?_⟩ (by rw [Heap.size_push]; omega))
  · rw [Heap.get?_update_other _ _ (Nat.ne_of_gt (Nat.lt_of_lt_of_le (Heap.lt_size hb) (by simp)))]
    exact Heap.get?_push_of_some _ (Heap.get?_push_of_some _ (Heap.get?_push_of_some _ hb))
  · simp only [Heap.size_push]
    rfl
  · rw [Heap.get?_update_other _ _ (by rw [Heap.size_push]; exact Ne.symm ne)]
    exact Heap.get?_push_at (by simp only [Heap.size_push]) rfl
end
noncomputable def keyObj (t : Addr) : Obj := { cls := .type "KeyError", data := .fields #[.ref t, .none, .none, .none, .bool false, .none] }
section
variable {prog : Program} {w : World} {A : Around} {E : Value → Shared → Prop} {s : Shared} {h₀ : Heap} {L : Addr} {m : Str → Option Value} {news : List (Addr × Obj)}
theorem key_led {v : Value} {Q : Value → Shared → Prop} (F : Fr h₀ L s.heap m) (N : News h₀ L s.heap news)
    (h : ∀ h' e t, Fr h₀ L h' m → News h₀ L h' ((e, keyObj t) :: news) → (∀ p ∈ news, p.1 < e) → Q (.ref e) { s with heap := h' }) : wpAny (model prog w) A (call (.type "KeyError") [v]) Q E s := by
  refine call_made2 excClass_KeyError (Nat.le_of_ble_eq_true rfl) fun h' e hx hz => ?_
  obtain ⟨t, h1, _, _⟩ := hx.there
  refine h h' e t ⟨F.ns.keeps hx.keeps, fun b o q => hx.keeps _ _ (F.keep _ _ q), F.above⟩ (fun p hp => ?_) fun p hp => Nat.lt_of_lt_of_le (Heap.lt_size (N p hp).1) hz
  rcases List.mem_cons.mp hp with rfl | hp
  · refine ⟨h1, fun q => ?_, ?_⟩
    · obtain ⟨o, _, _, e1, _⟩ := F.ns
      have := hx.new
      rw [show e = L from q, e1] at this
      cases this
    · cases q : h₀.get? e with
      | none => rfl
      | some o =>
        have := hx.new
        rw [F.keep _ _ q] at this
        cases this
  · exact ⟨hx.keeps _ _ (N p hp).1, (N p hp).2⟩
end
section
variable {w : World} {A A₀ : Around} {E : Value → Shared → Prop} {s : Shared} {h₀ base : Heap} {L : Addr} {m mg mb : Str → Option Value} {news : List (Addr × Obj)} {p : Program} {loose : List Str} {mean : ExcName → Option Value} {env : Env} {outer : List Env}

/-- the thing is itself -/
noncomputable def IsSelf (v : Value) : Prop := ∀ (M : Model) (A : Around) (E : Value → Shared → Prop) (s : Shared) (Q : Value → Shared → Prop), Q (.bool true) s → wpAny M A (compareOp .Is v v) Q E s
theorem isSelf_bool {b : Bool} : IsSelf (.bool b) := fun _ _ _ _ _ h => wpAny_is_self rfl h
theorem isSelf_none : IsSelf .none := fun _ _ _ _ _ h => wpAny_is_self rfl h
theorem isSelf_ref {a : Addr} : IsSelf (.ref a) := fun _ _ _ _ _ h => wpAny_is_ref_self h
theorem created_self {M : Model} {A : Around} {E : Value → Shared → Prop} {s : Shared} {t : Tok} {R : Bool → Shared → Prop} (h : R true s) : wpAny M A (isSame.created true (t + 1) (t + 1)) R E s := by
  unfold isSame.created
  have h0 : ((t + 1 == 0) : Bool) = false := by simp
  rw [h0]
  simp only [Bool.or_self, Bool.false_eq_true, if_false, beq_self_eq_true, if_true]
  exact wpAny_bind (wpAny_pure (wpAny_pure h))
theorem isSelf_int7 {t : Tok} : IsSelf (.int 7 (t + 1)) := fun M A E s Q h => by
  show wpAny M A (isSame (.int 7 (t + 1)) (.int 7 (t + 1)) >>= fun b => pure (.bool b)) Q E s
  refine wpAny_bind ?_
  show wpAny M A (if ((7 : Int) == 7 && smallInt 7) = true then isSame.cachedInt (t + 1) (t + 1) else isSame.created ((7 : Int) == 7) (t + 1) (t + 1)) _ _ _
  rw [if_pos (by decide)]
  unfold isSame.cachedInt
  have h0 : ((t + 1 == 0) : Bool) = false := by simp
  rw [h0, if_neg (by simp)]
  exact wpAny_bind (wpAny_rule (wpAny_pure (wpAny_pure h)))
theorem isSelf_str {x : Str} {t : Tok} : IsSelf (.str x (t + 1)) := fun M A E s Q h => by
  show wpAny M A (isSame.created (x == x) (t + 1) (t + 1) >>= fun b => pure (.bool b)) Q E s
  rw [beq_self_eq_true]
  exact wpAny_bind (created_self (wpAny_pure h))
theorem isSelf_bytes {x : Array UInt8} {t : Tok} : IsSelf (.bytes x (t + 1)) := fun M A E s Q h => by
  show wpAny M A (isSame.created (x == x) (t + 1) (t + 1) >>= fun b => pure (.bool b)) Q E s
  rw [beq_self_eq_true]
  exact wpAny_bind (created_self (wpAny_pure h))
noncomputable def kindAt : Nat → String
  | 0 => "bool" | 1 => "int" | 2 => "str" | 3 => "bytes" | 4 => "list" | 5 => "tuple" | 6 => "dict" | 7 => "NoneType" | _ => "KeyError"
theorem item_nat {value slice : Expr} {l : Addr} {its : Array Value} {n i : Nat} {t : Tok} {v : Value} {Q : Value → Shared → Prop} (N : News h₀ L s.heap news) (hm : (l, W.listOf its n) ∈ news) (hi : i < 1000) (hv : its[i]? = some v) (h : Q v s)
    (hs : subscripted slice false (.ref l) (.int (i : Int) t) = operate [.ref l, .int (i : Int) t] (getItem (.ref l) (.int (i : Int) t))) :
    wpAny (model PR w) A (subscriptTail value slice (.ref l) (.int (i : Int) t)) Q E s := by
  have hl : s.heap.IsList l its := ⟨_, (N _ hm).1, rfl, n, rfl⟩
  exact tail_any hl.typeIs slot_list_getitem.lookup (wpAny_getItem_list hl (k := (i : Int)) (by omega) (by omega) (by simpa using hv) h) hs

theorem kinds_end {j : Nat} {whole own2 : List (Addr × Obj)} {h' : Heap} {tk nl : Nat} {p cl : Addr} {obj : Value} {vs : List Value} {Q : Value → Shared → Prop} (F10 : Fr h₀ L h' m) (N10 : News h₀ L h' whole) (m1 : (p, ({ cls := .type "tuple", data := .seq #[obj, .ref cl] } : Obj)) ∈ whole) (m2 : (cl, W.listOf vs.toArray nl) ∈ whole)
    (hs : StrsAre vs ((chainOf (kindAt j)).map Str.ofString)) (m3 : ∀ q ∈ own2, q ∈ whole) (ht : ∀ (g : Heap) (L : Addr) (s : Shared), News g L s.heap own2 → s.TypeIs obj (kindAt j)) (hi : IsSelf obj) (ab : Above ((p, ({ cls := .type "tuple", data := .seq #[obj, .ref cl] } : Obj)) :: (cl, W.listOf vs.toArray nl) :: own2) news) (mn : ∀ q ∈ news, q ∈ whole)
    (h : ∀ h' tk own p obj cl vs nl, Fr h₀ L h' m → News h₀ L h' (own ++ news) → Above own news → (p, ({ cls := .type "tuple", data := .seq #[obj, .ref cl] } : Obj)) ∈ own → (cl, W.listOf vs.toArray nl) ∈ own → StrsAre vs ((chainOf (kindAt j)).map Str.ofString) →
      (∀ (g : Heap) (L : Addr) (s : Shared), News g L s.heap own → s.TypeIs obj (kindAt j)) → IsSelf obj → Q (.ref p) { s with heap := h', toks := tk }) : Q (.ref p) { s with heap := h', toks := tk } := by
  refine h h' tk ((p, ({ cls := .type "tuple", data := .seq #[obj, .ref cl] } : Obj)) :: (cl, W.listOf vs.toArray nl) :: own2) p obj cl vs nl F10 (news_sub N10 fun q hq => ?_) ab (.head _) (.tail _ (.head _)) hs (fun g L s Nx => ht g L s fun q hq => Nx q (.tail _ (.tail _ hq))) hi
  rcases List.mem_append.mp hq with hq | hq
  · rcases List.mem_cons.mp hq with rfl | hq
    · exact m1
    · rcases List.mem_cons.mp hq with rfl | hq
      · exact m2
      · exact m3 q hq
  · exact mn q hq
theorem kinds_end2 {j : Nat} {whole : List (Addr × Obj)} {h' : Heap} {tk nl : Nat} {p cl a : Addr} {oo : Obj} {vs : List Value} {Q : Value → Shared → Prop} (F10 : Fr h₀ L h' m) (N10 : News h₀ L h' whole) (m1 : (p, ({ cls := .type "tuple", data := .seq #[.ref a, .ref cl] } : Obj)) ∈ whole) (m2 : (cl, W.listOf vs.toArray nl) ∈ whole)
    (hs : StrsAre vs ((chainOf (kindAt j)).map Str.ofString)) (m3 : (a, oo) ∈ whole) (hc : oo.cls = .type (kindAt j)) (ab : Above ((p, ({ cls := .type "tuple", data := .seq #[.ref a, .ref cl] } : Obj)) :: (cl, W.listOf vs.toArray nl) :: [(a, oo)]) news) (mn : ∀ q ∈ news, q ∈ whole)
    (h : ∀ h' tk own p obj cl vs nl, Fr h₀ L h' m → News h₀ L h' (own ++ news) → Above own news → (p, ({ cls := .type "tuple", data := .seq #[obj, .ref cl] } : Obj)) ∈ own → (cl, W.listOf vs.toArray nl) ∈ own → StrsAre vs ((chainOf (kindAt j)).map Str.ofString) →
      (∀ (g : Heap) (L : Addr) (s : Shared), News g L s.heap own → s.TypeIs obj (kindAt j)) → IsSelf obj → Q (.ref p) { s with heap := h', toks := tk }) : Q (.ref p) { s with heap := h', toks := tk } :=
  kinds_end (own2 := [(a, oo)]) F10 N10 m1 m2 hs (fun q hq => by rw [List.mem_singleton.mp hq]; exact m3) (fun g L s Nx => ⟨oo, (Nx _ (.head _)).1, hc⟩) isSelf_ref ab mn h
theorem pick9 {P : Nat → Prop} (h0 : P 0) (h1 : P 1) (h2 : P 2) (h3 : P 3) (h4 : P 4) (h5 : P 5) (h6 : P 6) (h7 : P 7) (h8 : P 8) : ∀ {j : Nat}, j < 9 → P j
  | 0, _ => h0 | 1, _ => h1 | 2, _ => h2 | 3, _ => h3 | 4, _ => h4 | 5, _ => h5 | 6, _ => h6 | 7, _ => h7 | 8, _ => h8
  | _ + 9, h => absurd h (Nat.not_lt_of_le (Nat.le_add_left _ _))
theorem kinds_ok {j : Nat} {tk : Tok} {Q : Value → Shared → Prop}
    (C : Cx w A₀ A base h₀ s.heap L m p loose mean mg mb env outer) (N : News h₀ L s.heap news) (hj : j < 9)
    (h : ∀ h' tk own p obj cl vs nl, Fr h₀ L h' m → News h₀ L h' (own ++ news) → Above own news → (p, ({ cls := .type "tuple", data := .seq #[obj, .ref cl] } : Obj)) ∈ own → (cl, W.listOf vs.toArray nl) ∈ own → StrsAre vs ((chainOf (kindAt j)).map Str.ofString) →
      (∀ (g : Heap) (L : Addr) (s : Shared), News g L s.heap own → s.TypeIs obj (kindAt j)) → IsSelf obj → Q (.ref p) { s with heap := h', toks := tk }) :
    wpAny (model PySem.Challenge.rw_in0087_01.row.prog w) A (call (.ref 77) [.int (j : Int) tk] []) Q E s := by
  have kX0 := C.X
  revert kX0
  k_fill
  intro kX0
  refine' enter C N ?k6 ?k7 ?k8 ?k9 ?c1 ?c2 ?c3 ?c4 ?_
  case k6 => k_dflt k_is
  case k7 => k_dflt k_is
  case k8 => exact BindsTo.of_eq rfl
  case k9 => exact locs rfl
  case c1 => exact rfl
  case c2 => exact rfl
  case c3 => exact rfl
  case c4 => decide
  clear kX0
  obtain ⟨B, F, X, T, hA, hf, hke, hroom, hun, hh, hc90⟩ := C
  obtain ⟨hd', dep, fr, gs, un⟩ := A
  dsimp only at hA hroom hun hh
  subst hA
  subst hh
  clear F T X
  intro g' L' h' FG' F' N' B' X' T'
  try dsimp only
  try k_fold
  k_steps
  unfold Halt
  rename Fr g' _ _ _ => F9
  rename News g' _ _ _ => N9
  rename ∀ (p : Addr × Obj), p ∈ news → _ => a1
  revert F9 N9 h
  revert hj
  revert j
  refine @pick9 _ ?_ ?_ ?_ ?_ ?_ ?_ ?_ ?_ ?_
  · intro h F9 N9
    refine' item_nat (hs := by with_unfolding_all rfl) N9 (.head _) (by decide) rfl ?_
    refine leaveK_ F9 N9 fun F10 N10 => ?_
    refine' kinds_end (own2 := []) F10 N10 ?m1 ?m2 ?hs ?m3 ?ht ?hi ?ab ?mn h
    case m1 => k_mem
    case m2 => k_mem
    case hs => assumption
    case mn => intro q hq; k_mem
    case m3 => intro q hq; cases hq
    case ht => intro g L s _; exact rfl
    case hi => first | exact isSelf_bool | exact isSelf_none | exact isSelf_int7 | exact isSelf_str | exact isSelf_bytes
    case ab => exact (allC (fun q2 h2 => by (first | exact a1 q2 h2 | exact allLt_get (‹AllLt _ news›) q2 h2 | exact allLt_get (‹_ ∧ AllLt _ news›).2 q2 h2 | exact allLt_get (‹_ ∧ _ ∧ AllLt _ news›).2.2 q2 h2 | exact allLt_get (‹_ ∧ _ ∧ _ ∧ AllLt _ news›).2.2.2 q2 h2 | exact allLt_get (‹_ ∧ _ ∧ _ ∧ _ ∧ AllLt _ news›).2.2.2.2 q2 h2 | exact allLt_get (‹_ ∧ _ ∧ _ ∧ _ ∧ _ ∧ AllLt _ news›).2.2.2.2.2 q2 h2 | exact allLt_get (‹_ ∧ _ ∧ _ ∧ _ ∧ _ ∧ _ ∧ AllLt _ news›).2.2.2.2.2.2 q2 h2 | exact allLt_get (‹_ ∧ _ ∧ _ ∧ _ ∧ _ ∧ _ ∧ _ ∧ AllLt _ news›).2.2.2.2.2.2.2 q2 h2 | exact allLt_get (‹_ ∧ _ ∧ _ ∧ _ ∧ _ ∧ _ ∧ _ ∧ _ ∧ AllLt _ news›).2.2.2.2.2.2.2.2 q2 h2 | exact allLt_get (‹_ ∧ _ ∧ _ ∧ _ ∧ _ ∧ _ ∧ _ ∧ _ ∧ _ ∧ AllLt _ news›).2.2.2.2.2.2.2.2.2 q2 h2 | exact allLt_get (‹_ ∧ _ ∧ _ ∧ _ ∧ _ ∧ _ ∧ _ ∧ _ ∧ _ ∧ _ ∧ AllLt _ news›).2.2.2.2.2.2.2.2.2.2 q2 h2 | exact allLt_get (‹_ ∧ _ ∧ _ ∧ _ ∧ _ ∧ _ ∧ _ ∧ _ ∧ _ ∧ _ ∧ _ ∧ AllLt _ news›).2.2.2.2.2.2.2.2.2.2.2 q2 h2 | exact allLt_get (‹_ ∧ _ ∧ _ ∧ _ ∧ _ ∧ _ ∧ _ ∧ _ ∧ _ ∧ _ ∧ _ ∧ _ ∧ AllLt _ news›).2.2.2.2.2.2.2.2.2.2.2.2 q2 h2 | exact allLt_get (‹_ ∧ _ ∧ _ ∧ _ ∧ _ ∧ _ ∧ _ ∧ _ ∧ _ ∧ _ ∧ _ ∧ _ ∧ _ ∧ AllLt _ news›).2.2.2.2.2.2.2.2.2.2.2.2.2 q2 h2 | exact allLt_get (‹_ ∧ _ ∧ _ ∧ _ ∧ _ ∧ _ ∧ _ ∧ _ ∧ _ ∧ _ ∧ _ ∧ _ ∧ _ ∧ _ ∧ AllLt _ news›).2.2.2.2.2.2.2.2.2.2.2.2.2.2 q2 h2 | exact allLt_get (‹_ ∧ _ ∧ _ ∧ _ ∧ _ ∧ _ ∧ _ ∧ _ ∧ _ ∧ _ ∧ _ ∧ _ ∧ _ ∧ _ ∧ _ ∧ AllLt _ news›).2.2.2.2.2.2.2.2.2.2.2.2.2.2.2 q2 h2 | exact allLt_get (‹_ ∧ _ ∧ _ ∧ _ ∧ _ ∧ _ ∧ _ ∧ _ ∧ _ ∧ _ ∧ _ ∧ _ ∧ _ ∧ _ ∧ _ ∧ _ ∧ AllLt _ news›).2.2.2.2.2.2.2.2.2.2.2.2.2.2.2.2 q2 h2 | exact allLt_get (‹_ ∧ _ ∧ _ ∧ _ ∧ _ ∧ _ ∧ _ ∧ _ ∧ _ ∧ _ ∧ _ ∧ _ ∧ _ ∧ _ ∧ _ ∧ _ ∧ _ ∧ AllLt _ news›).2.2.2.2.2.2.2.2.2.2.2.2.2.2.2.2.2 q2 h2 | exact allLt_get (‹_ ∧ _ ∧ _ ∧ _ ∧ _ ∧ _ ∧ _ ∧ _ ∧ _ ∧ _ ∧ _ ∧ _ ∧ _ ∧ _ ∧ _ ∧ _ ∧ _ ∧ _ ∧ AllLt _ news›).2.2.2.2.2.2.2.2.2.2.2.2.2.2.2.2.2.2 q2 h2 | exact allLt_get (‹_ ∧ _ ∧ _ ∧ _ ∧ _ ∧ _ ∧ _ ∧ _ ∧ _ ∧ _ ∧ _ ∧ _ ∧ _ ∧ _ ∧ _ ∧ _ ∧ _ ∧ _ ∧ _ ∧ AllLt _ news›).2.2.2.2.2.2.2.2.2.2.2.2.2.2.2.2.2.2.2 q2 h2 | exact allLt_get (‹_ ∧ _ ∧ _ ∧ _ ∧ _ ∧ _ ∧ _ ∧ _ ∧ _ ∧ _ ∧ _ ∧ _ ∧ _ ∧ _ ∧ _ ∧ _ ∧ _ ∧ _ ∧ _ ∧ _ ∧ AllLt _ news›).2.2.2.2.2.2.2.2.2.2.2.2.2.2.2.2.2.2.2.2 q2 h2 | exact allLt_get (‹_ ∧ _ ∧ _ ∧ _ ∧ _ ∧ _ ∧ _ ∧ _ ∧ _ ∧ _ ∧ _ ∧ _ ∧ _ ∧ _ ∧ _ ∧ _ ∧ _ ∧ _ ∧ _ ∧ _ ∧ _ ∧ AllLt _ news›).2.2.2.2.2.2.2.2.2.2.2.2.2.2.2.2.2.2.2.2.2 q2 h2 | exact allLt_get (‹_ ∧ _ ∧ _ ∧ _ ∧ _ ∧ _ ∧ _ ∧ _ ∧ _ ∧ _ ∧ _ ∧ _ ∧ _ ∧ _ ∧ _ ∧ _ ∧ _ ∧ _ ∧ _ ∧ _ ∧ _ ∧ _ ∧ AllLt _ news›).2.2.2.2.2.2.2.2.2.2.2.2.2.2.2.2.2.2.2.2.2.2 q2 h2 | exact allLt_get (‹_ ∧ _ ∧ _ ∧ _ ∧ _ ∧ _ ∧ _ ∧ _ ∧ _ ∧ _ ∧ _ ∧ _ ∧ _ ∧ _ ∧ _ ∧ _ ∧ _ ∧ _ ∧ _ ∧ _ ∧ _ ∧ _ ∧ _ ∧ AllLt _ news›).2.2.2.2.2.2.2.2.2.2.2.2.2.2.2.2.2.2.2.2.2.2.2 q2 h2)) (allC (fun q2 h2 => by (first | exact a1 q2 h2 | exact allLt_get (‹AllLt _ news›) q2 h2 | exact allLt_get (‹_ ∧ AllLt _ news›).2 q2 h2 | exact allLt_get (‹_ ∧ _ ∧ AllLt _ news›).2.2 q2 h2 | exact allLt_get (‹_ ∧ _ ∧ _ ∧ AllLt _ news›).2.2.2 q2 h2 | exact allLt_get (‹_ ∧ _ ∧ _ ∧ _ ∧ AllLt _ news›).2.2.2.2 q2 h2 | exact allLt_get (‹_ ∧ _ ∧ _ ∧ _ ∧ _ ∧ AllLt _ news›).2.2.2.2.2 q2 h2 | exact allLt_get (‹_ ∧ _ ∧ _ ∧ _ ∧ _ ∧ _ ∧ AllLt _ news›).2.2.2.2.2.2 q2 h2 | exact allLt_get (‹_ ∧ _ ∧ _ ∧ _ ∧ _ ∧ _ ∧ _ ∧ AllLt _ news›).2.2.2.2.2.2.2 q2 h2 | exact allLt_get (‹_ ∧ _ ∧ _ ∧ _ ∧ _ ∧ _ ∧ _ ∧ _ ∧ AllLt _ news›).2.2.2.2.2.2.2.2 q2 h2 | exact allLt_get (‹_ ∧ _ ∧ _ ∧ _ ∧ _ ∧ _ ∧ _ ∧ _ ∧ _ ∧ AllLt _ news›).2.2.2.2.2.2.2.2.2 q2 h2 | exact allLt_get (‹_ ∧ _ ∧ _ ∧ _ ∧ _ ∧ _ ∧ _ ∧ _ ∧ _ ∧ _ ∧ AllLt _ news›).2.2.2.2.2.2.2.2.2.2 q2 h2 | exact allLt_get (‹_ ∧ _ ∧ _ ∧ _ ∧ _ ∧ _ ∧ _ ∧ _ ∧ _ ∧ _ ∧ _ ∧ AllLt _ news›).2.2.2.2.2.2.2.2.2.2.2 q2 h2 | exact allLt_get (‹_ ∧ _ ∧ _ ∧ _ ∧ _ ∧ _ ∧ _ ∧ _ ∧ _ ∧ _ ∧ _ ∧ _ ∧ AllLt _ news›).2.2.2.2.2.2.2.2.2.2.2.2 q2 h2 | exact allLt_get (‹_ ∧ _ ∧ _ ∧ _ ∧ _ ∧ _ ∧ _ ∧ _ ∧ _ ∧ _ ∧ _ ∧ _ ∧ _ ∧ AllLt _ news›).2.2.2.2.2.2.2.2.2.2.2.2.2 q2 h2 | exact allLt_get (‹_ ∧ _ ∧ _ ∧ _ ∧ _ ∧ _ ∧ _ ∧ _ ∧ _ ∧ _ ∧ _ ∧ _ ∧ _ ∧ _ ∧ AllLt _ news›).2.2.2.2.2.2.2.2.2.2.2.2.2.2 q2 h2 | exact allLt_get (‹_ ∧ _ ∧ _ ∧ _ ∧ _ ∧ _ ∧ _ ∧ _ ∧ _ ∧ _ ∧ _ ∧ _ ∧ _ ∧ _ ∧ _ ∧ AllLt _ news›).2.2.2.2.2.2.2.2.2.2.2.2.2.2.2 q2 h2 | exact allLt_get (‹_ ∧ _ ∧ _ ∧ _ ∧ _ ∧ _ ∧ _ ∧ _ ∧ _ ∧ _ ∧ _ ∧ _ ∧ _ ∧ _ ∧ _ ∧ _ ∧ AllLt _ news›).2.2.2.2.2.2.2.2.2.2.2.2.2.2.2.2 q2 h2 | exact allLt_get (‹_ ∧ _ ∧ _ ∧ _ ∧ _ ∧ _ ∧ _ ∧ _ ∧ _ ∧ _ ∧ _ ∧ _ ∧ _ ∧ _ ∧ _ ∧ _ ∧ _ ∧ AllLt _ news›).2.2.2.2.2.2.2.2.2.2.2.2.2.2.2.2.2 q2 h2 | exact allLt_get (‹_ ∧ _ ∧ _ ∧ _ ∧ _ ∧ _ ∧ _ ∧ _ ∧ _ ∧ _ ∧ _ ∧ _ ∧ _ ∧ _ ∧ _ ∧ _ ∧ _ ∧ _ ∧ AllLt _ news›).2.2.2.2.2.2.2.2.2.2.2.2.2.2.2.2.2.2 q2 h2 | exact allLt_get (‹_ ∧ _ ∧ _ ∧ _ ∧ _ ∧ _ ∧ _ ∧ _ ∧ _ ∧ _ ∧ _ ∧ _ ∧ _ ∧ _ ∧ _ ∧ _ ∧ _ ∧ _ ∧ _ ∧ AllLt _ news›).2.2.2.2.2.2.2.2.2.2.2.2.2.2.2.2.2.2.2 q2 h2 | exact allLt_get (‹_ ∧ _ ∧ _ ∧ _ ∧ _ ∧ _ ∧ _ ∧ _ ∧ _ ∧ _ ∧ _ ∧ _ ∧ _ ∧ _ ∧ _ ∧ _ ∧ _ ∧ _ ∧ _ ∧ _ ∧ AllLt _ news›).2.2.2.2.2.2.2.2.2.2.2.2.2.2.2.2.2.2.2.2 q2 h2 | exact allLt_get (‹_ ∧ _ ∧ _ ∧ _ ∧ _ ∧ _ ∧ _ ∧ _ ∧ _ ∧ _ ∧ _ ∧ _ ∧ _ ∧ _ ∧ _ ∧ _ ∧ _ ∧ _ ∧ _ ∧ _ ∧ _ ∧ AllLt _ news›).2.2.2.2.2.2.2.2.2.2.2.2.2.2.2.2.2.2.2.2.2 q2 h2 | exact allLt_get (‹_ ∧ _ ∧ _ ∧ _ ∧ _ ∧ _ ∧ _ ∧ _ ∧ _ ∧ _ ∧ _ ∧ _ ∧ _ ∧ _ ∧ _ ∧ _ ∧ _ ∧ _ ∧ _ ∧ _ ∧ _ ∧ _ ∧ AllLt _ news›).2.2.2.2.2.2.2.2.2.2.2.2.2.2.2.2.2.2.2.2.2.2 q2 h2 | exact allLt_get (‹_ ∧ _ ∧ _ ∧ _ ∧ _ ∧ _ ∧ _ ∧ _ ∧ _ ∧ _ ∧ _ ∧ _ ∧ _ ∧ _ ∧ _ ∧ _ ∧ _ ∧ _ ∧ _ ∧ _ ∧ _ ∧ _ ∧ _ ∧ AllLt _ news›).2.2.2.2.2.2.2.2.2.2.2.2.2.2.2.2.2.2.2.2.2.2.2 q2 h2)) (List.forall_mem_nil _)))
  · intro h F9 N9
    refine' item_nat (hs := by with_unfolding_all rfl) N9 (.head _) (by decide) rfl ?_
    refine leaveK_ F9 N9 fun F10 N10 => ?_
    refine' kinds_end (own2 := []) F10 N10 ?m1 ?m2 ?hs ?m3 ?ht ?hi ?ab ?mn h
    case m1 => k_mem
    case m2 => k_mem
    case hs => assumption
    case mn => intro q hq; k_mem
    case m3 => intro q hq; cases hq
    case ht => intro g L s _; exact rfl
    case hi => first | exact isSelf_bool | exact isSelf_none | exact isSelf_int7 | exact isSelf_str | exact isSelf_bytes
    case ab => exact (allC (fun q2 h2 => by (first | exact a1 q2 h2 | exact allLt_get (‹AllLt _ news›) q2 h2 | exact allLt_get (‹_ ∧ AllLt _ news›).2 q2 h2 | exact allLt_get (‹_ ∧ _ ∧ AllLt _ news›).2.2 q2 h2 | exact allLt_get (‹_ ∧ _ ∧ _ ∧ AllLt _ news›).2.2.2 q2 h2 | exact allLt_get (‹_ ∧ _ ∧ _ ∧ _ ∧ AllLt _ news›).2.2.2.2 q2 h2 | exact allLt_get (‹_ ∧ _ ∧ _ ∧ _ ∧ _ ∧ AllLt _ news›).2.2.2.2.2 q2 h2 | exact allLt_get (‹_ ∧ _ ∧ _ ∧ _ ∧ _ ∧ _ ∧ AllLt _ news›).2.2.2.2.2.2 q2 h2 | exact allLt_get (‹_ ∧ _ ∧ _ ∧ _ ∧ _ ∧ _ ∧ _ ∧ AllLt _ news›).2.2.2.2.2.2.2 q2 h2 | exact allLt_get (‹_ ∧ _ ∧ _ ∧ _ ∧ _ ∧ _ ∧ _ ∧ _ ∧ AllLt _ news›).2.2.2.2.2.2.2.2 q2 h2 | exact allLt_get (‹_ ∧ _ ∧ _ ∧ _ ∧ _ ∧ _ ∧ _ ∧ _ ∧ _ ∧ AllLt _ news›).2.2.2.2.2.2.2.2.2 q2 h2 | exact allLt_get (‹_ ∧ _ ∧ _ ∧ _ ∧ _ ∧ _ ∧ _ ∧ _ ∧ _ ∧ _ ∧ AllLt _ news›).2.2.2.2.2.2.2.2.2.2 q2 h2 | exact allLt_get (‹_ ∧ _ ∧ _ ∧ _ ∧ _ ∧ _ ∧ _ ∧ _ ∧ _ ∧ _ ∧ _ ∧ AllLt _ news›).2.2.2.2.2.2.2.2.2.2.2 q2 h2 | exact allLt_get (‹_ ∧ _ ∧ _ ∧ _ ∧ _ ∧ _ ∧ _ ∧ _ ∧ _ ∧ _ ∧ _ ∧ _ ∧ AllLt _ news›).2.2.2.2.2.2.2.2.2.2.2.2 q2 h2 | exact allLt_get (‹_ ∧ _ ∧ _ ∧ _ ∧ _ ∧ _ ∧ _ ∧ _ ∧ _ ∧ _ ∧ _ ∧ _ ∧ _ ∧ AllLt _ news›).2.2.2.2.2.2.2.2.2.2.2.2.2 q2 h2 | exact allLt_get (‹_ ∧ _ ∧ _ ∧ _ ∧ _ ∧ _ ∧ _ ∧ _ ∧ _ ∧ _ ∧ _ ∧ _ ∧ _ ∧ _ ∧ AllLt _ news›).2.2.2.2.2.2.2.2.2.2.2.2.2.2 q2 h2 | exact allLt_get (‹_ ∧ _ ∧ _ ∧ _ ∧ _ ∧ _ ∧ _ ∧ _ ∧ _ ∧ _ ∧ _ ∧ _ ∧ _ ∧ _ ∧ _ ∧ AllLt _ news›).2.2.2.2.2.2.2.2.2.2.2.2.2.2.2 q2 h2 | exact allLt_get (‹_ ∧ _ ∧ _ ∧ _ ∧ _ ∧ _ ∧ _ ∧ _ ∧ _ ∧ _ ∧ _ ∧ _ ∧ _ ∧ _ ∧ _ ∧ _ ∧ AllLt _ news›).2.2.2.2.2.2.2.2.2.2.2.2.2.2.2.2 q2 h2 | exact allLt_get (‹_ ∧ _ ∧ _ ∧ _ ∧ _ ∧ _ ∧ _ ∧ _ ∧ _ ∧ _ ∧ _ ∧ _ ∧ _ ∧ _ ∧ _ ∧ _ ∧ _ ∧ AllLt _ news›).2.2.2.2.2.2.2.2.2.2.2.2.2.2.2.2.2 q2 h2 | exact allLt_get (‹_ ∧ _ ∧ _ ∧ _ ∧ _ ∧ _ ∧ _ ∧ _ ∧ _ ∧ _ ∧ _ ∧ _ ∧ _ ∧ _ ∧ _ ∧ _ ∧ _ ∧ _ ∧ AllLt _ news›).2.2.2.2.2.2.2.2.2.2.2.2.2.2.2.2.2.2 q2 h2 | exact allLt_get (‹_ ∧ _ ∧ _ ∧ _ ∧ _ ∧ _ ∧ _ ∧ _ ∧ _ ∧ _ ∧ _ ∧ _ ∧ _ ∧ _ ∧ _ ∧ _ ∧ _ ∧ _ ∧ _ ∧ AllLt _ news›).2.2.2.2.2.2.2.2.2.2.2.2.2.2.2.2.2.2.2 q2 h2 | exact allLt_get (‹_ ∧ _ ∧ _ ∧ _ ∧ _ ∧ _ ∧ _ ∧ _ ∧ _ ∧ _ ∧ _ ∧ _ ∧ _ ∧ _ ∧ _ ∧ _ ∧ _ ∧ _ ∧ _ ∧ _ ∧ AllLt _ news›).2.2.2.2.2.2.2.2.2.2.2.2.2.2.2.2.2.2.2.2 q2 h2 | exact allLt_get (‹_ ∧ _ ∧ _ ∧ _ ∧ _ ∧ _ ∧ _ ∧ _ ∧ _ ∧ _ ∧ _ ∧ _ ∧ _ ∧ _ ∧ _ ∧ _ ∧ _ ∧ _ ∧ _ ∧ _ ∧ _ ∧ AllLt _ news›).2.2.2.2.2.2.2.2.2.2.2.2.2.2.2.2.2.2.2.2.2 q2 h2 | exact allLt_get (‹_ ∧ _ ∧ _ ∧ _ ∧ _ ∧ _ ∧ _ ∧ _ ∧ _ ∧ _ ∧ _ ∧ _ ∧ _ ∧ _ ∧ _ ∧ _ ∧ _ ∧ _ ∧ _ ∧ _ ∧ _ ∧ _ ∧ AllLt _ news›).2.2.2.2.2.2.2.2.2.2.2.2.2.2.2.2.2.2.2.2.2.2 q2 h2 | exact allLt_get (‹_ ∧ _ ∧ _ ∧ _ ∧ _ ∧ _ ∧ _ ∧ _ ∧ _ ∧ _ ∧ _ ∧ _ ∧ _ ∧ _ ∧ _ ∧ _ ∧ _ ∧ _ ∧ _ ∧ _ ∧ _ ∧ _ ∧ _ ∧ AllLt _ news›).2.2.2.2.2.2.2.2.2.2.2.2.2.2.2.2.2.2.2.2.2.2.2 q2 h2)) (allC (fun q2 h2 => by (first | exact a1 q2 h2 | exact allLt_get (‹AllLt _ news›) q2 h2 | exact allLt_get (‹_ ∧ AllLt _ news›).2 q2 h2 | exact allLt_get (‹_ ∧ _ ∧ AllLt _ news›).2.2 q2 h2 | exact allLt_get (‹_ ∧ _ ∧ _ ∧ AllLt _ news›).2.2.2 q2 h2 | exact allLt_get (‹_ ∧ _ ∧ _ ∧ _ ∧ AllLt _ news›).2.2.2.2 q2 h2 | exact allLt_get (‹_ ∧ _ ∧ _ ∧ _ ∧ _ ∧ AllLt _ news›).2.2.2.2.2 q2 h2 | exact allLt_get (‹_ ∧ _ ∧ _ ∧ _ ∧ _ ∧ _ ∧ AllLt _ news›).2.2.2.2.2.2 q2 h2 | exact allLt_get (‹_ ∧ _ ∧ _ ∧ _ ∧ _ ∧ _ ∧ _ ∧ AllLt _ news›).2.2.2.2.2.2.2 q2 h2 | exact allLt_get (‹_ ∧ _ ∧ _ ∧ _ ∧ _ ∧ _ ∧ _ ∧ _ ∧ AllLt _ news›).2.2.2.2.2.2.2.2 q2 h2 | exact allLt_get (‹_ ∧ _ ∧ _ ∧ _ ∧ _ ∧ _ ∧ _ ∧ _ ∧ _ ∧ AllLt _ news›).2.2.2.2.2.2.2.2.2 q2 h2 | exact allLt_get (‹_ ∧ _ ∧ _ ∧ _ ∧ _ ∧ _ ∧ _ ∧ _ ∧ _ ∧ _ ∧ AllLt _ news›).2.2.2.2.2.2.2.2.2.2 q2 h2 | exact allLt_get (‹_ ∧ _ ∧ _ ∧ _ ∧ _ ∧ _ ∧ _ ∧ _ ∧ _ ∧ _ ∧ _ ∧ AllLt _ news›).2.2.2.2.2.2.2.2.2.2.2 q2 h2 | exact allLt_get (‹_ ∧ _ ∧ _ ∧ _ ∧ _ ∧ _ ∧ _ ∧ _ ∧ _ ∧ _ ∧ _ ∧ _ ∧ AllLt _ news›).2.2.2.2.2.2.2.2.2.2.2.2 q2 h2 | exact allLt_get (‹_ ∧ _ ∧ _ ∧ _ ∧ _ ∧ _ ∧ _ ∧ _ ∧ _ ∧ _ ∧ _ ∧ _ ∧ _ ∧ AllLt _ news›).2.2.2.2.2.2.2.2.2.2.2.2.2 q2 h2 | exact allLt_get (‹_ ∧ _ ∧ _ ∧ _ ∧ _ ∧ _ ∧ _ ∧ _ ∧ _ ∧ _ ∧ _ ∧ _ ∧ _ ∧ _ ∧ AllLt _ news›).2.2.2.2.2.2.2.2.2.2.2.2.2.2 q2 h2 | exact allLt_get (‹_ ∧ _ ∧ _ ∧ _ ∧ _ ∧ _ ∧ _ ∧ _ ∧ _ ∧ _ ∧ _ ∧ _ ∧ _ ∧ _ ∧ _ ∧ AllLt _ news›).2.2.2.2.2.2.2.2.2.2.2.2.2.2.2 q2 h2 | exact allLt_get (‹_ ∧ _ ∧ _ ∧ _ ∧ _ ∧ _ ∧ _ ∧ _ ∧ _ ∧ _ ∧ _ ∧ _ ∧ _ ∧ _ ∧ _ ∧ _ ∧ AllLt _ news›).2.2.2.2.2.2.2.2.2.2.2.2.2.2.2.2 q2 h2 | exact allLt_get (‹_ ∧ _ ∧ _ ∧ _ ∧ _ ∧ _ ∧ _ ∧ _ ∧ _ ∧ _ ∧ _ ∧ _ ∧ _ ∧ _ ∧ _ ∧ _ ∧ _ ∧ AllLt _ news›).2.2.2.2.2.2.2.2.2.2.2.2.2.2.2.2.2 q2 h2 | exact allLt_get (‹_ ∧ _ ∧ _ ∧ _ ∧ _ ∧ _ ∧ _ ∧ _ ∧ _ ∧ _ ∧ _ ∧ _ ∧ _ ∧ _ ∧ _ ∧ _ ∧ _ ∧ _ ∧ AllLt _ news›).2.2.2.2.2.2.2.2.2.2.2.2.2.2.2.2.2.2 q2 h2 | exact allLt_get (‹_ ∧ _ ∧ _ ∧ _ ∧ _ ∧ _ ∧ _ ∧ _ ∧ _ ∧ _ ∧ _ ∧ _ ∧ _ ∧ _ ∧ _ ∧ _ ∧ _ ∧ _ ∧ _ ∧ AllLt _ news›).2.2.2.2.2.2.2.2.2.2.2.2.2.2.2.2.2.2.2 q2 h2 | exact allLt_get (‹_ ∧ _ ∧ _ ∧ _ ∧ _ ∧ _ ∧ _ ∧ _ ∧ _ ∧ _ ∧ _ ∧ _ ∧ _ ∧ _ ∧ _ ∧ _ ∧ _ ∧ _ ∧ _ ∧ _ ∧ AllLt _ news›).2.2.2.2.2.2.2.2.2.2.2.2.2.2.2.2.2.2.2.2 q2 h2 | exact allLt_get (‹_ ∧ _ ∧ _ ∧ _ ∧ _ ∧ _ ∧ _ ∧ _ ∧ _ ∧ _ ∧ _ ∧ _ ∧ _ ∧ _ ∧ _ ∧ _ ∧ _ ∧ _ ∧ _ ∧ _ ∧ _ ∧ AllLt _ news›).2.2.2.2.2.2.2.2.2.2.2.2.2.2.2.2.2.2.2.2.2 q2 h2 | exact allLt_get (‹_ ∧ _ ∧ _ ∧ _ ∧ _ ∧ _ ∧ _ ∧ _ ∧ _ ∧ _ ∧ _ ∧ _ ∧ _ ∧ _ ∧ _ ∧ _ ∧ _ ∧ _ ∧ _ ∧ _ ∧ _ ∧ _ ∧ AllLt _ news›).2.2.2.2.2.2.2.2.2.2.2.2.2.2.2.2.2.2.2.2.2.2 q2 h2 | exact allLt_get (‹_ ∧ _ ∧ _ ∧ _ ∧ _ ∧ _ ∧ _ ∧ _ ∧ _ ∧ _ ∧ _ ∧ _ ∧ _ ∧ _ ∧ _ ∧ _ ∧ _ ∧ _ ∧ _ ∧ _ ∧ _ ∧ _ ∧ _ ∧ AllLt _ news›).2.2.2.2.2.2.2.2.2.2.2.2.2.2.2.2.2.2.2.2.2.2.2 q2 h2)) (List.forall_mem_nil _)))
  · intro h F9 N9
    refine' item_nat (hs := by with_unfolding_all rfl) N9 (.head _) (by decide) rfl ?_
    refine leaveK_ F9 N9 fun F10 N10 => ?_
    refine' kinds_end (own2 := []) F10 N10 ?m1 ?m2 ?hs ?m3 ?ht ?hi ?ab ?mn h
    case m1 => k_mem
    case m2 => k_mem
    case hs => assumption
    case mn => intro q hq; k_mem
    case m3 => intro q hq; cases hq
    case ht => intro g L s _; exact rfl
    case hi => first | exact isSelf_bool | exact isSelf_none | exact isSelf_int7 | exact isSelf_str | exact isSelf_bytes
    case ab => exact (allC (fun q2 h2 => by (first | exact a1 q2 h2 | exact allLt_get (‹AllLt _ news›) q2 h2 | exact allLt_get (‹_ ∧ AllLt _ news›).2 q2 h2 | exact allLt_get (‹_ ∧ _ ∧ AllLt _ news›).2.2 q2 h2 | exact allLt_get (‹_ ∧ _ ∧ _ ∧ AllLt _ news›).2.2.2 q2 h2 | exact allLt_get (‹_ ∧ _ ∧ _ ∧ _ ∧ AllLt _ news›).2.2.2.2 q2 h2 | exact allLt_get (‹_ ∧ _ ∧ _ ∧ _ ∧ _ ∧ AllLt _ news›).2.2.2.2.2 q2 h2 | exact allLt_get (‹_ ∧ _ ∧ _ ∧ _ ∧ _ ∧ _ ∧ AllLt _ news›).2.2.2.2.2.2 q2 h2 | exact allLt_get (‹_ ∧ _ ∧ _ ∧ _ ∧ _ ∧ _ ∧ _ ∧ AllLt _ news›).2.2.2.2.2.2.2 q2 h2 | exact allLt_get (‹_ ∧ _ ∧ _ ∧ _ ∧ _ ∧ _ ∧ _ ∧ _ ∧ AllLt _ news›).2.2.2.2.2.2.2.2 q2 h2 | exact allLt_get (‹_ ∧ _ ∧ _ ∧ _ ∧ _ ∧ _ ∧ _ ∧ _ ∧ _ ∧ AllLt _ news›).2.2.2.2.2.2.2.2.2 q2 h2 | exact allLt_get (‹_ ∧ _ ∧ _ ∧ _ ∧ _ ∧ _ ∧ _ ∧ _ ∧ _ ∧ _ ∧ AllLt _ news›).2.2.2.2.2.2.2.2.2.2 q2 h2 | exact allLt_get (‹_ ∧ _ ∧ _ ∧ _ ∧ _ ∧ _ ∧ _ ∧ _ ∧ _ ∧ _ ∧ _ ∧ AllLt _ news›).2.2.2.2.2.2.2.2.2.2.2 q2 h2 | exact allLt_get (‹_ ∧ _ ∧ _ ∧ _ ∧ _ ∧ _ ∧ _ ∧ _ ∧ _ ∧ _ ∧ _ ∧ _ ∧ AllLt _ news›).2.2.2.2.2.2.2.2.2.2.2.2 q2 h2 | exact allLt_get (‹_ ∧ _ ∧ _ ∧ _ ∧ _ ∧ _ ∧ _ ∧ _ ∧ _ ∧ _ ∧ _ ∧ _ ∧ _ ∧ AllLt _ news›).2.2.2.2.2.2.2.2.2.2.2.2.2 q2 h2 | exact allLt_get (‹_ ∧ _ ∧ _ ∧ _ ∧ _ ∧ _ ∧ _ ∧ _ ∧ _ ∧ _ ∧ _ ∧ _ ∧ _ ∧ _ ∧ AllLt _ news›).2.2.2.2.2.2.2.2.2.2.2.2.2.2 q2 h2 | exact allLt_get (‹_ ∧ _ ∧ _ ∧ _ ∧ _ ∧ _ ∧ _ ∧ _ ∧ _ ∧ _ ∧ _ ∧ _ ∧ _ ∧ _ ∧ _ ∧ AllLt _ news›).2.2.2.2.2.2.2.2.2.2.2.2.2.2.2 q2 h2 | exact allLt_get (‹_ ∧ _ ∧ _ ∧ _ ∧ _ ∧ _ ∧ _ ∧ _ ∧ _ ∧ _ ∧ _ ∧ _ ∧ _ ∧ _ ∧ _ ∧ _ ∧ AllLt _ news›).2.2.2.2.2.2.2.2.2.2.2.2.2.2.2.2 q2 h2 | exact allLt_get (‹_ ∧ _ ∧ _ ∧ _ ∧ _ ∧ _ ∧ _ ∧ _ ∧ _ ∧ _ ∧ _ ∧ _ ∧ _ ∧ _ ∧ _ ∧ _ ∧ _ ∧ AllLt _ news›).2.2.2.2.2.2.2.2.2.2.2.2.2.2.2.2.2 q2 h2 | exact allLt_get (‹_ ∧ _ ∧ _ ∧ _ ∧ _ ∧ _ ∧ _ ∧ _ ∧ _ ∧ _ ∧ _ ∧ _ ∧ _ ∧ _ ∧ _ ∧ _ ∧ _ ∧ _ ∧ AllLt _ news›).2.2.2.2.2.2.2.2.2.2.2.2.2.2.2.2.2.2 q2 h2 | exact allLt_get (‹_ ∧ _ ∧ _ ∧ _ ∧ _ ∧ _ ∧ _ ∧ _ ∧ _ ∧ _ ∧ _ ∧ _ ∧ _ ∧ _ ∧ _ ∧ _ ∧ _ ∧ _ ∧ _ ∧ AllLt _ news›).2.2.2.2.2.2.2.2.2.2.2.2.2.2.2.2.2.2.2 q2 h2 | exact allLt_get (‹_ ∧ _ ∧ _ ∧ _ ∧ _ ∧ _ ∧ _ ∧ _ ∧ _ ∧ _ ∧ _ ∧ _ ∧ _ ∧ _ ∧ _ ∧ _ ∧ _ ∧ _ ∧ _ ∧ _ ∧ AllLt _ news›).2.2.2.2.2.2.2.2.2.2.2.2.2.2.2.2.2.2.2.2 q2 h2 | exact allLt_get (‹_ ∧ _ ∧ _ ∧ _ ∧ _ ∧ _ ∧ _ ∧ _ ∧ _ ∧ _ ∧ _ ∧ _ ∧ _ ∧ _ ∧ _ ∧ _ ∧ _ ∧ _ ∧ _ ∧ _ ∧ _ ∧ AllLt _ news›).2.2.2.2.2.2.2.2.2.2.2.2.2.2.2.2.2.2.2.2.2 q2 h2 | exact allLt_get (‹_ ∧ _ ∧ _ ∧ _ ∧ _ ∧ _ ∧ _ ∧ _ ∧ _ ∧ _ ∧ _ ∧ _ ∧ _ ∧ _ ∧ _ ∧ _ ∧ _ ∧ _ ∧ _ ∧ _ ∧ _ ∧ _ ∧ AllLt _ news›).2.2.2.2.2.2.2.2.2.2.2.2.2.2.2.2.2.2.2.2.2.2 q2 h2 | exact allLt_get (‹_ ∧ _ ∧ _ ∧ _ ∧ _ ∧ _ ∧ _ ∧ _ ∧ _ ∧ _ ∧ _ ∧ _ ∧ _ ∧ _ ∧ _ ∧ _ ∧ _ ∧ _ ∧ _ ∧ _ ∧ _ ∧ _ ∧ _ ∧ AllLt _ news›).2.2.2.2.2.2.2.2.2.2.2.2.2.2.2.2.2.2.2.2.2.2.2 q2 h2)) (allC (fun q2 h2 => by (first | exact a1 q2 h2 | exact allLt_get (‹AllLt _ news›) q2 h2 | exact allLt_get (‹_ ∧ AllLt _ news›).2 q2 h2 | exact allLt_get (‹_ ∧ _ ∧ AllLt _ news›).2.2 q2 h2 | exact allLt_get (‹_ ∧ _ ∧ _ ∧ AllLt _ news›).2.2.2 q2 h2 | exact allLt_get (‹_ ∧ _ ∧ _ ∧ _ ∧ AllLt _ news›).2.2.2.2 q2 h2 | exact allLt_get (‹_ ∧ _ ∧ _ ∧ _ ∧ _ ∧ AllLt _ news›).2.2.2.2.2 q2 h2 | exact allLt_get (‹_ ∧ _ ∧ _ ∧ _ ∧ _ ∧ _ ∧ AllLt _ news›).2.2.2.2.2.2 q2 h2 | exact allLt_get (‹_ ∧ _ ∧ _ ∧ _ ∧ _ ∧ _ ∧ _ ∧ AllLt _ news›).2.2.2.2.2.2.2 q2 h2 | exact allLt_get (‹_ ∧ _ ∧ _ ∧ _ ∧ _ ∧ _ ∧ _ ∧ _ ∧ AllLt _ news›).2.2.2.2.2.2.2.2 q2 h2 | exact allLt_get (‹_ ∧ _ ∧ _ ∧ _ ∧ _ ∧ _ ∧ _ ∧ _ ∧ _ ∧ AllLt _ news›).2.2.2.2.2.2.2.2.2 q2 h2 | exact allLt_get (‹_ ∧ _ ∧ _ ∧ _ ∧ _ ∧ _ ∧ _ ∧ _ ∧ _ ∧ _ ∧ AllLt _ news›).2.2.2.2.2.2.2.2.2.2 q2 h2 | exact allLt_get (‹_ ∧ _ ∧ _ ∧ _ ∧ _ ∧ _ ∧ _ ∧ _ ∧ _ ∧ _ ∧ _ ∧ AllLt _ news›).2.2.2.2.2.2.2.2.2.2.2 q2 h2 | exact allLt_get (‹_ ∧ _ ∧ _ ∧ _ ∧ _ ∧ _ ∧ _ ∧ _ ∧ _ ∧ _ ∧ _ ∧ _ ∧ AllLt _ news›).2.2.2.2.2.2.2.2.2.2.2.2 q2 h2 | exact allLt_get (‹_ ∧ _ ∧ _ ∧ _ ∧ _ ∧ _ ∧ _ ∧ _ ∧ _ ∧ _ ∧ _ ∧ _ ∧ _ ∧ AllLt _ news›).2.2.2.2.2.2.2.2.2.2.2.2.2 q2 h2 | exact allLt_get (‹_ ∧ _ ∧ _ ∧ _ ∧ _ ∧ _ ∧ _ ∧ _ ∧ _ ∧ _ ∧ _ ∧ _ ∧ _ ∧ _ ∧ AllLt _ news›).2.2.2.2.2.2.2.2.2.2.2.2.2.2 q2 h2 | exact allLt_get (‹_ ∧ _ ∧ _ ∧ _ ∧ _ ∧ _ ∧ _ ∧ _ ∧ _ ∧ _ ∧ _ ∧ _ ∧ _ ∧ _ ∧ _ ∧ AllLt _ news›).2.2.2.2.2.2.2.2.2.2.2.2.2.2.2 q2 h2 | exact allLt_get (‹_ ∧ _ ∧ _ ∧ _ ∧ _ ∧ _ ∧ _ ∧ _ ∧ _ ∧ _ ∧ _ ∧ _ ∧ _ ∧ _ ∧ _ ∧ _ ∧ AllLt _ news›).2.2.2.2.2.2.2.2.2.2.2.2.2.2.2.2 q2 h2 | exact allLt_get (‹_ ∧ _ ∧ _ ∧ _ ∧ _ ∧ _ ∧ _ ∧ _ ∧ _ ∧ _ ∧ _ ∧ _ ∧ _ ∧ _ ∧ _ ∧ _ ∧ _ ∧ AllLt _ news›).2.2.2.2.2.2.2.2.2.2.2.2.2.2.2.2.2 q2 h2 | exact allLt_get (‹_ ∧ _ ∧ _ ∧ _ ∧ _ ∧ _ ∧ _ ∧ _ ∧ _ ∧ _ ∧ _ ∧ _ ∧ _ ∧ _ ∧ _ ∧ _ ∧ _ ∧ _ ∧ AllLt _ news›).2.2.2.2.2.2.2.2.2.2.2.2.2.2.2.2.2.2 q2 h2 | exact allLt_get (‹_ ∧ _ ∧ _ ∧ _ ∧ _ ∧ _ ∧ _ ∧ _ ∧ _ ∧ _ ∧ _ ∧ _ ∧ _ ∧ _ ∧ _ ∧ _ ∧ _ ∧ _ ∧ _ ∧ AllLt _ news›).2.2.2.2.2.2.2.2.2.2.2.2.2.2.2.2.2.2.2 q2 h2 | exact allLt_get (‹_ ∧ _ ∧ _ ∧ _ ∧ _ ∧ _ ∧ _ ∧ _ ∧ _ ∧ _ ∧ _ ∧ _ ∧ _ ∧ _ ∧ _ ∧ _ ∧ _ ∧ _ ∧ _ ∧ _ ∧ AllLt _ news›).2.2.2.2.2.2.2.2.2.2.2.2.2.2.2.2.2.2.2.2 q2 h2 | exact allLt_get (‹_ ∧ _ ∧ _ ∧ _ ∧ _ ∧ _ ∧ _ ∧ _ ∧ _ ∧ _ ∧ _ ∧ _ ∧ _ ∧ _ ∧ _ ∧ _ ∧ _ ∧ _ ∧ _ ∧ _ ∧ _ ∧ AllLt _ news›).2.2.2.2.2.2.2.2.2.2.2.2.2.2.2.2.2.2.2.2.2 q2 h2 | exact allLt_get (‹_ ∧ _ ∧ _ ∧ _ ∧ _ ∧ _ ∧ _ ∧ _ ∧ _ ∧ _ ∧ _ ∧ _ ∧ _ ∧ _ ∧ _ ∧ _ ∧ _ ∧ _ ∧ _ ∧ _ ∧ _ ∧ _ ∧ AllLt _ news›).2.2.2.2.2.2.2.2.2.2.2.2.2.2.2.2.2.2.2.2.2.2 q2 h2 | exact allLt_get (‹_ ∧ _ ∧ _ ∧ _ ∧ _ ∧ _ ∧ _ ∧ _ ∧ _ ∧ _ ∧ _ ∧ _ ∧ _ ∧ _ ∧ _ ∧ _ ∧ _ ∧ _ ∧ _ ∧ _ ∧ _ ∧ _ ∧ _ ∧ AllLt _ news›).2.2.2.2.2.2.2.2.2.2.2.2.2.2.2.2.2.2.2.2.2.2.2 q2 h2)) (List.forall_mem_nil _)))
  · intro h F9 N9
    refine' item_nat (hs := by with_unfolding_all rfl) N9 (.head _) (by decide) rfl ?_
    refine leaveK_ F9 N9 fun F10 N10 => ?_
    refine' kinds_end (own2 := []) F10 N10 ?m1 ?m2 ?hs ?m3 ?ht ?hi ?ab ?mn h
    case m1 => k_mem
    case m2 => k_mem
    case hs => assumption
    case mn => intro q hq; k_mem
    case m3 => intro q hq; cases hq
    case ht => intro g L s _; exact rfl
    case hi => first | exact isSelf_bool | exact isSelf_none | exact isSelf_int7 | exact isSelf_str | exact isSelf_bytes
    case ab => exact (allC (fun q2 h2 => by (first | exact a1 q2 h2 | exact allLt_get (‹AllLt _ news›) q2 h2 | exact allLt_get (‹_ ∧ AllLt _ news›).2 q2 h2 | exact allLt_get (‹_ ∧ _ ∧ AllLt _ news›).2.2 q2 h2 | exact allLt_get (‹_ ∧ _ ∧ _ ∧ AllLt _ news›).2.2.2 q2 h2 | exact allLt_get (‹_ ∧ _ ∧ _ ∧ _ ∧ AllLt _ news›).2.2.2.2 q2 h2 | exact allLt_get (‹_ ∧ _ ∧ _ ∧ _ ∧ _ ∧ AllLt _ news›).2.2.2.2.2 q2 h2 | exact allLt_get (‹_ ∧ _ ∧ _ ∧ _ ∧ _ ∧ _ ∧ AllLt _ news›).2.2.2.2.2.2 q2 h2 | exact allLt_get (‹_ ∧ _ ∧ _ ∧ _ ∧ _ ∧ _ ∧ _ ∧ AllLt _ news›).2.2.2.2.2.2.2 q2 h2 | exact allLt_get (‹_ ∧ _ ∧ _ ∧ _ ∧ _ ∧ _ ∧ _ ∧ _ ∧ AllLt _ news›).2.2.2.2.2.2.2.2 q2 h2 | exact allLt_get (‹_ ∧ _ ∧ _ ∧ _ ∧ _ ∧ _ ∧ _ ∧ _ ∧ _ ∧ AllLt _ news›).2.2.2.2.2.2.2.2.2 q2 h2 | exact allLt_get (‹_ ∧ _ ∧ _ ∧ _ ∧ _ ∧ _ ∧ _ ∧ _ ∧ _ ∧ _ ∧ AllLt _ news›).2.2.2.2.2.2.2.2.2.2 q2 h2 | exact allLt_get (‹_ ∧ _ ∧ _ ∧ _ ∧ _ ∧ _ ∧ _ ∧ _ ∧ _ ∧ _ ∧ _ ∧ AllLt _ news›).2.2.2.2.2.2.2.2.2.2.2 q2 h2 | exact allLt_get (‹_ ∧ _ ∧ _ ∧ _ ∧ _ ∧ _ ∧ _ ∧ _ ∧ _ ∧ _ ∧ _ ∧ _ ∧ AllLt _ news›).2.2.2.2.2.2.2.2.2.2.2.2 q2 h2 | exact allLt_get (‹_ ∧ _ ∧ _ ∧ _ ∧ _ ∧ _ ∧ _ ∧ _ ∧ _ ∧ _ ∧ _ ∧ _ ∧ _ ∧ AllLt _ news›).2.2.2.2.2.2.2.2.2.2.2.2.2 q2 h2 | exact allLt_get (‹_ ∧ _ ∧ _ ∧ _ ∧ _ ∧ _ ∧ _ ∧ _ ∧ _ ∧ _ ∧ _ ∧ _ ∧ _ ∧ _ ∧ AllLt _ news›).2.2.2.2.2.2.2.2.2.2.2.2.2.2 q2 h2 | exact allLt_get (‹_ ∧ _ ∧ _ ∧ _ ∧ _ ∧ _ ∧ _ ∧ _ ∧ _ ∧ _ ∧ _ ∧ _ ∧ _ ∧ _ ∧ _ ∧ AllLt _ news›).2.2.2.2.2.2.2.2.2.2.2.2.2.2.2 q2 h2 | exact allLt_get (‹_ ∧ _ ∧ _ ∧ _ ∧ _ ∧ _ ∧ _ ∧ _ ∧ _ ∧ _ ∧ _ ∧ _ ∧ _ ∧ _ ∧ _ ∧ _ ∧ AllLt _ news›).2.2.2.2.2.2.2.2.2.2.2.2.2.2.2.2 q2 h2 | exact allLt_get (‹_ ∧ _ ∧ _ ∧ _ ∧ _ ∧ _ ∧ _ ∧ _ ∧ _ ∧ _ ∧ _ ∧ _ ∧ _ ∧ _ ∧ _ ∧ _ ∧ _ ∧ AllLt _ news›).2.2.2.2.2.2.2.2.2.2.2.2.2.2.2.2.2 q2 h2 | exact allLt_get (‹_ ∧ _ ∧ _ ∧ _ ∧ _ ∧ _ ∧ _ ∧ _ ∧ _ ∧ _ ∧ _ ∧ _ ∧ _ ∧ _ ∧ _ ∧ _ ∧ _ ∧ _ ∧ AllLt _ news›).2.2.2.2.2.2.2.2.2.2.2.2.2.2.2.2.2.2 q2 h2 | exact allLt_get (‹_ ∧ _ ∧ _ ∧ _ ∧ _ ∧ _ ∧ _ ∧ _ ∧ _ ∧ _ ∧ _ ∧ _ ∧ _ ∧ _ ∧ _ ∧ _ ∧ _ ∧ _ ∧ _ ∧ AllLt _ news›).2.2.2.2.2.2.2.2.2.2.2.2.2.2.2.2.2.2.2 q2 h2 | exact allLt_get (‹_ ∧ _ ∧ _ ∧ _ ∧ _ ∧ _ ∧ _ ∧ _ ∧ _ ∧ _ ∧ _ ∧ _ ∧ _ ∧ _ ∧ _ ∧ _ ∧ _ ∧ _ ∧ _ ∧ _ ∧ AllLt _ news›).2.2.2.2.2.2.2.2.2.2.2.2.2.2.2.2.2.2.2.2 q2 h2 | exact allLt_get (‹_ ∧ _ ∧ _ ∧ _ ∧ _ ∧ _ ∧ _ ∧ _ ∧ _ ∧ _ ∧ _ ∧ _ ∧ _ ∧ _ ∧ _ ∧ _ ∧ _ ∧ _ ∧ _ ∧ _ ∧ _ ∧ AllLt _ news›).2.2.2.2.2.2.2.2.2.2.2.2.2.2.2.2.2.2.2.2.2 q2 h2 | exact allLt_get (‹_ ∧ _ ∧ _ ∧ _ ∧ _ ∧ _ ∧ _ ∧ _ ∧ _ ∧ _ ∧ _ ∧ _ ∧ _ ∧ _ ∧ _ ∧ _ ∧ _ ∧ _ ∧ _ ∧ _ ∧ _ ∧ _ ∧ AllLt _ news›).2.2.2.2.2.2.2.2.2.2.2.2.2.2.2.2.2.2.2.2.2.2 q2 h2 | exact allLt_get (‹_ ∧ _ ∧ _ ∧ _ ∧ _ ∧ _ ∧ _ ∧ _ ∧ _ ∧ _ ∧ _ ∧ _ ∧ _ ∧ _ ∧ _ ∧ _ ∧ _ ∧ _ ∧ _ ∧ _ ∧ _ ∧ _ ∧ _ ∧ AllLt _ news›).2.2.2.2.2.2.2.2.2.2.2.2.2.2.2.2.2.2.2.2.2.2.2 q2 h2)) (allC (fun q2 h2 => by (first | exact a1 q2 h2 | exact allLt_get (‹AllLt _ news›) q2 h2 | exact allLt_get (‹_ ∧ AllLt _ news›).2 q2 h2 | exact allLt_get (‹_ ∧ _ ∧ AllLt _ news›).2.2 q2 h2 | exact allLt_get (‹_ ∧ _ ∧ _ ∧ AllLt _ news›).2.2.2 q2 h2 | exact allLt_get (‹_ ∧ _ ∧ _ ∧ _ ∧ AllLt _ news›).2.2.2.2 q2 h2 | exact allLt_get (‹_ ∧ _ ∧ _ ∧ _ ∧ _ ∧ AllLt _ news›).2.2.2.2.2 q2 h2 | exact allLt_get (‹_ ∧ _ ∧ _ ∧ _ ∧ _ ∧ _ ∧ AllLt _ news›).2.2.2.2.2.2 q2 h2 | exact allLt_get (‹_ ∧ _ ∧ _ ∧ _ ∧ _ ∧ _ ∧ _ ∧ AllLt _ news›).2.2.2.2.2.2.2 q2 h2 | exact allLt_get (‹_ ∧ _ ∧ _ ∧ _ ∧ _ ∧ _ ∧ _ ∧ _ ∧ AllLt _ news›).2.2.2.2.2.2.2.2 q2 h2 | exact allLt_get (‹_ ∧ _ ∧ _ ∧ _ ∧ _ ∧ _ ∧ _ ∧ _ ∧ _ ∧ AllLt _ news›).2.2.2.2.2.2.2.2.2 q2 h2 | exact allLt_get (‹_ ∧ _ ∧ _ ∧ _ ∧ _ ∧ _ ∧ _ ∧ _ ∧ _ ∧ _ ∧ AllLt _ news›).2.2.2.2.2.2.2.2.2.2 q2 h2 | exact allLt_get (‹_ ∧ _ ∧ _ ∧ _ ∧ _ ∧ _ ∧ _ ∧ _ ∧ _ ∧ _ ∧ _ ∧ AllLt _ news›).2.2.2.2.2.2.2.2.2.2.2 q2 h2 | exact allLt_get (‹_ ∧ _ ∧ _ ∧ _ ∧ _ ∧ _ ∧ _ ∧ _ ∧ _ ∧ _ ∧ _ ∧ _ ∧ AllLt _ news›).2.2.2.2.2.2.2.2.2.2.2.2 q2 h2 | exact allLt_get (‹_ ∧ _ ∧ _ ∧ _ ∧ _ ∧ _ ∧ _ ∧ _ ∧ _ ∧ _ ∧ _ ∧ _ ∧ _ ∧ AllLt _ news›).2.2.2.2.2.2.2.2.2.2.2.2.2 q2 h2 | exact allLt_get (‹_ ∧ _ ∧ _ ∧ _ ∧ _ ∧ _ ∧ _ ∧ _ ∧ _ ∧ _ ∧ _ ∧ _ ∧ _ ∧ _ ∧ AllLt _ news›).2.2.2.2.2.2.2.2.2.2.2.2.2.2 q2 h2 | exact allLt_get (‹_ ∧ _ ∧ _ ∧ _ ∧ _ ∧ _ ∧ _ ∧ _ ∧ _ ∧ _ ∧ _ ∧ _ ∧ _ ∧ _ ∧ _ ∧ AllLt _ news›).2.2.2.2.2.2.2.2.2.2.2.2.2.2.2 q2 h2 | exact allLt_get (‹_ ∧ _ ∧ _ ∧ _ ∧ _ ∧ _ ∧ _ ∧ _ ∧ _ ∧ _ ∧ _ ∧ _ ∧ _ ∧ _ ∧ _ ∧ _ ∧ AllLt _ news›).2.2.2.2.2.2.2.2.2.2.2.2.2.2.2.2 q2 h2 | exact allLt_get (‹_ ∧ _ ∧ _ ∧ _ ∧ _ ∧ _ ∧ _ ∧ _ ∧ _ ∧ _ ∧ _ ∧ _ ∧ _ ∧ _ ∧ _ ∧ _ ∧ _ ∧ AllLt _ news›).2.2.2.2.2.2.2.2.2.2.2.2.2.2.2.2.2 q2 h2 | exact allLt_get (‹_ ∧ _ ∧ _ ∧ _ ∧ _ ∧ _ ∧ _ ∧ _ ∧ _ ∧ _ ∧ _ ∧ _ ∧ _ ∧ _ ∧ _ ∧ _ ∧ _ ∧ _ ∧ AllLt _ news›).2.2.2.2.2.2.2.2.2.2.2.2.2.2.2.2.2.2 q2 h2 | exact allLt_get (‹_ ∧ _ ∧ _ ∧ _ ∧ _ ∧ _ ∧ _ ∧ _ ∧ _ ∧ _ ∧ _ ∧ _ ∧ _ ∧ _ ∧ _ ∧ _ ∧ _ ∧ _ ∧ _ ∧ AllLt _ news›).2.2.2.2.2.2.2.2.2.2.2.2.2.2.2.2.2.2.2 q2 h2 | exact allLt_get (‹_ ∧ _ ∧ _ ∧ _ ∧ _ ∧ _ ∧ _ ∧ _ ∧ _ ∧ _ ∧ _ ∧ _ ∧ _ ∧ _ ∧ _ ∧ _ ∧ _ ∧ _ ∧ _ ∧ _ ∧ AllLt _ news›).2.2.2.2.2.2.2.2.2.2.2.2.2.2.2.2.2.2.2.2 q2 h2 | exact allLt_get (‹_ ∧ _ ∧ _ ∧ _ ∧ _ ∧ _ ∧ _ ∧ _ ∧ _ ∧ _ ∧ _ ∧ _ ∧ _ ∧ _ ∧ _ ∧ _ ∧ _ ∧ _ ∧ _ ∧ _ ∧ _ ∧ AllLt _ news›).2.2.2.2.2.2.2.2.2.2.2.2.2.2.2.2.2.2.2.2.2 q2 h2 | exact allLt_get (‹_ ∧ _ ∧ _ ∧ _ ∧ _ ∧ _ ∧ _ ∧ _ ∧ _ ∧ _ ∧ _ ∧ _ ∧ _ ∧ _ ∧ _ ∧ _ ∧ _ ∧ _ ∧ _ ∧ _ ∧ _ ∧ _ ∧ AllLt _ news›).2.2.2.2.2.2.2.2.2.2.2.2.2.2.2.2.2.2.2.2.2.2 q2 h2 | exact allLt_get (‹_ ∧ _ ∧ _ ∧ _ ∧ _ ∧ _ ∧ _ ∧ _ ∧ _ ∧ _ ∧ _ ∧ _ ∧ _ ∧ _ ∧ _ ∧ _ ∧ _ ∧ _ ∧ _ ∧ _ ∧ _ ∧ _ ∧ _ ∧ AllLt _ news›).2.2.2.2.2.2.2.2.2.2.2.2.2.2.2.2.2.2.2.2.2.2.2 q2 h2)) (List.forall_mem_nil _)))
  · intro h F9 N9
    refine' item_nat (hs := by with_unfolding_all rfl) N9 (.head _) (by decide) rfl ?_
    refine leaveK_ F9 N9 fun F10 N10 => ?_
    refine' kinds_end2 F10 N10 ?m1 ?m2 ?hs ?m3 ?hc ?ab ?mn h
    case m1 => k_mem
    case m2 => k_mem
    case hs => assumption
    case mn => intro q hq; k_mem
    case m3 => k_mem
    case hc => exact rfl
    case ab => exact (allC (fun q2 h2 => by (first | exact a1 q2 h2 | exact allLt_get (‹AllLt _ news›) q2 h2 | exact allLt_get (‹_ ∧ AllLt _ news›).2 q2 h2 | exact allLt_get (‹_ ∧ _ ∧ AllLt _ news›).2.2 q2 h2 | exact allLt_get (‹_ ∧ _ ∧ _ ∧ AllLt _ news›).2.2.2 q2 h2 | exact allLt_get (‹_ ∧ _ ∧ _ ∧ _ ∧ AllLt _ news›).2.2.2.2 q2 h2 | exact allLt_get (‹_ ∧ _ ∧ _ ∧ _ ∧ _ ∧ AllLt _ news›).2.2.2.2.2 q2 h2 | exact allLt_get (‹_ ∧ _ ∧ _ ∧ _ ∧ _ ∧ _ ∧ AllLt _ news›).2.2.2.2.2.2 q2 h2 | exact allLt_get (‹_ ∧ _ ∧ _ ∧ _ ∧ _ ∧ _ ∧ _ ∧ AllLt _ news›).2.2.2.2.2.2.2 q2 h2 | exact allLt_get (‹_ ∧ _ ∧ _ ∧ _ ∧ _ ∧ _ ∧ _ ∧ _ ∧ AllLt _ news›).2.2.2.2.2.2.2.2 q2 h2 | exact allLt_get (‹_ ∧ _ ∧ _ ∧ _ ∧ _ ∧ _ ∧ _ ∧ _ ∧ _ ∧ AllLt _ news›).2.2.2.2.2.2.2.2.2 q2 h2 | exact allLt_get (‹_ ∧ _ ∧ _ ∧ _ ∧ _ ∧ _ ∧ _ ∧ _ ∧ _ ∧ _ ∧ AllLt _ news›).2.2.2.2.2.2.2.2.2.2 q2 h2 | exact allLt_get (‹_ ∧ _ ∧ _ ∧ _ ∧ _ ∧ _ ∧ _ ∧ _ ∧ _ ∧ _ ∧ _ ∧ AllLt _ news›).2.2.2.2.2.2.2.2.2.2.2 q2 h2 | exact allLt_get (‹_ ∧ _ ∧ _ ∧ _ ∧ _ ∧ _ ∧ _ ∧ _ ∧ _ ∧ _ ∧ _ ∧ _ ∧ AllLt _ news›).2.2.2.2.2.2.2.2.2.2.2.2 q2 h2 | exact allLt_get (‹_ ∧ _ ∧ _ ∧ _ ∧ _ ∧ _ ∧ _ ∧ _ ∧ _ ∧ _ ∧ _ ∧ _ ∧ _ ∧ AllLt _ news›).2.2.2.2.2.2.2.2.2.2.2.2.2 q2 h2 | exact allLt_get (‹_ ∧ _ ∧ _ ∧ _ ∧ _ ∧ _ ∧ _ ∧ _ ∧ _ ∧ _ ∧ _ ∧ _ ∧ _ ∧ _ ∧ AllLt _ news›).2.2.2.2.2.2.2.2.2.2.2.2.2.2 q2 h2 | exact allLt_get (‹_ ∧ _ ∧ _ ∧ _ ∧ _ ∧ _ ∧ _ ∧ _ ∧ _ ∧ _ ∧ _ ∧ _ ∧ _ ∧ _ ∧ _ ∧ AllLt _ news›).2.2.2.2.2.2.2.2.2.2.2.2.2.2.2 q2 h2 | exact allLt_get (‹_ ∧ _ ∧ _ ∧ _ ∧ _ ∧ _ ∧ _ ∧ _ ∧ _ ∧ _ ∧ _ ∧ _ ∧ _ ∧ _ ∧ _ ∧ _ ∧ AllLt _ news›).2.2.2.2.2.2.2.2.2.2.2.2.2.2.2.2 q2 h2 | exact allLt_get (‹_ ∧ _ ∧ _ ∧ _ ∧ _ ∧ _ ∧ _ ∧ _ ∧ _ ∧ _ ∧ _ ∧ _ ∧ _ ∧ _ ∧ _ ∧ _ ∧ _ ∧ AllLt _ news›).2.2.2.2.2.2.2.2.2.2.2.2.2.2.2.2.2 q2 h2 | exact allLt_get (‹_ ∧ _ ∧ _ ∧ _ ∧ _ ∧ _ ∧ _ ∧ _ ∧ _ ∧ _ ∧ _ ∧ _ ∧ _ ∧ _ ∧ _ ∧ _ ∧ _ ∧ _ ∧ AllLt _ news›).2.2.2.2.2.2.2.2.2.2.2.2.2.2.2.2.2.2 q2 h2 | exact allLt_get (‹_ ∧ _ ∧ _ ∧ _ ∧ _ ∧ _ ∧ _ ∧ _ ∧ _ ∧ _ ∧ _ ∧ _ ∧ _ ∧ _ ∧ _ ∧ _ ∧ _ ∧ _ ∧ _ ∧ AllLt _ news›).2.2.2.2.2.2.2.2.2.2.2.2.2.2.2.2.2.2.2 q2 h2 | exact allLt_get (‹_ ∧ _ ∧ _ ∧ _ ∧ _ ∧ _ ∧ _ ∧ _ ∧ _ ∧ _ ∧ _ ∧ _ ∧ _ ∧ _ ∧ _ ∧ _ ∧ _ ∧ _ ∧ _ ∧ _ ∧ AllLt _ news›).2.2.2.2.2.2.2.2.2.2.2.2.2.2.2.2.2.2.2.2 q2 h2 | exact allLt_get (‹_ ∧ _ ∧ _ ∧ _ ∧ _ ∧ _ ∧ _ ∧ _ ∧ _ ∧ _ ∧ _ ∧ _ ∧ _ ∧ _ ∧ _ ∧ _ ∧ _ ∧ _ ∧ _ ∧ _ ∧ _ ∧ AllLt _ news›).2.2.2.2.2.2.2.2.2.2.2.2.2.2.2.2.2.2.2.2.2 q2 h2 | exact allLt_get (‹_ ∧ _ ∧ _ ∧ _ ∧ _ ∧ _ ∧ _ ∧ _ ∧ _ ∧ _ ∧ _ ∧ _ ∧ _ ∧ _ ∧ _ ∧ _ ∧ _ ∧ _ ∧ _ ∧ _ ∧ _ ∧ _ ∧ AllLt _ news›).2.2.2.2.2.2.2.2.2.2.2.2.2.2.2.2.2.2.2.2.2.2 q2 h2 | exact allLt_get (‹_ ∧ _ ∧ _ ∧ _ ∧ _ ∧ _ ∧ _ ∧ _ ∧ _ ∧ _ ∧ _ ∧ _ ∧ _ ∧ _ ∧ _ ∧ _ ∧ _ ∧ _ ∧ _ ∧ _ ∧ _ ∧ _ ∧ _ ∧ AllLt _ news›).2.2.2.2.2.2.2.2.2.2.2.2.2.2.2.2.2.2.2.2.2.2.2 q2 h2)) (allC (fun q2 h2 => by (first | exact a1 q2 h2 | exact allLt_get (‹AllLt _ news›) q2 h2 | exact allLt_get (‹_ ∧ AllLt _ news›).2 q2 h2 | exact allLt_get (‹_ ∧ _ ∧ AllLt _ news›).2.2 q2 h2 | exact allLt_get (‹_ ∧ _ ∧ _ ∧ AllLt _ news›).2.2.2 q2 h2 | exact allLt_get (‹_ ∧ _ ∧ _ ∧ _ ∧ AllLt _ news›).2.2.2.2 q2 h2 | exact allLt_get (‹_ ∧ _ ∧ _ ∧ _ ∧ _ ∧ AllLt _ news›).2.2.2.2.2 q2 h2 | exact allLt_get (‹_ ∧ _ ∧ _ ∧ _ ∧ _ ∧ _ ∧ AllLt _ news›).2.2.2.2.2.2 q2 h2 | exact allLt_get (‹_ ∧ _ ∧ _ ∧ _ ∧ _ ∧ _ ∧ _ ∧ AllLt _ news›).2.2.2.2.2.2.2 q2 h2 | exact allLt_get (‹_ ∧ _ ∧ _ ∧ _ ∧ _ ∧ _ ∧ _ ∧ _ ∧ AllLt _ news›).2.2.2.2.2.2.2.2 q2 h2 | exact allLt_get (‹_ ∧ _ ∧ _ ∧ _ ∧ _ ∧ _ ∧ _ ∧ _ ∧ _ ∧ AllLt _ news›).2.2.2.2.2.2.2.2.2 q2 h2 | exact allLt_get (‹_ ∧ _ ∧ _ ∧ _ ∧ _ ∧ _ ∧ _ ∧ _ ∧ _ ∧ _ ∧ AllLt _ news›).2.2.2.2.2.2.2.2.2.2 q2 h2 | exact allLt_get (‹_ ∧ _ ∧ _ ∧ _ ∧ _ ∧ _ ∧ _ ∧ _ ∧ _ ∧ _ ∧ _ ∧ AllLt _ news›).2.2.2.2.2.2.2.2.2.2.2 q2 h2 | exact allLt_get (‹_ ∧ _ ∧ _ ∧ _ ∧ _ ∧ _ ∧ _ ∧ _ ∧ _ ∧ _ ∧ _ ∧ _ ∧ AllLt _ news›).2.2.2.2.2.2.2.2.2.2.2.2 q2 h2 | exact allLt_get (‹_ ∧ _ ∧ _ ∧ _ ∧ _ ∧ _ ∧ _ ∧ _ ∧ _ ∧ _ ∧ _ ∧ _ ∧ _ ∧ AllLt _ news›).2.2.2.2.2.2.2.2.2.2.2.2.2 q2 h2 | exact allLt_get (‹_ ∧ _ ∧ _ ∧ _ ∧ _ ∧ _ ∧ _ ∧ _ ∧ _ ∧ _ ∧ _ ∧ _ ∧ _ ∧ _ ∧ AllLt _ news›).2.2.2.2.2.2.2.2.2.2.2.2.2.2 q2 h2 | exact allLt_get (‹_ ∧ _ ∧ _ ∧ _ ∧ _ ∧ _ ∧ _ ∧ _ ∧ _ ∧ _ ∧ _ ∧ _ ∧ _ ∧ _ ∧ _ ∧ AllLt _ news›).2.2.2.2.2.2.2.2.2.2.2.2.2.2.2 q2 h2 | exact allLt_get (‹_ ∧ _ ∧ _ ∧ _ ∧ _ ∧ _ ∧ _ ∧ _ ∧ _ ∧ _ ∧ _ ∧ _ ∧ _ ∧ _ ∧ _ ∧ _ ∧ AllLt _ news›).2.2.2.2.2.2.2.2.2.2.2.2.2.2.2.2 q2 h2 | exact allLt_get (‹_ ∧ _ ∧ _ ∧ _ ∧ _ ∧ _ ∧ _ ∧ _ ∧ _ ∧ _ ∧ _ ∧ _ ∧ _ ∧ _ ∧ _ ∧ _ ∧ _ ∧ AllLt _ news›).2.2.2.2.2.2.2.2.2.2.2.2.2.2.2.2.2 q2 h2 | exact allLt_get (‹_ ∧ _ ∧ _ ∧ _ ∧ _ ∧ _ ∧ _ ∧ _ ∧ _ ∧ _ ∧ _ ∧ _ ∧ _ ∧ _ ∧ _ ∧ _ ∧ _ ∧ _ ∧ AllLt _ news›).2.2.2.2.2.2.2.2.2.2.2.2.2.2.2.2.2.2 q2 h2 | exact allLt_get (‹_ ∧ _ ∧ _ ∧ _ ∧ _ ∧ _ ∧ _ ∧ _ ∧ _ ∧ _ ∧ _ ∧ _ ∧ _ ∧ _ ∧ _ ∧ _ ∧ _ ∧ _ ∧ _ ∧ AllLt _ news›).2.2.2.2.2.2.2.2.2.2.2.2.2.2.2.2.2.2.2 q2 h2 | exact allLt_get (‹_ ∧ _ ∧ _ ∧ _ ∧ _ ∧ _ ∧ _ ∧ _ ∧ _ ∧ _ ∧ _ ∧ _ ∧ _ ∧ _ ∧ _ ∧ _ ∧ _ ∧ _ ∧ _ ∧ _ ∧ AllLt _ news›).2.2.2.2.2.2.2.2.2.2.2.2.2.2.2.2.2.2.2.2 q2 h2 | exact allLt_get (‹_ ∧ _ ∧ _ ∧ _ ∧ _ ∧ _ ∧ _ ∧ _ ∧ _ ∧ _ ∧ _ ∧ _ ∧ _ ∧ _ ∧ _ ∧ _ ∧ _ ∧ _ ∧ _ ∧ _ ∧ _ ∧ AllLt _ news›).2.2.2.2.2.2.2.2.2.2.2.2.2.2.2.2.2.2.2.2.2 q2 h2 | exact allLt_get (‹_ ∧ _ ∧ _ ∧ _ ∧ _ ∧ _ ∧ _ ∧ _ ∧ _ ∧ _ ∧ _ ∧ _ ∧ _ ∧ _ ∧ _ ∧ _ ∧ _ ∧ _ ∧ _ ∧ _ ∧ _ ∧ _ ∧ AllLt _ news›).2.2.2.2.2.2.2.2.2.2.2.2.2.2.2.2.2.2.2.2.2.2 q2 h2 | exact allLt_get (‹_ ∧ _ ∧ _ ∧ _ ∧ _ ∧ _ ∧ _ ∧ _ ∧ _ ∧ _ ∧ _ ∧ _ ∧ _ ∧ _ ∧ _ ∧ _ ∧ _ ∧ _ ∧ _ ∧ _ ∧ _ ∧ _ ∧ _ ∧ AllLt _ news›).2.2.2.2.2.2.2.2.2.2.2.2.2.2.2.2.2.2.2.2.2.2.2 q2 h2)) (allC (fun q2 h2 => by (first | exact a1 q2 h2 | exact allLt_get (‹AllLt _ news›) q2 h2 | exact allLt_get (‹_ ∧ AllLt _ news›).2 q2 h2 | exact allLt_get (‹_ ∧ _ ∧ AllLt _ news›).2.2 q2 h2 | exact allLt_get (‹_ ∧ _ ∧ _ ∧ AllLt _ news›).2.2.2 q2 h2 | exact allLt_get (‹_ ∧ _ ∧ _ ∧ _ ∧ AllLt _ news›).2.2.2.2 q2 h2 | exact allLt_get (‹_ ∧ _ ∧ _ ∧ _ ∧ _ ∧ AllLt _ news›).2.2.2.2.2 q2 h2 | exact allLt_get (‹_ ∧ _ ∧ _ ∧ _ ∧ _ ∧ _ ∧ AllLt _ news›).2.2.2.2.2.2 q2 h2 | exact allLt_get (‹_ ∧ _ ∧ _ ∧ _ ∧ _ ∧ _ ∧ _ ∧ AllLt _ news›).2.2.2.2.2.2.2 q2 h2 | exact allLt_get (‹_ ∧ _ ∧ _ ∧ _ ∧ _ ∧ _ ∧ _ ∧ _ ∧ AllLt _ news›).2.2.2.2.2.2.2.2 q2 h2 | exact allLt_get (‹_ ∧ _ ∧ _ ∧ _ ∧ _ ∧ _ ∧ _ ∧ _ ∧ _ ∧ AllLt _ news›).2.2.2.2.2.2.2.2.2 q2 h2 | exact allLt_get (‹_ ∧ _ ∧ _ ∧ _ ∧ _ ∧ _ ∧ _ ∧ _ ∧ _ ∧ _ ∧ AllLt _ news›).2.2.2.2.2.2.2.2.2.2 q2 h2 | exact allLt_get (‹_ ∧ _ ∧ _ ∧ _ ∧ _ ∧ _ ∧ _ ∧ _ ∧ _ ∧ _ ∧ _ ∧ AllLt _ news›).2.2.2.2.2.2.2.2.2.2.2 q2 h2 | exact allLt_get (‹_ ∧ _ ∧ _ ∧ _ ∧ _ ∧ _ ∧ _ ∧ _ ∧ _ ∧ _ ∧ _ ∧ _ ∧ AllLt _ news›).2.2.2.2.2.2.2.2.2.2.2.2 q2 h2 | exact allLt_get (‹_ ∧ _ ∧ _ ∧ _ ∧ _ ∧ _ ∧ _ ∧ _ ∧ _ ∧ _ ∧ _ ∧ _ ∧ _ ∧ AllLt _ news›).2.2.2.2.2.2.2.2.2.2.2.2.2 q2 h2 | exact allLt_get (‹_ ∧ _ ∧ _ ∧ _ ∧ _ ∧ _ ∧ _ ∧ _ ∧ _ ∧ _ ∧ _ ∧ _ ∧ _ ∧ _ ∧ AllLt _ news›).2.2.2.2.2.2.2.2.2.2.2.2.2.2 q2 h2 | exact allLt_get (‹_ ∧ _ ∧ _ ∧ _ ∧ _ ∧ _ ∧ _ ∧ _ ∧ _ ∧ _ ∧ _ ∧ _ ∧ _ ∧ _ ∧ _ ∧ AllLt _ news›).2.2.2.2.2.2.2.2.2.2.2.2.2.2.2 q2 h2 | exact allLt_get (‹_ ∧ _ ∧ _ ∧ _ ∧ _ ∧ _ ∧ _ ∧ _ ∧ _ ∧ _ ∧ _ ∧ _ ∧ _ ∧ _ ∧ _ ∧ _ ∧ AllLt _ news›).2.2.2.2.2.2.2.2.2.2.2.2.2.2.2.2 q2 h2 | exact allLt_get (‹_ ∧ _ ∧ _ ∧ _ ∧ _ ∧ _ ∧ _ ∧ _ ∧ _ ∧ _ ∧ _ ∧ _ ∧ _ ∧ _ ∧ _ ∧ _ ∧ _ ∧ AllLt _ news›).2.2.2.2.2.2.2.2.2.2.2.2.2.2.2.2.2 q2 h2 | exact allLt_get (‹_ ∧ _ ∧ _ ∧ _ ∧ _ ∧ _ ∧ _ ∧ _ ∧ _ ∧ _ ∧ _ ∧ _ ∧ _ ∧ _ ∧ _ ∧ _ ∧ _ ∧ _ ∧ AllLt _ news›).2.2.2.2.2.2.2.2.2.2.2.2.2.2.2.2.2.2 q2 h2 | exact allLt_get (‹_ ∧ _ ∧ _ ∧ _ ∧ _ ∧ _ ∧ _ ∧ _ ∧ _ ∧ _ ∧ _ ∧ _ ∧ _ ∧ _ ∧ _ ∧ _ ∧ _ ∧ _ ∧ _ ∧ AllLt _ news›).2.2.2.2.2.2.2.2.2.2.2.2.2.2.2.2.2.2.2 q2 h2 | exact allLt_get (‹_ ∧ _ ∧ _ ∧ _ ∧ _ ∧ _ ∧ _ ∧ _ ∧ _ ∧ _ ∧ _ ∧ _ ∧ _ ∧ _ ∧ _ ∧ _ ∧ _ ∧ _ ∧ _ ∧ _ ∧ AllLt _ news›).2.2.2.2.2.2.2.2.2.2.2.2.2.2.2.2.2.2.2.2 q2 h2 | exact allLt_get (‹_ ∧ _ ∧ _ ∧ _ ∧ _ ∧ _ ∧ _ ∧ _ ∧ _ ∧ _ ∧ _ ∧ _ ∧ _ ∧ _ ∧ _ ∧ _ ∧ _ ∧ _ ∧ _ ∧ _ ∧ _ ∧ AllLt _ news›).2.2.2.2.2.2.2.2.2.2.2.2.2.2.2.2.2.2.2.2.2 q2 h2 | exact allLt_get (‹_ ∧ _ ∧ _ ∧ _ ∧ _ ∧ _ ∧ _ ∧ _ ∧ _ ∧ _ ∧ _ ∧ _ ∧ _ ∧ _ ∧ _ ∧ _ ∧ _ ∧ _ ∧ _ ∧ _ ∧ _ ∧ _ ∧ AllLt _ news›).2.2.2.2.2.2.2.2.2.2.2.2.2.2.2.2.2.2.2.2.2.2 q2 h2 | exact allLt_get (‹_ ∧ _ ∧ _ ∧ _ ∧ _ ∧ _ ∧ _ ∧ _ ∧ _ ∧ _ ∧ _ ∧ _ ∧ _ ∧ _ ∧ _ ∧ _ ∧ _ ∧ _ ∧ _ ∧ _ ∧ _ ∧ _ ∧ _ ∧ AllLt _ news›).2.2.2.2.2.2.2.2.2.2.2.2.2.2.2.2.2.2.2.2.2.2.2 q2 h2)) (List.forall_mem_nil _))))
  · intro h F9 N9
    refine' item_nat (hs := by with_unfolding_all rfl) N9 (.head _) (by decide) rfl ?_
    refine leaveK_ F9 N9 fun F10 N10 => ?_
    refine' kinds_end2 F10 N10 ?m1 ?m2 ?hs ?m3 ?hc ?ab ?mn h
    case m1 => k_mem
    case m2 => k_mem
    case hs => assumption
    case mn => intro q hq; k_mem
    case m3 => k_mem
    case hc => exact rfl
    case ab => exact (allC (fun q2 h2 => by (first | exact a1 q2 h2 | exact allLt_get (‹AllLt _ news›) q2 h2 | exact allLt_get (‹_ ∧ AllLt _ news›).2 q2 h2 | exact allLt_get (‹_ ∧ _ ∧ AllLt _ news›).2.2 q2 h2 | exact allLt_get (‹_ ∧ _ ∧ _ ∧ AllLt _ news›).2.2.2 q2 h2 | exact allLt_get (‹_ ∧ _ ∧ _ ∧ _ ∧ AllLt _ news›).2.2.2.2 q2 h2 | exact allLt_get (‹_ ∧ _ ∧ _ ∧ _ ∧ _ ∧ AllLt _ news›).2.2.2.2.2 q2 h2 | exact allLt_get (‹_ ∧ _ ∧ _ ∧ _ ∧ _ ∧ _ ∧ AllLt _ news›).2.2.2.2.2.2 q2 h2 | exact allLt_get (‹_ ∧ _ ∧ _ ∧ _ ∧ _ ∧ _ ∧ _ ∧ AllLt _ news›).2.2.2.2.2.2.2 q2 h2 | exact allLt_get (‹_ ∧ _ ∧ _ ∧ _ ∧ _ ∧ _ ∧ _ ∧ _ ∧ AllLt _ news›).2.2.2.2.2.2.2.2 q2 h2 | exact allLt_get (‹_ ∧ _ ∧ _ ∧ _ ∧ _ ∧ _ ∧ _ ∧ _ ∧ _ ∧ AllLt _ news›).2.2.2.2.2.2.2.2.2 q2 h2 | exact allLt_get (‹_ ∧ _ ∧ _ ∧ _ ∧ _ ∧ _ ∧ _ ∧ _ ∧ _ ∧ _ ∧ AllLt _ news›).2.2.2.2.2.2.2.2.2.2 q2 h2 | exact allLt_get (‹_ ∧ _ ∧ _ ∧ _ ∧ _ ∧ _ ∧ _ ∧ _ ∧ _ ∧ _ ∧ _ ∧ AllLt _ news›).2.2.2.2.2.2.2.2.2.2.2 q2 h2 | exact allLt_get (‹_ ∧ _ ∧ _ ∧ _ ∧ _ ∧ _ ∧ _ ∧ _ ∧ _ ∧ _ ∧ _ ∧ _ ∧ AllLt _ news›).2.2.2.2.2.2.2.2.2.2.2.2 q2 h2 | exact allLt_get (‹_ ∧ _ ∧ _ ∧ _ ∧ _ ∧ _ ∧ _ ∧ _ ∧ _ ∧ _ ∧ _ ∧ _ ∧ _ ∧ AllLt _ news›).2.2.2.2.2.2.2.2.2.2.2.2.2 q2 h2 | exact allLt_get (‹_ ∧ _ ∧ _ ∧ _ ∧ _ ∧ _ ∧ _ ∧ _ ∧ _ ∧ _ ∧ _ ∧ _ ∧ _ ∧ _ ∧ AllLt _ news›).2.2.2.2.2.2.2.2.2.2.2.2.2.2 q2 h2 | exact allLt_get (‹_ ∧ _ ∧ _ ∧ _ ∧ _ ∧ _ ∧ _ ∧ _ ∧ _ ∧ _ ∧ _ ∧ _ ∧ _ ∧ _ ∧ _ ∧ AllLt _ news›).2.2.2.2.2.2.2.2.2.2.2.2.2.2.2 q2 h2 | exact allLt_get (‹_ ∧ _ ∧ _ ∧ _ ∧ _ ∧ _ ∧ _ ∧ _ ∧ _ ∧ _ ∧ _ ∧ _ ∧ _ ∧ _ ∧ _ ∧ _ ∧ AllLt _ news›).2.2.2.2.2.2.2.2.2.2.2.2.2.2.2.2 q2 h2 | exact allLt_get (‹_ ∧ _ ∧ _ ∧ _ ∧ _ ∧ _ ∧ _ ∧ _ ∧ _ ∧ _ ∧ _ ∧ _ ∧ _ ∧ _ ∧ _ ∧ _ ∧ _ ∧ AllLt _ news›).2.2.2.2.2.2.2.2.2.2.2.2.2.2.2.2.2 q2 h2 | exact allLt_get (‹_ ∧ _ ∧ _ ∧ _ ∧ _ ∧ _ ∧ _ ∧ _ ∧ _ ∧ _ ∧ _ ∧ _ ∧ _ ∧ _ ∧ _ ∧ _ ∧ _ ∧ _ ∧ AllLt _ news›).2.2.2.2.2.2.2.2.2.2.2.2.2.2.2.2.2.2 q2 h2 | exact allLt_get (‹_ ∧ _ ∧ _ ∧ _ ∧ _ ∧ _ ∧ _ ∧ _ ∧ _ ∧ _ ∧ _ ∧ _ ∧ _ ∧ _ ∧ _ ∧ _ ∧ _ ∧ _ ∧ _ ∧ AllLt _ news›).2.2.2.2.2.2.2.2.2.2.2.2.2.2.2.2.2.2.2 q2 h2 | exact allLt_get (‹_ ∧ _ ∧ _ ∧ _ ∧ _ ∧ _ ∧ _ ∧ _ ∧ _ ∧ _ ∧ _ ∧ _ ∧ _ ∧ _ ∧ _ ∧ _ ∧ _ ∧ _ ∧ _ ∧ _ ∧ AllLt _ news›).2.2.2.2.2.2.2.2.2.2.2.2.2.2.2.2.2.2.2.2 q2 h2 | exact allLt_get (‹_ ∧ _ ∧ _ ∧ _ ∧ _ ∧ _ ∧ _ ∧ _ ∧ _ ∧ _ ∧ _ ∧ _ ∧ _ ∧ _ ∧ _ ∧ _ ∧ _ ∧ _ ∧ _ ∧ _ ∧ _ ∧ AllLt _ news›).2.2.2.2.2.2.2.2.2.2.2.2.2.2.2.2.2.2.2.2.2 q2 h2 | exact allLt_get (‹_ ∧ _ ∧ _ ∧ _ ∧ _ ∧ _ ∧ _ ∧ _ ∧ _ ∧ _ ∧ _ ∧ _ ∧ _ ∧ _ ∧ _ ∧ _ ∧ _ ∧ _ ∧ _ ∧ _ ∧ _ ∧ _ ∧ AllLt _ news›).2.2.2.2.2.2.2.2.2.2.2.2.2.2.2.2.2.2.2.2.2.2 q2 h2 | exact allLt_get (‹_ ∧ _ ∧ _ ∧ _ ∧ _ ∧ _ ∧ _ ∧ _ ∧ _ ∧ _ ∧ _ ∧ _ ∧ _ ∧ _ ∧ _ ∧ _ ∧ _ ∧ _ ∧ _ ∧ _ ∧ _ ∧ _ ∧ _ ∧ AllLt _ news›).2.2.2.2.2.2.2.2.2.2.2.2.2.2.2.2.2.2.2.2.2.2.2 q2 h2)) (allC (fun q2 h2 => by (first | exact a1 q2 h2 | exact allLt_get (‹AllLt _ news›) q2 h2 | exact allLt_get (‹_ ∧ AllLt _ news›).2 q2 h2 | exact allLt_get (‹_ ∧ _ ∧ AllLt _ news›).2.2 q2 h2 | exact allLt_get (‹_ ∧ _ ∧ _ ∧ AllLt _ news›).2.2.2 q2 h2 | exact allLt_get (‹_ ∧ _ ∧ _ ∧ _ ∧ AllLt _ news›).2.2.2.2 q2 h2 | exact allLt_get (‹_ ∧ _ ∧ _ ∧ _ ∧ _ ∧ AllLt _ news›).2.2.2.2.2 q2 h2 | exact allLt_get (‹_ ∧ _ ∧ _ ∧ _ ∧ _ ∧ _ ∧ AllLt _ news›).2.2.2.2.2.2 q2 h2 | exact allLt_get (‹_ ∧ _ ∧ _ ∧ _ ∧ _ ∧ _ ∧ _ ∧ AllLt _ news›).2.2.2.2.2.2.2 q2 h2 | exact allLt_get (‹_ ∧ _ ∧ _ ∧ _ ∧ _ ∧ _ ∧ _ ∧ _ ∧ AllLt _ news›).2.2.2.2.2.2.2.2 q2 h2 | exact allLt_get (‹_ ∧ _ ∧ _ ∧ _ ∧ _ ∧ _ ∧ _ ∧ _ ∧ _ ∧ AllLt _ news›).2.2.2.2.2.2.2.2.2 q2 h2 | exact allLt_get (‹_ ∧ _ ∧ _ ∧ _ ∧ _ ∧ _ ∧ _ ∧ _ ∧ _ ∧ _ ∧ AllLt _ news›).2.2.2.2.2.2.2.2.2.2 q2 h2 | exact allLt_get (‹_ ∧ _ ∧ _ ∧ _ ∧ _ ∧ _ ∧ _ ∧ _ ∧ _ ∧ _ ∧ _ ∧ AllLt _ news›).2.2.2.2.2.2.2.2.2.2.2 q2 h2 | exact allLt_get (‹_ ∧ _ ∧ _ ∧ _ ∧ _ ∧ _ ∧ _ ∧ _ ∧ _ ∧ _ ∧ _ ∧ _ ∧ AllLt _ news›).2.2.2.2.2.2.2.2.2.2.2.2 q2 h2 | exact allLt_get (‹_ ∧ _ ∧ _ ∧ _ ∧ _ ∧ _ ∧ _ ∧ _ ∧ _ ∧ _ ∧ _ ∧ _ ∧ _ ∧ AllLt _ news›).2.2.2.2.2.2.2.2.2.2.2.2.2 q2 h2 | exact allLt_get (‹_ ∧ _ ∧ _ ∧ _ ∧ _ ∧ _ ∧ _ ∧ _ ∧ _ ∧ _ ∧ _ ∧ _ ∧ _ ∧ _ ∧ AllLt _ news›).2.2.2.2.2.2.2.2.2.2.2.2.2.2 q2 h2 | exact allLt_get (‹_ ∧ _ ∧ _ ∧ _ ∧ _ ∧ _ ∧ _ ∧ _ ∧ _ ∧ _ ∧ _ ∧ _ ∧ _ ∧ _ ∧ _ ∧ AllLt _ news›).2.2.2.2.2.2.2.2.2.2.2.2.2.2.2 q2 h2 | exact allLt_get (‹_ ∧ _ ∧ _ ∧ _ ∧ _ ∧ _ ∧ _ ∧ _ ∧ _ ∧ _ ∧ _ ∧ _ ∧ _ ∧ _ ∧ _ ∧ _ ∧ AllLt _ news›).2.2.2.2.2.2.2.2.2.2.2.2.2.2.2.2 q2 h2 | exact allLt_get (‹_ ∧ _ ∧ _ ∧ _ ∧ _ ∧ _ ∧ _ ∧ _ ∧ _ ∧ _ ∧ _ ∧ _ ∧ _ ∧ _ ∧ _ ∧ _ ∧ _ ∧ AllLt _ news›).2.2.2.2.2.2.2.2.2.2.2.2.2.2.2.2.2 q2 h2 | exact allLt_get (‹_ ∧ _ ∧ _ ∧ _ ∧ _ ∧ _ ∧ _ ∧ _ ∧ _ ∧ _ ∧ _ ∧ _ ∧ _ ∧ _ ∧ _ ∧ _ ∧ _ ∧ _ ∧ AllLt _ news›).2.2.2.2.2.2.2.2.2.2.2.2.2.2.2.2.2.2 q2 h2 | exact allLt_get (‹_ ∧ _ ∧ _ ∧ _ ∧ _ ∧ _ ∧ _ ∧ _ ∧ _ ∧ _ ∧ _ ∧ _ ∧ _ ∧ _ ∧ _ ∧ _ ∧ _ ∧ _ ∧ _ ∧ AllLt _ news›).2.2.2.2.2.2.2.2.2.2.2.2.2.2.2.2.2.2.2 q2 h2 | exact allLt_get (‹_ ∧ _ ∧ _ ∧ _ ∧ _ ∧ _ ∧ _ ∧ _ ∧ _ ∧ _ ∧ _ ∧ _ ∧ _ ∧ _ ∧ _ ∧ _ ∧ _ ∧ _ ∧ _ ∧ _ ∧ AllLt _ news›).2.2.2.2.2.2.2.2.2.2.2.2.2.2.2.2.2.2.2.2 q2 h2 | exact allLt_get (‹_ ∧ _ ∧ _ ∧ _ ∧ _ ∧ _ ∧ _ ∧ _ ∧ _ ∧ _ ∧ _ ∧ _ ∧ _ ∧ _ ∧ _ ∧ _ ∧ _ ∧ _ ∧ _ ∧ _ ∧ _ ∧ AllLt _ news›).2.2.2.2.2.2.2.2.2.2.2.2.2.2.2.2.2.2.2.2.2 q2 h2 | exact allLt_get (‹_ ∧ _ ∧ _ ∧ _ ∧ _ ∧ _ ∧ _ ∧ _ ∧ _ ∧ _ ∧ _ ∧ _ ∧ _ ∧ _ ∧ _ ∧ _ ∧ _ ∧ _ ∧ _ ∧ _ ∧ _ ∧ _ ∧ AllLt _ news›).2.2.2.2.2.2.2.2.2.2.2.2.2.2.2.2.2.2.2.2.2.2 q2 h2 | exact allLt_get (‹_ ∧ _ ∧ _ ∧ _ ∧ _ ∧ _ ∧ _ ∧ _ ∧ _ ∧ _ ∧ _ ∧ _ ∧ _ ∧ _ ∧ _ ∧ _ ∧ _ ∧ _ ∧ _ ∧ _ ∧ _ ∧ _ ∧ _ ∧ AllLt _ news›).2.2.2.2.2.2.2.2.2.2.2.2.2.2.2.2.2.2.2.2.2.2.2 q2 h2)) (allC (fun q2 h2 => by (first | exact a1 q2 h2 | exact allLt_get (‹AllLt _ news›) q2 h2 | exact allLt_get (‹_ ∧ AllLt _ news›).2 q2 h2 | exact allLt_get (‹_ ∧ _ ∧ AllLt _ news›).2.2 q2 h2 | exact allLt_get (‹_ ∧ _ ∧ _ ∧ AllLt _ news›).2.2.2 q2 h2 | exact allLt_get (‹_ ∧ _ ∧ _ ∧ _ ∧ AllLt _ news›).2.2.2.2 q2 h2 | exact allLt_get (‹_ ∧ _ ∧ _ ∧ _ ∧ _ ∧ AllLt _ news›).2.2.2.2.2 q2 h2 | exact allLt_get (‹_ ∧ _ ∧ _ ∧ _ ∧ _ ∧ _ ∧ AllLt _ news›).2.2.2.2.2.2 q2 h2 | exact allLt_get (‹_ ∧ _ ∧ _ ∧ _ ∧ _ ∧ _ ∧ _ ∧ AllLt _ news›).2.2.2.2.2.2.2 q2 h2 | exact allLt_get (‹_ ∧ _ ∧ _ ∧ _ ∧ _ ∧ _ ∧ _ ∧ _ ∧ AllLt _ news›).2.2.2.2.2.2.2.2 q2 h2 | exact allLt_get (‹_ ∧ _ ∧ _ ∧ _ ∧ _ ∧ _ ∧ _ ∧ _ ∧ _ ∧ AllLt _ news›).2.2.2.2.2.2.2.2.2 q2 h2 | exact allLt_get (‹_ ∧ _ ∧ _ ∧ _ ∧ _ ∧ _ ∧ _ ∧ _ ∧ _ ∧ _ ∧ AllLt _ news›).2.2.2.2.2.2.2.2.2.2 q2 h2 | exact allLt_get (‹_ ∧ _ ∧ _ ∧ _ ∧ _ ∧ _ ∧ _ ∧ _ ∧ _ ∧ _ ∧ _ ∧ AllLt _ news›).2.2.2.2.2.2.2.2.2.2.2 q2 h2 | exact allLt_get (‹_ ∧ _ ∧ _ ∧ _ ∧ _ ∧ _ ∧ _ ∧ _ ∧ _ ∧ _ ∧ _ ∧ _ ∧ AllLt _ news›).2.2.2.2.2.2.2.2.2.2.2.2 q2 h2 | exact allLt_get (‹_ ∧ _ ∧ _ ∧ _ ∧ _ ∧ _ ∧ _ ∧ _ ∧ _ ∧ _ ∧ _ ∧ _ ∧ _ ∧ AllLt _ news›).2.2.2.2.2.2.2.2.2.2.2.2.2 q2 h2 | exact allLt_get (‹_ ∧ _ ∧ _ ∧ _ ∧ _ ∧ _ ∧ _ ∧ _ ∧ _ ∧ _ ∧ _ ∧ _ ∧ _ ∧ _ ∧ AllLt _ news›).2.2.2.2.2.2.2.2.2.2.2.2.2.2 q2 h2 | exact allLt_get (‹_ ∧ _ ∧ _ ∧ _ ∧ _ ∧ _ ∧ _ ∧ _ ∧ _ ∧ _ ∧ _ ∧ _ ∧ _ ∧ _ ∧ _ ∧ AllLt _ news›).2.2.2.2.2.2.2.2.2.2.2.2.2.2.2 q2 h2 | exact allLt_get (‹_ ∧ _ ∧ _ ∧ _ ∧ _ ∧ _ ∧ _ ∧ _ ∧ _ ∧ _ ∧ _ ∧ _ ∧ _ ∧ _ ∧ _ ∧ _ ∧ AllLt _ news›).2.2.2.2.2.2.2.2.2.2.2.2.2.2.2.2 q2 h2 | exact allLt_get (‹_ ∧ _ ∧ _ ∧ _ ∧ _ ∧ _ ∧ _ ∧ _ ∧ _ ∧ _ ∧ _ ∧ _ ∧ _ ∧ _ ∧ _ ∧ _ ∧ _ ∧ AllLt _ news›).2.2.2.2.2.2.2.2.2.2.2.2.2.2.2.2.2 q2 h2 | exact allLt_get (‹_ ∧ _ ∧ _ ∧ _ ∧ _ ∧ _ ∧ _ ∧ _ ∧ _ ∧ _ ∧ _ ∧ _ ∧ _ ∧ _ ∧ _ ∧ _ ∧ _ ∧ _ ∧ AllLt _ news›).2.2.2.2.2.2.2.2.2.2.2.2.2.2.2.2.2.2 q2 h2 | exact allLt_get (‹_ ∧ _ ∧ _ ∧ _ ∧ _ ∧ _ ∧ _ ∧ _ ∧ _ ∧ _ ∧ _ ∧ _ ∧ _ ∧ _ ∧ _ ∧ _ ∧ _ ∧ _ ∧ _ ∧ AllLt _ news›).2.2.2.2.2.2.2.2.2.2.2.2.2.2.2.2.2.2.2 q2 h2 | exact allLt_get (‹_ ∧ _ ∧ _ ∧ _ ∧ _ ∧ _ ∧ _ ∧ _ ∧ _ ∧ _ ∧ _ ∧ _ ∧ _ ∧ _ ∧ _ ∧ _ ∧ _ ∧ _ ∧ _ ∧ _ ∧ AllLt _ news›).2.2.2.2.2.2.2.2.2.2.2.2.2.2.2.2.2.2.2.2 q2 h2 | exact allLt_get (‹_ ∧ _ ∧ _ ∧ _ ∧ _ ∧ _ ∧ _ ∧ _ ∧ _ ∧ _ ∧ _ ∧ _ ∧ _ ∧ _ ∧ _ ∧ _ ∧ _ ∧ _ ∧ _ ∧ _ ∧ _ ∧ AllLt _ news›).2.2.2.2.2.2.2.2.2.2.2.2.2.2.2.2.2.2.2.2.2 q2 h2 | exact allLt_get (‹_ ∧ _ ∧ _ ∧ _ ∧ _ ∧ _ ∧ _ ∧ _ ∧ _ ∧ _ ∧ _ ∧ _ ∧ _ ∧ _ ∧ _ ∧ _ ∧ _ ∧ _ ∧ _ ∧ _ ∧ _ ∧ _ ∧ AllLt _ news›).2.2.2.2.2.2.2.2.2.2.2.2.2.2.2.2.2.2.2.2.2.2 q2 h2 | exact allLt_get (‹_ ∧ _ ∧ _ ∧ _ ∧ _ ∧ _ ∧ _ ∧ _ ∧ _ ∧ _ ∧ _ ∧ _ ∧ _ ∧ _ ∧ _ ∧ _ ∧ _ ∧ _ ∧ _ ∧ _ ∧ _ ∧ _ ∧ _ ∧ AllLt _ news›).2.2.2.2.2.2.2.2.2.2.2.2.2.2.2.2.2.2.2.2.2.2.2 q2 h2)) (List.forall_mem_nil _))))
  · intro h F9 N9
    refine' item_nat (hs := by with_unfolding_all rfl) N9 (.head _) (by decide) rfl ?_
    refine leaveK_ F9 N9 fun F10 N10 => ?_
    refine' kinds_end2 F10 N10 ?m1 ?m2 ?hs ?m3 ?hc ?ab ?mn h
    case m1 => k_mem
    case m2 => k_mem
    case hs => assumption
    case mn => intro q hq; k_mem
    case m3 => k_mem
    case hc => (rename Obj.IsDictOf _ _ _ => hdd; obtain ⟨es, ep, ⟨q1, _⟩, _⟩ := hdd; exact q1)
    case ab => exact (allC (fun q2 h2 => by (first | exact a1 q2 h2 | exact allLt_get (‹AllLt _ news›) q2 h2 | exact allLt_get (‹_ ∧ AllLt _ news›).2 q2 h2 | exact allLt_get (‹_ ∧ _ ∧ AllLt _ news›).2.2 q2 h2 | exact allLt_get (‹_ ∧ _ ∧ _ ∧ AllLt _ news›).2.2.2 q2 h2 | exact allLt_get (‹_ ∧ _ ∧ _ ∧ _ ∧ AllLt _ news›).2.2.2.2 q2 h2 | exact allLt_get (‹_ ∧ _ ∧ _ ∧ _ ∧ _ ∧ AllLt _ news›).2.2.2.2.2 q2 h2 | exact allLt_get (‹_ ∧ _ ∧ _ ∧ _ ∧ _ ∧ _ ∧ AllLt _ news›).2.2.2.2.2.2 q2 h2 | exact allLt_get (‹_ ∧ _ ∧ _ ∧ _ ∧ _ ∧ _ ∧ _ ∧ AllLt _ news›).2.2.2.2.2.2.2 q2 h2 | exact allLt_get (‹_ ∧ _ ∧ _ ∧ _ ∧ _ ∧ _ ∧ _ ∧ _ ∧ AllLt _ news›).2.2.2.2.2.2.2.2 q2 h2 | exact allLt_get (‹_ ∧ _ ∧ _ ∧ _ ∧ _ ∧ _ ∧ _ ∧ _ ∧ _ ∧ AllLt _ news›).2.2.2.2.2.2.2.2.2 q2 h2 | exact allLt_get (‹_ ∧ _ ∧ _ ∧ _ ∧ _ ∧ _ ∧ _ ∧ _ ∧ _ ∧ _ ∧ AllLt _ news›).2.2.2.2.2.2.2.2.2.2 q2 h2 | exact allLt_get (‹_ ∧ _ ∧ _ ∧ _ ∧ _ ∧ _ ∧ _ ∧ _ ∧ _ ∧ _ ∧ _ ∧ AllLt _ news›).2.2.2.2.2.2.2.2.2.2.2 q2 h2 | exact allLt_get (‹_ ∧ _ ∧ _ ∧ _ ∧ _ ∧ _ ∧ _ ∧ _ ∧ _ ∧ _ ∧ _ ∧ _ ∧ AllLt _ news›).2.2.2.2.2.2.2.2.2.2.2.2 q2 h2 | exact allLt_get (‹_ ∧ _ ∧ _ ∧ _ ∧ _ ∧ _ ∧ _ ∧ _ ∧ _ ∧ _ ∧ _ ∧ _ ∧ _ ∧ AllLt _ news›).2.2.2.2.2.2.2.2.2.2.2.2.2 q2 h2 | exact allLt_get (‹_ ∧ _ ∧ _ ∧ _ ∧ _ ∧ _ ∧ _ ∧ _ ∧ _ ∧ _ ∧ _ ∧ _ ∧ _ ∧ _ ∧ AllLt _ news›).2.2.2.2.2.2.2.2.2.2.2.2.2.2 q2 h2 | exact allLt_get (‹_ ∧ _ ∧ _ ∧ _ ∧ _ ∧ _ ∧ _ ∧ _ ∧ _ ∧ _ ∧ _ ∧ _ ∧ _ ∧ _ ∧ _ ∧ AllLt _ news›).2.2.2.2.2.2.2.2.2.2.2.2.2.2.2 q2 h2 | exact allLt_get (‹_ ∧ _ ∧ _ ∧ _ ∧ _ ∧ _ ∧ _ ∧ _ ∧ _ ∧ _ ∧ _ ∧ _ ∧ _ ∧ _ ∧ _ ∧ _ ∧ AllLt _ news›).2.2.2.2.2.2.2.2.2.2.2.2.2.2.2.2 q2 h2 | exact allLt_get (‹_ ∧ _ ∧ _ ∧ _ ∧ _ ∧ _ ∧ _ ∧ _ ∧ _ ∧ _ ∧ _ ∧ _ ∧ _ ∧ _ ∧ _ ∧ _ ∧ _ ∧ AllLt _ news›).2.2.2.2.2.2.2.2.2.2.2.2.2.2.2.2.2 q2 h2 | exact allLt_get (‹_ ∧ _ ∧ _ ∧ _ ∧ _ ∧ _ ∧ _ ∧ _ ∧ _ ∧ _ ∧ _ ∧ _ ∧ _ ∧ _ ∧ _ ∧ _ ∧ _ ∧ _ ∧ AllLt _ news›).2.2.2.2.2.2.2.2.2.2.2.2.2.2.2.2.2.2 q2 h2 | exact allLt_get (‹_ ∧ _ ∧ _ ∧ _ ∧ _ ∧ _ ∧ _ ∧ _ ∧ _ ∧ _ ∧ _ ∧ _ ∧ _ ∧ _ ∧ _ ∧ _ ∧ _ ∧ _ ∧ _ ∧ AllLt _ news›).2.2.2.2.2.2.2.2.2.2.2.2.2.2.2.2.2.2.2 q2 h2 | exact allLt_get (‹_ ∧ _ ∧ _ ∧ _ ∧ _ ∧ _ ∧ _ ∧ _ ∧ _ ∧ _ ∧ _ ∧ _ ∧ _ ∧ _ ∧ _ ∧ _ ∧ _ ∧ _ ∧ _ ∧ _ ∧ AllLt _ news›).2.2.2.2.2.2.2.2.2.2.2.2.2.2.2.2.2.2.2.2 q2 h2 | exact allLt_get (‹_ ∧ _ ∧ _ ∧ _ ∧ _ ∧ _ ∧ _ ∧ _ ∧ _ ∧ _ ∧ _ ∧ _ ∧ _ ∧ _ ∧ _ ∧ _ ∧ _ ∧ _ ∧ _ ∧ _ ∧ _ ∧ AllLt _ news›).2.2.2.2.2.2.2.2.2.2.2.2.2.2.2.2.2.2.2.2.2 q2 h2 | exact allLt_get (‹_ ∧ _ ∧ _ ∧ _ ∧ _ ∧ _ ∧ _ ∧ _ ∧ _ ∧ _ ∧ _ ∧ _ ∧ _ ∧ _ ∧ _ ∧ _ ∧ _ ∧ _ ∧ _ ∧ _ ∧ _ ∧ _ ∧ AllLt _ news›).2.2.2.2.2.2.2.2.2.2.2.2.2.2.2.2.2.2.2.2.2.2 q2 h2 | exact allLt_get (‹_ ∧ _ ∧ _ ∧ _ ∧ _ ∧ _ ∧ _ ∧ _ ∧ _ ∧ _ ∧ _ ∧ _ ∧ _ ∧ _ ∧ _ ∧ _ ∧ _ ∧ _ ∧ _ ∧ _ ∧ _ ∧ _ ∧ _ ∧ AllLt _ news›).2.2.2.2.2.2.2.2.2.2.2.2.2.2.2.2.2.2.2.2.2.2.2 q2 h2)) (allC (fun q2 h2 => by (first | exact a1 q2 h2 | exact allLt_get (‹AllLt _ news›) q2 h2 | exact allLt_get (‹_ ∧ AllLt _ news›).2 q2 h2 | exact allLt_get (‹_ ∧ _ ∧ AllLt _ news›).2.2 q2 h2 | exact allLt_get (‹_ ∧ _ ∧ _ ∧ AllLt _ news›).2.2.2 q2 h2 | exact allLt_get (‹_ ∧ _ ∧ _ ∧ _ ∧ AllLt _ news›).2.2.2.2 q2 h2 | exact allLt_get (‹_ ∧ _ ∧ _ ∧ _ ∧ _ ∧ AllLt _ news›).2.2.2.2.2 q2 h2 | exact allLt_get (‹_ ∧ _ ∧ _ ∧ _ ∧ _ ∧ _ ∧ AllLt _ news›).2.2.2.2.2.2 q2 h2 | exact allLt_get (‹_ ∧ _ ∧ _ ∧ _ ∧ _ ∧ _ ∧ _ ∧ AllLt _ news›).2.2.2.2.2.2.2 q2 h2 | exact allLt_get (‹_ ∧ _ ∧ _ ∧ _ ∧ _ ∧ _ ∧ _ ∧ _ ∧ AllLt _ news›).2.2.2.2.2.2.2.2 q2 h2 | exact allLt_get (‹_ ∧ _ ∧ _ ∧ _ ∧ _ ∧ _ ∧ _ ∧ _ ∧ _ ∧ AllLt _ news›).2.2.2.2.2.2.2.2.2 q2 h2 | exact allLt_get (‹_ ∧ _ ∧ _ ∧ _ ∧ _ ∧ _ ∧ _ ∧ _ ∧ _ ∧ _ ∧ AllLt _ news›).2.2.2.2.2.2.2.2.2.2 q2 h2 | exact allLt_get (‹_ ∧ _ ∧ _ ∧ _ ∧ _ ∧ _ ∧ _ ∧ _ ∧ _ ∧ _ ∧ _ ∧ AllLt _ news›).2.2.2.2.2.2.2.2.2.2.2 q2 h2 | exact allLt_get (‹_ ∧ _ ∧ _ ∧ _ ∧ _ ∧ _ ∧ _ ∧ _ ∧ _ ∧ _ ∧ _ ∧ _ ∧ AllLt _ news›).2.2.2.2.2.2.2.2.2.2.2.2 q2 h2 | exact allLt_get (‹_ ∧ _ ∧ _ ∧ _ ∧ _ ∧ _ ∧ _ ∧ _ ∧ _ ∧ _ ∧ _ ∧ _ ∧ _ ∧ AllLt _ news›).2.2.2.2.2.2.2.2.2.2.2.2.2 q2 h2 | exact allLt_get (‹_ ∧ _ ∧ _ ∧ _ ∧ _ ∧ _ ∧ _ ∧ _ ∧ _ ∧ _ ∧ _ ∧ _ ∧ _ ∧ _ ∧ AllLt _ news›).2.2.2.2.2.2.2.2.2.2.2.2.2.2 q2 h2 | exact allLt_get (‹_ ∧ _ ∧ _ ∧ _ ∧ _ ∧ _ ∧ _ ∧ _ ∧ _ ∧ _ ∧ _ ∧ _ ∧ _ ∧ _ ∧ _ ∧ AllLt _ news›).2.2.2.2.2.2.2.2.2.2.2.2.2.2.2 q2 h2 | exact allLt_get (‹_ ∧ _ ∧ _ ∧ _ ∧ _ ∧ _ ∧ _ ∧ _ ∧ _ ∧ _ ∧ _ ∧ _ ∧ _ ∧ _ ∧ _ ∧ _ ∧ AllLt _ news›).2.2.2.2.2.2.2.2.2.2.2.2.2.2.2.2 q2 h2 | exact allLt_get (‹_ ∧ _ ∧ _ ∧ _ ∧ _ ∧ _ ∧ _ ∧ _ ∧ _ ∧ _ ∧ _ ∧ _ ∧ _ ∧ _ ∧ _ ∧ _ ∧ _ ∧ AllLt _ news›).2.2.2.2.2.2.2.2.2.2.2.2.2.2.2.2.2 q2 h2 | exact allLt_get (‹_ ∧ _ ∧ _ ∧ _ ∧ _ ∧ _ ∧ _ ∧ _ ∧ _ ∧ _ ∧ _ ∧ _ ∧ _ ∧ _ ∧ _ ∧ _ ∧ _ ∧ _ ∧ AllLt _ news›).2.2.2.2.2.2.2.2.2.2.2.2.2.2.2.2.2.2 q2 h2 | exact allLt_get (‹_ ∧ _ ∧ _ ∧ _ ∧ _ ∧ _ ∧ _ ∧ _ ∧ _ ∧ _ ∧ _ ∧ _ ∧ _ ∧ _ ∧ _ ∧ _ ∧ _ ∧ _ ∧ _ ∧ AllLt _ news›).2.2.2.2.2.2.2.2.2.2.2.2.2.2.2.2.2.2.2 q2 h2 | exact allLt_get (‹_ ∧ _ ∧ _ ∧ _ ∧ _ ∧ _ ∧ _ ∧ _ ∧ _ ∧ _ ∧ _ ∧ _ ∧ _ ∧ _ ∧ _ ∧ _ ∧ _ ∧ _ ∧ _ ∧ _ ∧ AllLt _ news›).2.2.2.2.2.2.2.2.2.2.2.2.2.2.2.2.2.2.2.2 q2 h2 | exact allLt_get (‹_ ∧ _ ∧ _ ∧ _ ∧ _ ∧ _ ∧ _ ∧ _ ∧ _ ∧ _ ∧ _ ∧ _ ∧ _ ∧ _ ∧ _ ∧ _ ∧ _ ∧ _ ∧ _ ∧ _ ∧ _ ∧ AllLt _ news›).2.2.2.2.2.2.2.2.2.2.2.2.2.2.2.2.2.2.2.2.2 q2 h2 | exact allLt_get (‹_ ∧ _ ∧ _ ∧ _ ∧ _ ∧ _ ∧ _ ∧ _ ∧ _ ∧ _ ∧ _ ∧ _ ∧ _ ∧ _ ∧ _ ∧ _ ∧ _ ∧ _ ∧ _ ∧ _ ∧ _ ∧ _ ∧ AllLt _ news›).2.2.2.2.2.2.2.2.2.2.2.2.2.2.2.2.2.2.2.2.2.2 q2 h2 | exact allLt_get (‹_ ∧ _ ∧ _ ∧ _ ∧ _ ∧ _ ∧ _ ∧ _ ∧ _ ∧ _ ∧ _ ∧ _ ∧ _ ∧ _ ∧ _ ∧ _ ∧ _ ∧ _ ∧ _ ∧ _ ∧ _ ∧ _ ∧ _ ∧ AllLt _ news›).2.2.2.2.2.2.2.2.2.2.2.2.2.2.2.2.2.2.2.2.2.2.2 q2 h2)) (allC (fun q2 h2 => by (first | exact a1 q2 h2 | exact allLt_get (‹AllLt _ news›) q2 h2 | exact allLt_get (‹_ ∧ AllLt _ news›).2 q2 h2 | exact allLt_get (‹_ ∧ _ ∧ AllLt _ news›).2.2 q2 h2 | exact allLt_get (‹_ ∧ _ ∧ _ ∧ AllLt _ news›).2.2.2 q2 h2 | exact allLt_get (‹_ ∧ _ ∧ _ ∧ _ ∧ AllLt _ news›).2.2.2.2 q2 h2 | exact allLt_get (‹_ ∧ _ ∧ _ ∧ _ ∧ _ ∧ AllLt _ news›).2.2.2.2.2 q2 h2 | exact allLt_get (‹_ ∧ _ ∧ _ ∧ _ ∧ _ ∧ _ ∧ AllLt _ news›).2.2.2.2.2.2 q2 h2 | exact allLt_get (‹_ ∧ _ ∧ _ ∧ _ ∧ _ ∧ _ ∧ _ ∧ AllLt _ news›).2.2.2.2.2.2.2 q2 h2 | exact allLt_get (‹_ ∧ _ ∧ _ ∧ _ ∧ _ ∧ _ ∧ _ ∧ _ ∧ AllLt _ news›).2.2.2.2.2.2.2.2 q2 h2 | exact allLt_get (‹_ ∧ _ ∧ _ ∧ _ ∧ _ ∧ _ ∧ _ ∧ _ ∧ _ ∧ AllLt _ news›).2.2.2.2.2.2.2.2.2 q2 h2 | exact allLt_get (‹_ ∧ _ ∧ _ ∧ _ ∧ _ ∧ _ ∧ _ ∧ _ ∧ _ ∧ _ ∧ AllLt _ news›).2.2.2.2.2.2.2.2.2.2 q2 h2 | exact allLt_get (‹_ ∧ _ ∧ _ ∧ _ ∧ _ ∧ _ ∧ _ ∧ _ ∧ _ ∧ _ ∧ _ ∧ AllLt _ news›).2.2.2.2.2.2.2.2.2.2.2 q2 h2 | exact allLt_get (‹_ ∧ _ ∧ _ ∧ _ ∧ _ ∧ _ ∧ _ ∧ _ ∧ _ ∧ _ ∧ _ ∧ _ ∧ AllLt _ news›).2.2.2.2.2.2.2.2.2.2.2.2 q2 h2 | exact allLt_get (‹_ ∧ _ ∧ _ ∧ _ ∧ _ ∧ _ ∧ _ ∧ _ ∧ _ ∧ _ ∧ _ ∧ _ ∧ _ ∧ AllLt _ news›).2.2.2.2.2.2.2.2.2.2.2.2.2 q2 h2 | exact allLt_get (‹_ ∧ _ ∧ _ ∧ _ ∧ _ ∧ _ ∧ _ ∧ _ ∧ _ ∧ _ ∧ _ ∧ _ ∧ _ ∧ _ ∧ AllLt _ news›).2.2.2.2.2.2.2.2.2.2.2.2.2.2 q2 h2 | exact allLt_get (‹_ ∧ _ ∧ _ ∧ _ ∧ _ ∧ _ ∧ _ ∧ _ ∧ _ ∧ _ ∧ _ ∧ _ ∧ _ ∧ _ ∧ _ ∧ AllLt _ news›).2.2.2.2.2.2.2.2.2.2.2.2.2.2.2 q2 h2 | exact allLt_get (‹_ ∧ _ ∧ _ ∧ _ ∧ _ ∧ _ ∧ _ ∧ _ ∧ _ ∧ _ ∧ _ ∧ _ ∧ _ ∧ _ ∧ _ ∧ _ ∧ AllLt _ news›).2.2.2.2.2.2.2.2.2.2.2.2.2.2.2.2 q2 h2 | exact allLt_get (‹_ ∧ _ ∧ _ ∧ _ ∧ _ ∧ _ ∧ _ ∧ _ ∧ _ ∧ _ ∧ _ ∧ _ ∧ _ ∧ _ ∧ _ ∧ _ ∧ _ ∧ AllLt _ news›).2.2.2.2.2.2.2.2.2.2.2.2.2.2.2.2.2 q2 h2 | exact allLt_get (‹_ ∧ _ ∧ _ ∧ _ ∧ _ ∧ _ ∧ _ ∧ _ ∧ _ ∧ _ ∧ _ ∧ _ ∧ _ ∧ _ ∧ _ ∧ _ ∧ _ ∧ _ ∧ AllLt _ news›).2.2.2.2.2.2.2.2.2.2.2.2.2.2.2.2.2.2 q2 h2 | exact allLt_get (‹_ ∧ _ ∧ _ ∧ _ ∧ _ ∧ _ ∧ _ ∧ _ ∧ _ ∧ _ ∧ _ ∧ _ ∧ _ ∧ _ ∧ _ ∧ _ ∧ _ ∧ _ ∧ _ ∧ AllLt _ news›).2.2.2.2.2.2.2.2.2.2.2.2.2.2.2.2.2.2.2 q2 h2 | exact allLt_get (‹_ ∧ _ ∧ _ ∧ _ ∧ _ ∧ _ ∧ _ ∧ _ ∧ _ ∧ _ ∧ _ ∧ _ ∧ _ ∧ _ ∧ _ ∧ _ ∧ _ ∧ _ ∧ _ ∧ _ ∧ AllLt _ news›).2.2.2.2.2.2.2.2.2.2.2.2.2.2.2.2.2.2.2.2 q2 h2 | exact allLt_get (‹_ ∧ _ ∧ _ ∧ _ ∧ _ ∧ _ ∧ _ ∧ _ ∧ _ ∧ _ ∧ _ ∧ _ ∧ _ ∧ _ ∧ _ ∧ _ ∧ _ ∧ _ ∧ _ ∧ _ ∧ _ ∧ AllLt _ news›).2.2.2.2.2.2.2.2.2.2.2.2.2.2.2.2.2.2.2.2.2 q2 h2 | exact allLt_get (‹_ ∧ _ ∧ _ ∧ _ ∧ _ ∧ _ ∧ _ ∧ _ ∧ _ ∧ _ ∧ _ ∧ _ ∧ _ ∧ _ ∧ _ ∧ _ ∧ _ ∧ _ ∧ _ ∧ _ ∧ _ ∧ _ ∧ AllLt _ news›).2.2.2.2.2.2.2.2.2.2.2.2.2.2.2.2.2.2.2.2.2.2 q2 h2 | exact allLt_get (‹_ ∧ _ ∧ _ ∧ _ ∧ _ ∧ _ ∧ _ ∧ _ ∧ _ ∧ _ ∧ _ ∧ _ ∧ _ ∧ _ ∧ _ ∧ _ ∧ _ ∧ _ ∧ _ ∧ _ ∧ _ ∧ _ ∧ _ ∧ AllLt _ news›).2.2.2.2.2.2.2.2.2.2.2.2.2.2.2.2.2.2.2.2.2.2.2 q2 h2)) (List.forall_mem_nil _))))
  · intro h F9 N9
    refine' item_nat (hs := by with_unfolding_all rfl) N9 (.head _) (by decide) rfl ?_
    refine leaveK_ F9 N9 fun F10 N10 => ?_
    refine' kinds_end (own2 := []) F10 N10 ?m1 ?m2 ?hs ?m3 ?ht ?hi ?ab ?mn h
    case m1 => k_mem
    case m2 => k_mem
    case hs => assumption
    case mn => intro q hq; k_mem
    case m3 => intro q hq; cases hq
    case ht => intro g L s _; exact rfl
    case hi => first | exact isSelf_bool | exact isSelf_none | exact isSelf_int7 | exact isSelf_str | exact isSelf_bytes
    case ab => exact (allC (fun q2 h2 => by (first | exact a1 q2 h2 | exact allLt_get (‹AllLt _ news›) q2 h2 | exact allLt_get (‹_ ∧ AllLt _ news›).2 q2 h2 | exact allLt_get (‹_ ∧ _ ∧ AllLt _ news›).2.2 q2 h2 | exact allLt_get (‹_ ∧ _ ∧ _ ∧ AllLt _ news›).2.2.2 q2 h2 | exact allLt_get (‹_ ∧ _ ∧ _ ∧ _ ∧ AllLt _ news›).2.2.2.2 q2 h2 | exact allLt_get (‹_ ∧ _ ∧ _ ∧ _ ∧ _ ∧ AllLt _ news›).2.2.2.2.2 q2 h2 | exact allLt_get (‹_ ∧ _ ∧ _ ∧ _ ∧ _ ∧ _ ∧ AllLt _ news›).2.2.2.2.2.2 q2 h2 | exact allLt_get (‹_ ∧ _ ∧ _ ∧ _ ∧ _ ∧ _ ∧ _ ∧ AllLt _ news›).2.2.2.2.2.2.2 q2 h2 | exact allLt_get (‹_ ∧ _ ∧ _ ∧ _ ∧ _ ∧ _ ∧ _ ∧ _ ∧ AllLt _ news›).2.2.2.2.2.2.2.2 q2 h2 | exact allLt_get (‹_ ∧ _ ∧ _ ∧ _ ∧ _ ∧ _ ∧ _ ∧ _ ∧ _ ∧ AllLt _ news›).2.2.2.2.2.2.2.2.2 q2 h2 | exact allLt_get (‹_ ∧ _ ∧ _ ∧ _ ∧ _ ∧ _ ∧ _ ∧ _ ∧ _ ∧ _ ∧ AllLt _ news›).2.2.2.2.2.2.2.2.2.2 q2 h2 | exact allLt_get (‹_ ∧ _ ∧ _ ∧ _ ∧ _ ∧ _ ∧ _ ∧ _ ∧ _ ∧ _ ∧ _ ∧ AllLt _ news›).2.2.2.2.2.2.2.2.2.2.2 q2 h2 | exact allLt_get (‹_ ∧ _ ∧ _ ∧ _ ∧ _ ∧ _ ∧ _ ∧ _ ∧ _ ∧ _ ∧ _ ∧ _ ∧ AllLt _ news›).2.2.2.2.2.2.2.2.2.2.2.2 q2 h2 | exact allLt_get (‹_ ∧ _ ∧ _ ∧ _ ∧ _ ∧ _ ∧ _ ∧ _ ∧ _ ∧ _ ∧ _ ∧ _ ∧ _ ∧ AllLt _ news›).2.2.2.2.2.2.2.2.2.2.2.2.2 q2 h2 | exact allLt_get (‹_ ∧ _ ∧ _ ∧ _ ∧ _ ∧ _ ∧ _ ∧ _ ∧ _ ∧ _ ∧ _ ∧ _ ∧ _ ∧ _ ∧ AllLt _ news›).2.2.2.2.2.2.2.2.2.2.2.2.2.2 q2 h2 | exact allLt_get (‹_ ∧ _ ∧ _ ∧ _ ∧ _ ∧ _ ∧ _ ∧ _ ∧ _ ∧ _ ∧ _ ∧ _ ∧ _ ∧ _ ∧ _ ∧ AllLt _ news›).2.2.2.2.2.2.2.2.2.2.2.2.2.2.2 q2 h2 | exact allLt_get (‹_ ∧ _ ∧ _ ∧ _ ∧ _ ∧ _ ∧ _ ∧ _ ∧ _ ∧ _ ∧ _ ∧ _ ∧ _ ∧ _ ∧ _ ∧ _ ∧ AllLt _ news›).2.2.2.2.2.2.2.2.2.2.2.2.2.2.2.2 q2 h2 | exact allLt_get (‹_ ∧ _ ∧ _ ∧ _ ∧ _ ∧ _ ∧ _ ∧ _ ∧ _ ∧ _ ∧ _ ∧ _ ∧ _ ∧ _ ∧ _ ∧ _ ∧ _ ∧ AllLt _ news›).2.2.2.2.2.2.2.2.2.2.2.2.2.2.2.2.2 q2 h2 | exact allLt_get (‹_ ∧ _ ∧ _ ∧ _ ∧ _ ∧ _ ∧ _ ∧ _ ∧ _ ∧ _ ∧ _ ∧ _ ∧ _ ∧ _ ∧ _ ∧ _ ∧ _ ∧ _ ∧ AllLt _ news›).2.2.2.2.2.2.2.2.2.2.2.2.2.2.2.2.2.2 q2 h2 | exact allLt_get (‹_ ∧ _ ∧ _ ∧ _ ∧ _ ∧ _ ∧ _ ∧ _ ∧ _ ∧ _ ∧ _ ∧ _ ∧ _ ∧ _ ∧ _ ∧ _ ∧ _ ∧ _ ∧ _ ∧ AllLt _ news›).2.2.2.2.2.2.2.2.2.2.2.2.2.2.2.2.2.2.2 q2 h2 | exact allLt_get (‹_ ∧ _ ∧ _ ∧ _ ∧ _ ∧ _ ∧ _ ∧ _ ∧ _ ∧ _ ∧ _ ∧ _ ∧ _ ∧ _ ∧ _ ∧ _ ∧ _ ∧ _ ∧ _ ∧ _ ∧ AllLt _ news›).2.2.2.2.2.2.2.2.2.2.2.2.2.2.2.2.2.2.2.2 q2 h2 | exact allLt_get (‹_ ∧ _ ∧ _ ∧ _ ∧ _ ∧ _ ∧ _ ∧ _ ∧ _ ∧ _ ∧ _ ∧ _ ∧ _ ∧ _ ∧ _ ∧ _ ∧ _ ∧ _ ∧ _ ∧ _ ∧ _ ∧ AllLt _ news›).2.2.2.2.2.2.2.2.2.2.2.2.2.2.2.2.2.2.2.2.2 q2 h2 | exact allLt_get (‹_ ∧ _ ∧ _ ∧ _ ∧ _ ∧ _ ∧ _ ∧ _ ∧ _ ∧ _ ∧ _ ∧ _ ∧ _ ∧ _ ∧ _ ∧ _ ∧ _ ∧ _ ∧ _ ∧ _ ∧ _ ∧ _ ∧ AllLt _ news›).2.2.2.2.2.2.2.2.2.2.2.2.2.2.2.2.2.2.2.2.2.2 q2 h2 | exact allLt_get (‹_ ∧ _ ∧ _ ∧ _ ∧ _ ∧ _ ∧ _ ∧ _ ∧ _ ∧ _ ∧ _ ∧ _ ∧ _ ∧ _ ∧ _ ∧ _ ∧ _ ∧ _ ∧ _ ∧ _ ∧ _ ∧ _ ∧ _ ∧ AllLt _ news›).2.2.2.2.2.2.2.2.2.2.2.2.2.2.2.2.2.2.2.2.2.2.2 q2 h2)) (allC (fun q2 h2 => by (first | exact a1 q2 h2 | exact allLt_get (‹AllLt _ news›) q2 h2 | exact allLt_get (‹_ ∧ AllLt _ news›).2 q2 h2 | exact allLt_get (‹_ ∧ _ ∧ AllLt _ news›).2.2 q2 h2 | exact allLt_get (‹_ ∧ _ ∧ _ ∧ AllLt _ news›).2.2.2 q2 h2 | exact allLt_get (‹_ ∧ _ ∧ _ ∧ _ ∧ AllLt _ news›).2.2.2.2 q2 h2 | exact allLt_get (‹_ ∧ _ ∧ _ ∧ _ ∧ _ ∧ AllLt _ news›).2.2.2.2.2 q2 h2 | exact allLt_get (‹_ ∧ _ ∧ _ ∧ _ ∧ _ ∧ _ ∧ AllLt _ news›).2.2.2.2.2.2 q2 h2 | exact allLt_get (‹_ ∧ _ ∧ _ ∧ _ ∧ _ ∧ _ ∧ _ ∧ AllLt _ news›).2.2.2.2.2.2.2 q2 h2 | exact allLt_get (‹_ ∧ _ ∧ _ ∧ _ ∧ _ ∧ _ ∧ _ ∧ _ ∧ AllLt _ news›).2.2.2.2.2.2.2.2 q2 h2 | exact allLt_get (‹_ ∧ _ ∧ _ ∧ _ ∧ _ ∧ _ ∧ _ ∧ _ ∧ _ ∧ AllLt _ news›).2.2.2.2.2.2.2.2.2 q2 h2 | exact allLt_get (‹_ ∧ _ ∧ _ ∧ _ ∧ _ ∧ _ ∧ _ ∧ _ ∧ _ ∧ _ ∧ AllLt _ news›).2.2.2.2.2.2.2.2.2.2 q2 h2 | exact allLt_get (‹_ ∧ _ ∧ _ ∧ _ ∧ _ ∧ _ ∧ _ ∧ _ ∧ _ ∧ _ ∧ _ ∧ AllLt _ news›).2.2.2.2.2.2.2.2.2.2.2 q2 h2 | exact allLt_get (‹_ ∧ _ ∧ _ ∧ _ ∧ _ ∧ _ ∧ _ ∧ _ ∧ _ ∧ _ ∧ _ ∧ _ ∧ AllLt _ news›).2.2.2.2.2.2.2.2.2.2.2.2 q2 h2 | exact allLt_get (‹_ ∧ _ ∧ _ ∧ _ ∧ _ ∧ _ ∧ _ ∧ _ ∧ _ ∧ _ ∧ _ ∧ _ ∧ _ ∧ AllLt _ news›).2.2.2.2.2.2.2.2.2.2.2.2.2 q2 h2 | exact allLt_get (‹_ ∧ _ ∧ _ ∧ _ ∧ _ ∧ _ ∧ _ ∧ _ ∧ _ ∧ _ ∧ _ ∧ _ ∧ _ ∧ _ ∧ AllLt _ news›).2.2.2.2.2.2.2.2.2.2.2.2.2.2 q2 h2 | exact allLt_get (‹_ ∧ _ ∧ _ ∧ _ ∧ _ ∧ _ ∧ _ ∧ _ ∧ _ ∧ _ ∧ _ ∧ _ ∧ _ ∧ _ ∧ _ ∧ AllLt _ news›).2.2.2.2.2.2.2.2.2.2.2.2.2.2.2 q2 h2 | exact allLt_get (‹_ ∧ _ ∧ _ ∧ _ ∧ _ ∧ _ ∧ _ ∧ _ ∧ _ ∧ _ ∧ _ ∧ _ ∧ _ ∧ _ ∧ _ ∧ _ ∧ AllLt _ news›).2.2.2.2.2.2.2.2.2.2.2.2.2.2.2.2 q2 h2 | exact allLt_get (‹_ ∧ _ ∧ _ ∧ _ ∧ _ ∧ _ ∧ _ ∧ _ ∧ _ ∧ _ ∧ _ ∧ _ ∧ _ ∧ _ ∧ _ ∧ _ ∧ _ ∧ AllLt _ news›).2.2.2.2.2.2.2.2.2.2.2.2.2.2.2.2.2 q2 h2 | exact allLt_get (‹_ ∧ _ ∧ _ ∧ _ ∧ _ ∧ _ ∧ _ ∧ _ ∧ _ ∧ _ ∧ _ ∧ _ ∧ _ ∧ _ ∧ _ ∧ _ ∧ _ ∧ _ ∧ AllLt _ news›).2.2.2.2.2.2.2.2.2.2.2.2.2.2.2.2.2.2 q2 h2 | exact allLt_get (‹_ ∧ _ ∧ _ ∧ _ ∧ _ ∧ _ ∧ _ ∧ _ ∧ _ ∧ _ ∧ _ ∧ _ ∧ _ ∧ _ ∧ _ ∧ _ ∧ _ ∧ _ ∧ _ ∧ AllLt _ news›).2.2.2.2.2.2.2.2.2.2.2.2.2.2.2.2.2.2.2 q2 h2 | exact allLt_get (‹_ ∧ _ ∧ _ ∧ _ ∧ _ ∧ _ ∧ _ ∧ _ ∧ _ ∧ _ ∧ _ ∧ _ ∧ _ ∧ _ ∧ _ ∧ _ ∧ _ ∧ _ ∧ _ ∧ _ ∧ AllLt _ news›).2.2.2.2.2.2.2.2.2.2.2.2.2.2.2.2.2.2.2.2 q2 h2 | exact allLt_get (‹_ ∧ _ ∧ _ ∧ _ ∧ _ ∧ _ ∧ _ ∧ _ ∧ _ ∧ _ ∧ _ ∧ _ ∧ _ ∧ _ ∧ _ ∧ _ ∧ _ ∧ _ ∧ _ ∧ _ ∧ _ ∧ AllLt _ news›).2.2.2.2.2.2.2.2.2.2.2.2.2.2.2.2.2.2.2.2.2 q2 h2 | exact allLt_get (‹_ ∧ _ ∧ _ ∧ _ ∧ _ ∧ _ ∧ _ ∧ _ ∧ _ ∧ _ ∧ _ ∧ _ ∧ _ ∧ _ ∧ _ ∧ _ ∧ _ ∧ _ ∧ _ ∧ _ ∧ _ ∧ _ ∧ AllLt _ news›).2.2.2.2.2.2.2.2.2.2.2.2.2.2.2.2.2.2.2.2.2.2 q2 h2 | exact allLt_get (‹_ ∧ _ ∧ _ ∧ _ ∧ _ ∧ _ ∧ _ ∧ _ ∧ _ ∧ _ ∧ _ ∧ _ ∧ _ ∧ _ ∧ _ ∧ _ ∧ _ ∧ _ ∧ _ ∧ _ ∧ _ ∧ _ ∧ _ ∧ AllLt _ news›).2.2.2.2.2.2.2.2.2.2.2.2.2.2.2.2.2.2.2.2.2.2.2 q2 h2)) (List.forall_mem_nil _)))
  · intro h F9 N9
    refine' item_nat (hs := by with_unfolding_all rfl) N9 (.head _) (by decide) rfl ?_
    refine leaveK_ F9 N9 fun F10 N10 => ?_
    refine' kinds_end2 F10 N10 ?m1 ?m2 ?hs ?m3 ?hc ?ab ?mn h
    case m1 => k_mem
    case m2 => k_mem
    case hs => assumption
    case mn => intro q hq; k_mem
    case m3 => k_mem
    case hc => exact rfl
    case ab => exact (allC (fun q2 h2 => by (first | exact a1 q2 h2 | exact allLt_get (‹AllLt _ news›) q2 h2 | exact allLt_get (‹_ ∧ AllLt _ news›).2 q2 h2 | exact allLt_get (‹_ ∧ _ ∧ AllLt _ news›).2.2 q2 h2 | exact allLt_get (‹_ ∧ _ ∧ _ ∧ AllLt _ news›).2.2.2 q2 h2 | exact allLt_get (‹_ ∧ _ ∧ _ ∧ _ ∧ AllLt _ news›).2.2.2.2 q2 h2 | exact allLt_get (‹_ ∧ _ ∧ _ ∧ _ ∧ _ ∧ AllLt _ news›).2.2.2.2.2 q2 h2 | exact allLt_get (‹_ ∧ _ ∧ _ ∧ _ ∧ _ ∧ _ ∧ AllLt _ news›).2.2.2.2.2.2 q2 h2 | exact allLt_get (‹_ ∧ _ ∧ _ ∧ _ ∧ _ ∧ _ ∧ _ ∧ AllLt _ news›).2.2.2.2.2.2.2 q2 h2 | exact allLt_get (‹_ ∧ _ ∧ _ ∧ _ ∧ _ ∧ _ ∧ _ ∧ _ ∧ AllLt _ news›).2.2.2.2.2.2.2.2 q2 h2 | exact allLt_get (‹_ ∧ _ ∧ _ ∧ _ ∧ _ ∧ _ ∧ _ ∧ _ ∧ _ ∧ AllLt _ news›).2.2.2.2.2.2.2.2.2 q2 h2 | exact allLt_get (‹_ ∧ _ ∧ _ ∧ _ ∧ _ ∧ _ ∧ _ ∧ _ ∧ _ ∧ _ ∧ AllLt _ news›).2.2.2.2.2.2.2.2.2.2 q2 h2 | exact allLt_get (‹_ ∧ _ ∧ _ ∧ _ ∧ _ ∧ _ ∧ _ ∧ _ ∧ _ ∧ _ ∧ _ ∧ AllLt _ news›).2.2.2.2.2.2.2.2.2.2.2 q2 h2 | exact allLt_get (‹_ ∧ _ ∧ _ ∧ _ ∧ _ ∧ _ ∧ _ ∧ _ ∧ _ ∧ _ ∧ _ ∧ _ ∧ AllLt _ news›).2.2.2.2.2.2.2.2.2.2.2.2 q2 h2 | exact allLt_get (‹_ ∧ _ ∧ _ ∧ _ ∧ _ ∧ _ ∧ _ ∧ _ ∧ _ ∧ _ ∧ _ ∧ _ ∧ _ ∧ AllLt _ news›).2.2.2.2.2.2.2.2.2.2.2.2.2 q2 h2 | exact allLt_get (‹_ ∧ _ ∧ _ ∧ _ ∧ _ ∧ _ ∧ _ ∧ _ ∧ _ ∧ _ ∧ _ ∧ _ ∧ _ ∧ _ ∧ AllLt _ news›).2.2.2.2.2.2.2.2.2.2.2.2.2.2 q2 h2 | exact allLt_get (‹_ ∧ _ ∧ _ ∧ _ ∧ _ ∧ _ ∧ _ ∧ _ ∧ _ ∧ _ ∧ _ ∧ _ ∧ _ ∧ _ ∧ _ ∧ AllLt _ news›).2.2.2.2.2.2.2.2.2.2.2.2.2.2.2 q2 h2 | exact allLt_get (‹_ ∧ _ ∧ _ ∧ _ ∧ _ ∧ _ ∧ _ ∧ _ ∧ _ ∧ _ ∧ _ ∧ _ ∧ _ ∧ _ ∧ _ ∧ _ ∧ AllLt _ news›).2.2.2.2.2.2.2.2.2.2.2.2.2.2.2.2 q2 h2 | exact allLt_get (‹_ ∧ _ ∧ _ ∧ _ ∧ _ ∧ _ ∧ _ ∧ _ ∧ _ ∧ _ ∧ _ ∧ _ ∧ _ ∧ _ ∧ _ ∧ _ ∧ _ ∧ AllLt _ news›).2.2.2.2.2.2.2.2.2.2.2.2.2.2.2.2.2 q2 h2 | exact allLt_get (‹_ ∧ _ ∧ _ ∧ _ ∧ _ ∧ _ ∧ _ ∧ _ ∧ _ ∧ _ ∧ _ ∧ _ ∧ _ ∧ _ ∧ _ ∧ _ ∧ _ ∧ _ ∧ AllLt _ news›).2.2.2.2.2.2.2.2.2.2.2.2.2.2.2.2.2.2 q2 h2 | exact allLt_get (‹_ ∧ _ ∧ _ ∧ _ ∧ _ ∧ _ ∧ _ ∧ _ ∧ _ ∧ _ ∧ _ ∧ _ ∧ _ ∧ _ ∧ _ ∧ _ ∧ _ ∧ _ ∧ _ ∧ AllLt _ news›).2.2.2.2.2.2.2.2.2.2.2.2.2.2.2.2.2.2.2 q2 h2 | exact allLt_get (‹_ ∧ _ ∧ _ ∧ _ ∧ _ ∧ _ ∧ _ ∧ _ ∧ _ ∧ _ ∧ _ ∧ _ ∧ _ ∧ _ ∧ _ ∧ _ ∧ _ ∧ _ ∧ _ ∧ _ ∧ AllLt _ news›).2.2.2.2.2.2.2.2.2.2.2.2.2.2.2.2.2.2.2.2 q2 h2 | exact allLt_get (‹_ ∧ _ ∧ _ ∧ _ ∧ _ ∧ _ ∧ _ ∧ _ ∧ _ ∧ _ ∧ _ ∧ _ ∧ _ ∧ _ ∧ _ ∧ _ ∧ _ ∧ _ ∧ _ ∧ _ ∧ _ ∧ AllLt _ news›).2.2.2.2.2.2.2.2.2.2.2.2.2.2.2.2.2.2.2.2.2 q2 h2 | exact allLt_get (‹_ ∧ _ ∧ _ ∧ _ ∧ _ ∧ _ ∧ _ ∧ _ ∧ _ ∧ _ ∧ _ ∧ _ ∧ _ ∧ _ ∧ _ ∧ _ ∧ _ ∧ _ ∧ _ ∧ _ ∧ _ ∧ _ ∧ AllLt _ news›).2.2.2.2.2.2.2.2.2.2.2.2.2.2.2.2.2.2.2.2.2.2 q2 h2 | exact allLt_get (‹_ ∧ _ ∧ _ ∧ _ ∧ _ ∧ _ ∧ _ ∧ _ ∧ _ ∧ _ ∧ _ ∧ _ ∧ _ ∧ _ ∧ _ ∧ _ ∧ _ ∧ _ ∧ _ ∧ _ ∧ _ ∧ _ ∧ _ ∧ AllLt _ news›).2.2.2.2.2.2.2.2.2.2.2.2.2.2.2.2.2.2.2.2.2.2.2 q2 h2)) (allC (fun q2 h2 => by (first | exact a1 q2 h2 | exact allLt_get (‹AllLt _ news›) q2 h2 | exact allLt_get (‹_ ∧ AllLt _ news›).2 q2 h2 | exact allLt_get (‹_ ∧ _ ∧ AllLt _ news›).2.2 q2 h2 | exact allLt_get (‹_ ∧ _ ∧ _ ∧ AllLt _ news›).2.2.2 q2 h2 | exact allLt_get (‹_ ∧ _ ∧ _ ∧ _ ∧ AllLt _ news›).2.2.2.2 q2 h2 | exact allLt_get (‹_ ∧ _ ∧ _ ∧ _ ∧ _ ∧ AllLt _ news›).2.2.2.2.2 q2 h2 | exact allLt_get (‹_ ∧ _ ∧ _ ∧ _ ∧ _ ∧ _ ∧ AllLt _ news›).2.2.2.2.2.2 q2 h2 | exact allLt_get (‹_ ∧ _ ∧ _ ∧ _ ∧ _ ∧ _ ∧ _ ∧ AllLt _ news›).2.2.2.2.2.2.2 q2 h2 | exact allLt_get (‹_ ∧ _ ∧ _ ∧ _ ∧ _ ∧ _ ∧ _ ∧ _ ∧ AllLt _ news›).2.2.2.2.2.2.2.2 q2 h2 | exact allLt_get (‹_ ∧ _ ∧ _ ∧ _ ∧ _ ∧ _ ∧ _ ∧ _ ∧ _ ∧ AllLt _ news›).2.2.2.2.2.2.2.2.2 q2 h2 | exact allLt_get (‹_ ∧ _ ∧ _ ∧ _ ∧ _ ∧ _ ∧ _ ∧ _ ∧ _ ∧ _ ∧ AllLt _ news›).2.2.2.2.2.2.2.2.2.2 q2 h2 | exact allLt_get (‹_ ∧ _ ∧ _ ∧ _ ∧ _ ∧ _ ∧ _ ∧ _ ∧ _ ∧ _ ∧ _ ∧ AllLt _ news›).2.2.2.2.2.2.2.2.2.2.2 q2 h2 | exact allLt_get (‹_ ∧ _ ∧ _ ∧ _ ∧ _ ∧ _ ∧ _ ∧ _ ∧ _ ∧ _ ∧ _ ∧ _ ∧ AllLt _ news›).2.2.2.2.2.2.2.2.2.2.2.2 q2 h2 | exact allLt_get (‹_ ∧ _ ∧ _ ∧ _ ∧ _ ∧ _ ∧ _ ∧ _ ∧ _ ∧ _ ∧ _ ∧ _ ∧ _ ∧ AllLt _ news›).2.2.2.2.2.2.2.2.2.2.2.2.2 q2 h2 | exact allLt_get (‹_ ∧ _ ∧ _ ∧ _ ∧ _ ∧ _ ∧ _ ∧ _ ∧ _ ∧ _ ∧ _ ∧ _ ∧ _ ∧ _ ∧ AllLt _ news›).2.2.2.2.2.2.2.2.2.2.2.2.2.2 q2 h2 | exact allLt_get (‹_ ∧ _ ∧ _ ∧ _ ∧ _ ∧ _ ∧ _ ∧ _ ∧ _ ∧ _ ∧ _ ∧ _ ∧ _ ∧ _ ∧ _ ∧ AllLt _ news›).2.2.2.2.2.2.2.2.2.2.2.2.2.2.2 q2 h2 | exact allLt_get (‹_ ∧ _ ∧ _ ∧ _ ∧ _ ∧ _ ∧ _ ∧ _ ∧ _ ∧ _ ∧ _ ∧ _ ∧ _ ∧ _ ∧ _ ∧ _ ∧ AllLt _ news›).2.2.2.2.2.2.2.2.2.2.2.2.2.2.2.2 q2 h2 | exact allLt_get (‹_ ∧ _ ∧ _ ∧ _ ∧ _ ∧ _ ∧ _ ∧ _ ∧ _ ∧ _ ∧ _ ∧ _ ∧ _ ∧ _ ∧ _ ∧ _ ∧ _ ∧ AllLt _ news›).2.2.2.2.2.2.2.2.2.2.2.2.2.2.2.2.2 q2 h2 | exact allLt_get (‹_ ∧ _ ∧ _ ∧ _ ∧ _ ∧ _ ∧ _ ∧ _ ∧ _ ∧ _ ∧ _ ∧ _ ∧ _ ∧ _ ∧ _ ∧ _ ∧ _ ∧ _ ∧ AllLt _ news›).2.2.2.2.2.2.2.2.2.2.2.2.2.2.2.2.2.2 q2 h2 | exact allLt_get (‹_ ∧ _ ∧ _ ∧ _ ∧ _ ∧ _ ∧ _ ∧ _ ∧ _ ∧ _ ∧ _ ∧ _ ∧ _ ∧ _ ∧ _ ∧ _ ∧ _ ∧ _ ∧ _ ∧ AllLt _ news›).2.2.2.2.2.2.2.2.2.2.2.2.2.2.2.2.2.2.2 q2 h2 | exact allLt_get (‹_ ∧ _ ∧ _ ∧ _ ∧ _ ∧ _ ∧ _ ∧ _ ∧ _ ∧ _ ∧ _ ∧ _ ∧ _ ∧ _ ∧ _ ∧ _ ∧ _ ∧ _ ∧ _ ∧ _ ∧ AllLt _ news›).2.2.2.2.2.2.2.2.2.2.2.2.2.2.2.2.2.2.2.2 q2 h2 | exact allLt_get (‹_ ∧ _ ∧ _ ∧ _ ∧ _ ∧ _ ∧ _ ∧ _ ∧ _ ∧ _ ∧ _ ∧ _ ∧ _ ∧ _ ∧ _ ∧ _ ∧ _ ∧ _ ∧ _ ∧ _ ∧ _ ∧ AllLt _ news›).2.2.2.2.2.2.2.2.2.2.2.2.2.2.2.2.2.2.2.2.2 q2 h2 | exact allLt_get (‹_ ∧ _ ∧ _ ∧ _ ∧ _ ∧ _ ∧ _ ∧ _ ∧ _ ∧ _ ∧ _ ∧ _ ∧ _ ∧ _ ∧ _ ∧ _ ∧ _ ∧ _ ∧ _ ∧ _ ∧ _ ∧ _ ∧ AllLt _ news›).2.2.2.2.2.2.2.2.2.2.2.2.2.2.2.2.2.2.2.2.2.2 q2 h2 | exact allLt_get (‹_ ∧ _ ∧ _ ∧ _ ∧ _ ∧ _ ∧ _ ∧ _ ∧ _ ∧ _ ∧ _ ∧ _ ∧ _ ∧ _ ∧ _ ∧ _ ∧ _ ∧ _ ∧ _ ∧ _ ∧ _ ∧ _ ∧ _ ∧ AllLt _ news›).2.2.2.2.2.2.2.2.2.2.2.2.2.2.2.2.2.2.2.2.2.2.2 q2 h2)) (allC (fun q2 h2 => by (first | exact a1 q2 h2 | exact allLt_get (‹AllLt _ news›) q2 h2 | exact allLt_get (‹_ ∧ AllLt _ news›).2 q2 h2 | exact allLt_get (‹_ ∧ _ ∧ AllLt _ news›).2.2 q2 h2 | exact allLt_get (‹_ ∧ _ ∧ _ ∧ AllLt _ news›).2.2.2 q2 h2 | exact allLt_get (‹_ ∧ _ ∧ _ ∧ _ ∧ AllLt _ news›).2.2.2.2 q2 h2 | exact allLt_get (‹_ ∧ _ ∧ _ ∧ _ ∧ _ ∧ AllLt _ news›).2.2.2.2.2 q2 h2 | exact allLt_get (‹_ ∧ _ ∧ _ ∧ _ ∧ _ ∧ _ ∧ AllLt _ news›).2.2.2.2.2.2 q2 h2 | exact allLt_get (‹_ ∧ _ ∧ _ ∧ _ ∧ _ ∧ _ ∧ _ ∧ AllLt _ news›).2.2.2.2.2.2.2 q2 h2 | exact allLt_get (‹_ ∧ _ ∧ _ ∧ _ ∧ _ ∧ _ ∧ _ ∧ _ ∧ AllLt _ news›).2.2.2.2.2.2.2.2 q2 h2 | exact allLt_get (‹_ ∧ _ ∧ _ ∧ _ ∧ _ ∧ _ ∧ _ ∧ _ ∧ _ ∧ AllLt _ news›).2.2.2.2.2.2.2.2.2 q2 h2 | exact allLt_get (‹_ ∧ _ ∧ _ ∧ _ ∧ _ ∧ _ ∧ _ ∧ _ ∧ _ ∧ _ ∧ AllLt _ news›).2.2.2.2.2.2.2.2.2.2 q2 h2 | exact allLt_get (‹_ ∧ _ ∧ _ ∧ _ ∧ _ ∧ _ ∧ _ ∧ _ ∧ _ ∧ _ ∧ _ ∧ AllLt _ news›).2.2.2.2.2.2.2.2.2.2.2 q2 h2 | exact allLt_get (‹_ ∧ _ ∧ _ ∧ _ ∧ _ ∧ _ ∧ _ ∧ _ ∧ _ ∧ _ ∧ _ ∧ _ ∧ AllLt _ news›).2.2.2.2.2.2.2.2.2.2.2.2 q2 h2 | exact allLt_get (‹_ ∧ _ ∧ _ ∧ _ ∧ _ ∧ _ ∧ _ ∧ _ ∧ _ ∧ _ ∧ _ ∧ _ ∧ _ ∧ AllLt _ news›).2.2.2.2.2.2.2.2.2.2.2.2.2 q2 h2 | exact allLt_get (‹_ ∧ _ ∧ _ ∧ _ ∧ _ ∧ _ ∧ _ ∧ _ ∧ _ ∧ _ ∧ _ ∧ _ ∧ _ ∧ _ ∧ AllLt _ news›).2.2.2.2.2.2.2.2.2.2.2.2.2.2 q2 h2 | exact allLt_get (‹_ ∧ _ ∧ _ ∧ _ ∧ _ ∧ _ ∧ _ ∧ _ ∧ _ ∧ _ ∧ _ ∧ _ ∧ _ ∧ _ ∧ _ ∧ AllLt _ news›).2.2.2.2.2.2.2.2.2.2.2.2.2.2.2 q2 h2 | exact allLt_get (‹_ ∧ _ ∧ _ ∧ _ ∧ _ ∧ _ ∧ _ ∧ _ ∧ _ ∧ _ ∧ _ ∧ _ ∧ _ ∧ _ ∧ _ ∧ _ ∧ AllLt _ news›).2.2.2.2.2.2.2.2.2.2.2.2.2.2.2.2 q2 h2 | exact allLt_get (‹_ ∧ _ ∧ _ ∧ _ ∧ _ ∧ _ ∧ _ ∧ _ ∧ _ ∧ _ ∧ _ ∧ _ ∧ _ ∧ _ ∧ _ ∧ _ ∧ _ ∧ AllLt _ news›).2.2.2.2.2.2.2.2.2.2.2.2.2.2.2.2.2 q2 h2 | exact allLt_get (‹_ ∧ _ ∧ _ ∧ _ ∧ _ ∧ _ ∧ _ ∧ _ ∧ _ ∧ _ ∧ _ ∧ _ ∧ _ ∧ _ ∧ _ ∧ _ ∧ _ ∧ _ ∧ AllLt _ news›).2.2.2.2.2.2.2.2.2.2.2.2.2.2.2.2.2.2 q2 h2 | exact allLt_get (‹_ ∧ _ ∧ _ ∧ _ ∧ _ ∧ _ ∧ _ ∧ _ ∧ _ ∧ _ ∧ _ ∧ _ ∧ _ ∧ _ ∧ _ ∧ _ ∧ _ ∧ _ ∧ _ ∧ AllLt _ news›).2.2.2.2.2.2.2.2.2.2.2.2.2.2.2.2.2.2.2 q2 h2 | exact allLt_get (‹_ ∧ _ ∧ _ ∧ _ ∧ _ ∧ _ ∧ _ ∧ _ ∧ _ ∧ _ ∧ _ ∧ _ ∧ _ ∧ _ ∧ _ ∧ _ ∧ _ ∧ _ ∧ _ ∧ _ ∧ AllLt _ news›).2.2.2.2.2.2.2.2.2.2.2.2.2.2.2.2.2.2.2.2 q2 h2 | exact allLt_get (‹_ ∧ _ ∧ _ ∧ _ ∧ _ ∧ _ ∧ _ ∧ _ ∧ _ ∧ _ ∧ _ ∧ _ ∧ _ ∧ _ ∧ _ ∧ _ ∧ _ ∧ _ ∧ _ ∧ _ ∧ _ ∧ AllLt _ news›).2.2.2.2.2.2.2.2.2.2.2.2.2.2.2.2.2.2.2.2.2 q2 h2 | exact allLt_get (‹_ ∧ _ ∧ _ ∧ _ ∧ _ ∧ _ ∧ _ ∧ _ ∧ _ ∧ _ ∧ _ ∧ _ ∧ _ ∧ _ ∧ _ ∧ _ ∧ _ ∧ _ ∧ _ ∧ _ ∧ _ ∧ _ ∧ AllLt _ news›).2.2.2.2.2.2.2.2.2.2.2.2.2.2.2.2.2.2.2.2.2.2 q2 h2 | exact allLt_get (‹_ ∧ _ ∧ _ ∧ _ ∧ _ ∧ _ ∧ _ ∧ _ ∧ _ ∧ _ ∧ _ ∧ _ ∧ _ ∧ _ ∧ _ ∧ _ ∧ _ ∧ _ ∧ _ ∧ _ ∧ _ ∧ _ ∧ _ ∧ AllLt _ news›).2.2.2.2.2.2.2.2.2.2.2.2.2.2.2.2.2.2.2.2.2.2.2 q2 h2)) (List.forall_mem_nil _))))
end
end

-- L_st
section
set_option maxHeartbeats 4000000

/-- where the law's things lie -/
structure Adr where
  told : Addr
  dG : Addr
  dS : Addr
  tA : Addr
  tB : Addr
  types : Addr
  mgr : Addr
  page : Addr
  tabs : Addr

/-- what the law's things hold between two deeds -/
structure St where
  tl : List Value
  nn : Nat
  tab : Array Value
  oG : Obj
  oS : Obj
  oA : Obj
  oB : Obj
  kG : List (MK × Value)
  kS : List (MK × Value)
  kA : List (MK × Value)
  kB : List (MK × Value)
  its : Array Value
  nt : Nat

noncomputable def Adr.all (a : Adr) : List Addr := [a.told, 86, a.dG, a.dS, a.tA, a.tB, a.types]
noncomputable def St.chg (a : Adr) (s : St) : List (Addr × Obj) :=
  [(a.told, W.listOf s.tl.toArray s.nn), (86, tabObj s.tab), (a.dG, s.oG), (a.dS, s.oS), (a.tA, s.oA), (a.tB, s.oB), (a.types, W.listOf s.its s.nt)]

/-- the ten types of the law's message -/
noncomputable def typeNames : List String := ["text/plain", "text/html", "message/rfc822", "message/partial", "image/png", "image/gif", "multipart/mixed", "audio/x", "text", "application/pdf"]

/-- a table of handlers and the law's own table tell the same -/
noncomputable def Same (w : World) (led : List (Addr × Obj)) (told : Addr) (kH kN : List (MK × Value)) : Prop :=
  ∀ k, (valueAt kH k = none ∧ valueAt kN k = none) ∨ ∃ f n t, valueAt kH k = some (.ref f) ∧ valueAt kN k = some (.int n t) ∧ HandlerAt w led told f n

structure Inv (w : World) (a : Adr) (s : St) (rest : List (Addr × Obj)) (n : Nat) : Prop where
  nd : a.all.Nodup
  off : ∀ p ∈ rest, p.1 ∉ a.all
  M : MgrAt w rest a.mgr a.dG a.dS
  P : PageAt w rest a.page a.told a.types
  tabs : (a.tabs, ({ cls := .type "tuple", data := .seq #[.ref a.tA, .ref a.tB] } : Obj)) ∈ rest
  sys : ∀ b ∈ a.all, (b == sysModules) = false
  dG : s.oG.IsDictOf (mixKind PR w) s.kG
  dS : s.oS.IsDictOf (mixKind PR w) s.kS
  dA : s.oA.IsDictOf (mixKind PR w) s.kA
  dB : s.oB.IsDictOf (mixKind PR w) s.kB
  eG : Same w rest a.told s.kG s.kA
  eS : Same w rest a.told s.kS s.kB
  ty : ∀ n, valueAt s.kS (MK.ty n) = none
  tab : TabOk rest s.tab
  lG : s.kG.length ≤ n
  lS : s.kS.length ≤ n
  lA : s.kA.length ≤ n
  lB : s.kB.length ≤ n
  lT : s.tl.length ≤ 2 * n
  types : ∃ x t, x ∈ typeNames ∧ s.its.back? = some (.str (Str.ofString x) t)
  lt : s.its.size ≤ n + 1
  le : n ≤ 50
end

-- L_inv
section
set_option maxHeartbeats 4000000
section
variable {K : Type} [DecidableEq K]
theorem valueAt_cons {p : K × Value} {r : List (K × Value)} {k : K} : valueAt (p :: r) k = if p.1 = k then some p.2 else valueAt r k := by
  unfold valueAt
  rw [List.find?_cons]
  by_cases e : p.1 = k
  · simp [e]
  · simp [e]
theorem valueAt_mapped {kvs : List (K × Value)} {k k' : K} {v : Value} : valueAt (kvs.map fun kv => if kv.1 = k then (kv.1, v) else kv) k' = if k' = k then (valueAt kvs k').map (fun _ => v) else valueAt kvs k' := by
  induction kvs with
  | nil => simp [valueAt]
  | cons p r ih =>
    rw [List.map_cons, valueAt_cons, valueAt_cons, ih]
    by_cases e1 : p.1 = k <;> by_cases e2 : k' = k <;> by_cases e3 : p.1 = k' <;> simp_all
theorem valueAt_append {kvs : List (K × Value)} {k k' : K} {v : Value} : valueAt (kvs ++ [(k, v)]) k' = (valueAt kvs k').or (if k = k' then some v else none) := by
  induction kvs with
  | nil => simp [valueAt_cons]; simp [valueAt]
  | cons p r ih =>
    rw [List.cons_append, valueAt_cons, valueAt_cons, ih]
    by_cases e : p.1 = k' <;> simp [e]
theorem valueAt_stored {kvs : List (K × Value)} {k k' : K} {v : Value} : valueAt (stored kvs k v) k' = if k' = k then some v else valueAt kvs k' := by
  unfold stored
  by_cases h : kvs.any (fun kv => kv.1 = k) = true
  · rw [if_pos h, valueAt_mapped]
    rw [← valueAt_isSome_eq_any] at h
    by_cases e : k' = k
    · subst e
      simp only [if_true]
      cases hv : valueAt kvs k' with
      | none => rw [hv] at h; cases h
      | some u => rfl
    · simp only [if_neg e]
  · rw [if_neg h, valueAt_append]
    have h' : valueAt kvs k = none := by
      cases hv : valueAt kvs k with
      | none => rfl
      | some u => exact absurd (by rw [← valueAt_isSome_eq_any, hv]; rfl) h
    by_cases e : k' = k
    · subst e
      simp [h']
    · rw [if_neg e, if_neg (fun z : k = k' => e z.symm), Option.or_none]
end
theorem Same.mono {w : World} {led led' : List (Addr × Obj)} {told : Addr} {kH kN : List (MK × Value)} (h : Same w led told kH kN) (hs : ∀ p ∈ led, p ∈ led') : Same w led' told kH kN := fun k => by
  rcases h k with h | ⟨f, n, t, h1, h2, h3⟩
  · exact .inl h
  · exact .inr ⟨f, n, t, h1, h2, h3.mono hs⟩
theorem Same.put {w : World} {led : List (Addr × Obj)} {told f : Addr} {n : Int} {t : Tok} {k : MK} {kH kN : List (MK × Value)} (h : Same w led told kH kN) (hf : HandlerAt w led told f n) : Same w led told (stored kH k (.ref f)) (stored kN k (.int n t)) := fun k' => by
  rw [valueAt_stored, valueAt_stored]
  by_cases e : k' = k
  · rw [if_pos e, if_pos e]
    exact .inr ⟨f, n, t, rfl, rfl, hf⟩
  · rw [if_neg e, if_neg e]
    exact h k'
theorem Same.handlers {w : World} {led : List (Addr × Obj)} {told : Addr} {kH kN : List (MK × Value)} (h : Same w led told kH kN) : ∀ k v, valueAt kH k = some v → ∃ f n, v = .ref f ∧ HandlerAt w led told f n := fun k v e => by
  rcases h k with ⟨h1, _⟩ | ⟨f, n, t, h1, h2, h3⟩
  · rw [h1] at e; cases e
  · rw [h1] at e; cases e; exact ⟨f, n, rfl, h3⟩
/-- what is found in the one table is found in the other -/
theorem Same.find {w : World} {led : List (Addr × Obj)} {told : Addr} {kH kN : List (MK × Value)} (h : Same w led told kH kN) : ∀ ks : List MK, (ks.findSome? (valueAt kH) = none ∧ ks.findSome? (valueAt kN) = none) ∨
    ∃ f n t, ks.findSome? (valueAt kH) = some (.ref f) ∧ ks.findSome? (valueAt kN) = some (.int n t) ∧ HandlerAt w led told f n
  | [] => .inl ⟨rfl, rfl⟩
  | k :: r => by
    rw [List.findSome?_cons, List.findSome?_cons]
    rcases h k with ⟨h1, h2⟩ | ⟨f, n, t, h1, h2, h3⟩
    · rw [h1, h2]; exact Same.find h r
    · rw [h1, h2]; exact .inr ⟨f, n, t, rfl, rfl, h3⟩

theorem updFapp {d : Addr} {o : Obj} {own r : List (Addr × Obj)} {g : Obj → List (Addr × Obj)} (h : ∀ p ∈ own, p.1 ≠ d) (U : UpdF d o r g) : UpdF d o (own ++ r) (fun o' => own ++ g o') := by
  induction own with
  | nil => exact U
  | cons a own ih => exact .tail (h a (.head _)) (ih fun p hp => h p (.tail _ hp))
theorem aboveNe {d : Addr} {own news : List (Addr × Obj)} (ab : Above own news) (hm : d ∈ news.map (·.1)) : ∀ p ∈ own, p.1 ≠ d := fun p hp => by
  obtain ⟨q, hq, rfl⟩ := List.mem_map.mp hm
  exact Nat.ne_of_gt (ab p hp _ hq)
theorem aboveLt {d : Addr} {own news : List (Addr × Obj)} (ab : Above own news) (hm : d ∈ news.map (·.1)) : ∀ p ∈ own, @LT.lt Nat _ d p.1 := fun p hp => by
  obtain ⟨q, hq, rfl⟩ := List.mem_map.mp hm
  exact ab p hp _ hq
/-- the keys of the law's handlers for kinds of things -/
noncomputable def kindKeys : List MK := [.str (Str.ofString "builtins.bool"), .str (Str.ofString "int"), .str (Str.ofString "builtins.object"), .str (Str.ofString "object"), .str (Str.ofString "LookupError"), .str (Str.ofString "builtins.KeyError"), .str (Str.ofString "str"),
  .str (Str.ofString "bytes"), .str (Str.ofString "builtins.list"), .str (Str.ofString "tuple"), .str (Str.ofString "dict"), .str (Str.ofString "NoneType"), .none, .str (Str.ofString "Exception")]
theorem kindKeys_noTy {k : MK} (h : k ∈ kindKeys) : ∀ n, k ≠ MK.ty n := by
  intro n e
  subst e
  simp [kindKeys] at h
section
variable {w : World} {A : Around} {E : Value → Shared → Prop} {s : Shared} {h₀ : Heap} {L : Addr} {news : List (Addr × Obj)}
theorem item_key {value slice : Expr} {l : Addr} {vs : List Value} {ks : List MK} {n : Nat} {i : Int} {t : Tok} {k : MK} {Q : Value → Shared → Prop} (N : News h₀ L s.heap news) (hm : (l, W.listOf vs.toArray n) ∈ news) (hks : KeysAre w vs ks) (hz : ks.length ≤ 1000) (hi : 0 ≤ i) (hk : ks[i.toNat]? = some k)
    (h : ∀ v, (mixKind PR w).is k v = true → Q v s)
    (hs : subscripted slice false (.ref l) (.int i t) = operate [.ref l, .int i t] (getItem (.ref l) (.int i t))) :
    wpAny (model PR w) A (subscriptTail value slice (.ref l) (.int i t)) Q E s := by
  have hl : s.heap.IsList l vs.toArray := ⟨_, (N _ hm).1, rfl, n, rfl⟩
  have hlt : i.toNat < vs.length := by rw [hks.1]; exact (List.getElem?_eq_some_iff.mp hk).1
  have hv : vs.toArray[i.toNat]? = some vs[i.toNat] := by simp [List.getElem?_eq_getElem hlt]
  exact tail_any hl.typeIs slot_list_getitem.lookup (wpAny_getItem_list hl (k := i) hi (by have := hks.1; omega) hv (h _ (hks.2 i.toNat _ _ (List.getElem?_eq_getElem hlt) hk))) hs
end
section
variable {w : World} {a : Adr} {st : St} {rest own : List (Addr × Obj)} {n : Nat}
theorem Inv.offs (I : Inv w a st rest n) (ab : ∀ p ∈ own, ∀ b ∈ a.all, @LT.lt Nat _ b p.1) : ∀ p ∈ own ++ rest, p.1 ∉ a.all := fun p hp hm => by
  rcases List.mem_append.mp hp with hp | hp
  · exact absurd (ab p hp _ hm) (Nat.lt_irrefl _)
  · exact I.off p hp hm
theorem Inv.ofs {told dG dS tA tB types mgr page tabs : Addr} (I : Inv w ⟨told, dG, dS, tA, tB, types, mgr, page, tabs⟩ st rest n) :
    (∀ p ∈ rest, p.1 ≠ told) ∧ (∀ p ∈ rest, p.1 ≠ 86) ∧ (∀ p ∈ rest, p.1 ≠ dG) ∧ (∀ p ∈ rest, p.1 ≠ dS) ∧ (∀ p ∈ rest, p.1 ≠ tA) ∧ (∀ p ∈ rest, p.1 ≠ tB) ∧ (∀ p ∈ rest, p.1 ≠ types) := by
  refine ⟨fun p hp e => ?_, fun p hp e => ?_, fun p hp e => ?_, fun p hp e => ?_, fun p hp e => ?_, fun p hp e => ?_, fun p hp e => ?_⟩ <;> exact I.off p hp (by rw [e]; simp [Adr.all])
theorem Inv.nds {told dG dS tA tB types mgr page tabs : Addr} (I : Inv w ⟨told, dG, dS, tA, tB, types, mgr, page, tabs⟩ st rest n) :
    (told ≠ 86 ∧ told ≠ dG ∧ told ≠ dS ∧ told ≠ tA ∧ told ≠ tB ∧ told ≠ types) ∧ ((86 : Addr) ≠ dG ∧ (86 : Addr) ≠ dS ∧ (86 : Addr) ≠ tA ∧ (86 : Addr) ≠ tB ∧ (86 : Addr) ≠ types) ∧ (dG ≠ dS ∧ dG ≠ tA ∧ dG ≠ tB ∧ dG ≠ types) ∧ (dS ≠ tA ∧ dS ≠ tB ∧ dS ≠ types) ∧ (tA ≠ tB ∧ tA ≠ types) ∧ tB ≠ types := by
  have h := I.nd
  simpa [Adr.all, and_assoc] using h
theorem inv_get {k : MK} {f : Addr} {i : Int} {ti : Tok} {tab' : Array Value} {oG' oA' : Obj} (I : Inv w a st rest n) (hn : n ≤ 45) (ab : ∀ p ∈ own, ∀ b ∈ a.all, @LT.lt Nat _ b p.1) (hT : TabOk (own ++ rest) tab') (hH : HandlerAt w (own ++ rest) a.told f i)
    (hG : oG'.IsDictOf (mixKind PR w) (stored st.kG k (.ref f))) (hA : oA'.IsDictOf (mixKind PR w) (stored st.kA k (.int i ti))) :
    Inv w a { st with tab := tab', oG := oG', oA := oA', kG := stored st.kG k (.ref f), kA := stored st.kA k (.int i ti) } (own ++ rest) (n + 1) where
  nd := I.nd
  off := I.offs ab
  M := I.M.mono fun _ => List.mem_append_right _
  P := I.P.mono fun _ => List.mem_append_right _
  tabs := List.mem_append_right _ I.tabs
  sys := I.sys
  dG := hG
  dS := I.dS
  dA := hA
  dB := I.dB
  eG := (I.eG.mono fun _ => List.mem_append_right _).put hH
  eS := I.eS.mono fun _ => List.mem_append_right _
  ty := I.ty
  tab := hT
  lG := Nat.le_trans (stored_length_le ..) (Nat.succ_le_succ I.lG)
  lS := Nat.le_trans I.lS (Nat.le_succ _)
  lA := Nat.le_trans (stored_length_le ..) (Nat.succ_le_succ I.lA)
  lB := Nat.le_trans I.lB (Nat.le_succ _)
  lT := Nat.le_trans I.lT (by omega)
  types := I.types
  lt := Nat.le_trans I.lt (Nat.le_succ _)
  le := by omega
theorem inv_set {k : MK} {f : Addr} {i : Int} {ti : Tok} {tab' : Array Value} {oS' oB' : Obj} (I : Inv w a st rest n) (hn : n ≤ 45) (ab : ∀ p ∈ own, ∀ b ∈ a.all, @LT.lt Nat _ b p.1) (hT : TabOk (own ++ rest) tab') (hH : HandlerAt w (own ++ rest) a.told f i) (hk : ∀ n, k ≠ MK.ty n)
    (hS : oS'.IsDictOf (mixKind PR w) (stored st.kS k (.ref f))) (hB : oB'.IsDictOf (mixKind PR w) (stored st.kB k (.int i ti))) :
    Inv w a { st with tab := tab', oS := oS', oB := oB', kS := stored st.kS k (.ref f), kB := stored st.kB k (.int i ti) } (own ++ rest) (n + 1) where
  nd := I.nd
  off := I.offs ab
  M := I.M.mono fun _ => List.mem_append_right _
  P := I.P.mono fun _ => List.mem_append_right _
  tabs := List.mem_append_right _ I.tabs
  sys := I.sys
  dG := I.dG
  dS := hS
  dA := I.dA
  dB := hB
  eG := I.eG.mono fun _ => List.mem_append_right _
  eS := (I.eS.mono fun _ => List.mem_append_right _).put hH
  ty := fun n => by show valueAt (stored st.kS k (.ref f)) _ = none; rw [valueAt_stored, if_neg (fun e => hk n e.symm)]; exact I.ty n
  tab := hT
  lG := Nat.le_trans I.lG (Nat.le_succ _)
  lS := Nat.le_trans (stored_length_le ..) (Nat.succ_le_succ I.lS)
  lA := Nat.le_trans I.lA (Nat.le_succ _)
  lB := Nat.le_trans (stored_length_le ..) (Nat.succ_le_succ I.lB)
  lT := Nat.le_trans I.lT (by omega)
  types := I.types
  lt := Nat.le_trans I.lt (Nat.le_succ _)
  le := by omega
/-- a deed that writes no table: what is told grows by two at most -/
theorem inv_told {tl' : List Value} {nn' : Nat} (I : Inv w a st rest n) (hn : n ≤ 45) (ab : ∀ p ∈ own, ∀ b ∈ a.all, @LT.lt Nat _ b p.1) (hl : tl'.length ≤ st.tl.length + 2) : Inv w a { st with tl := tl', nn := nn' } (own ++ rest) (n + 1) where
  nd := I.nd
  off := I.offs ab
  M := I.M.mono fun _ => List.mem_append_right _
  P := I.P.mono fun _ => List.mem_append_right _
  tabs := List.mem_append_right _ I.tabs
  sys := I.sys
  dG := I.dG
  dS := I.dS
  dA := I.dA
  dB := I.dB
  eG := I.eG.mono fun _ => List.mem_append_right _
  eS := I.eS.mono fun _ => List.mem_append_right _
  ty := I.ty
  tab := I.tab.mono fun _ => List.mem_append_right _
  lG := Nat.le_trans I.lG (Nat.le_succ _)
  lS := Nat.le_trans I.lS (Nat.le_succ _)
  lA := Nat.le_trans I.lA (Nat.le_succ _)
  lB := Nat.le_trans I.lB (Nat.le_succ _)
  lT := by show tl'.length ≤ _; have := I.lT; omega
  types := I.types
  lt := Nat.le_trans I.lt (Nat.le_succ _)
  le := by omega
end
end

-- L_dl
section
theorem words_L_dl : True := by
  w_top off
  k_with_none
  (k_with "perm1" => first | exact List.forall_mem_nil _ | ((refine' allC ?_ ?_); (focus (k_mem; done)); walk_at "perm1") | ((refine' allA ?_ ?_); (focus (walk_at "perm1"; done)); walk_at "perm1") | (intro _ _; k_mem))
  (k_with "perm" => ((try simp only [St.chg, List.cons_append, List.nil_append]); walk_at "perm1"))
  (k_with "ne" => with_reducible first | exact Nat.ne_of_lt (‹@LT.lt _ _ _ _ ∧ _›).1 | exact Nat.ne_of_gt (‹@LT.lt _ _ _ _ ∧ _›).1 | exact Nat.ne_of_lt (‹_ ∧ @LT.lt _ _ _ _ ∧ _›).2.1 | exact Nat.ne_of_gt (‹_ ∧ @LT.lt _ _ _ _ ∧ _›).2.1 | exact Nat.ne_of_lt (‹_ ∧ _ ∧ @LT.lt _ _ _ _ ∧ _›).2.2.1 | exact Nat.ne_of_gt (‹_ ∧ _ ∧ @LT.lt _ _ _ _ ∧ _›).2.2.1 | exact Nat.ne_of_lt (‹_ ∧ _ ∧ _ ∧ @LT.lt _ _ _ _ ∧ _›).2.2.2.1 | exact Nat.ne_of_gt (‹_ ∧ _ ∧ _ ∧ @LT.lt _ _ _ _ ∧ _›).2.2.2.1 | exact Nat.ne_of_lt (‹_ ∧ _ ∧ _ ∧ _ ∧ @LT.lt _ _ _ _ ∧ _›).2.2.2.2.1 | exact Nat.ne_of_gt (‹_ ∧ _ ∧ _ ∧ _ ∧ @LT.lt _ _ _ _ ∧ _›).2.2.2.2.1 | exact Nat.ne_of_lt (‹_ ∧ _ ∧ _ ∧ _ ∧ _ ∧ @LT.lt _ _ _ _ ∧ _›).2.2.2.2.2.1 | exact Nat.ne_of_gt (‹_ ∧ _ ∧ _ ∧ _ ∧ _ ∧ @LT.lt _ _ _ _ ∧ _›).2.2.2.2.2.1 | exact Nat.ne_of_lt (‹_ ∧ _ ∧ _ ∧ _ ∧ _ ∧ _ ∧ @LT.lt _ _ _ _ ∧ _›).2.2.2.2.2.2.1 | exact Nat.ne_of_gt (‹_ ∧ _ ∧ _ ∧ _ ∧ _ ∧ _ ∧ @LT.lt _ _ _ _ ∧ _›).2.2.2.2.2.2.1 | exact Nat.ne_of_lt (‹_ ∧ _ ∧ _ ∧ _ ∧ _ ∧ _ ∧ _ ∧ @LT.lt _ _ _ _ ∧ _›).2.2.2.2.2.2.2.1 | exact Nat.ne_of_gt (‹_ ∧ _ ∧ _ ∧ _ ∧ _ ∧ _ ∧ _ ∧ @LT.lt _ _ _ _ ∧ _›).2.2.2.2.2.2.2.1 | exact Nat.ne_of_lt (‹_ ∧ _ ∧ _ ∧ _ ∧ _ ∧ _ ∧ _ ∧ _ ∧ @LT.lt _ _ _ _ ∧ _›).2.2.2.2.2.2.2.2.1 | exact Nat.ne_of_gt (‹_ ∧ _ ∧ _ ∧ _ ∧ _ ∧ _ ∧ _ ∧ _ ∧ @LT.lt _ _ _ _ ∧ _›).2.2.2.2.2.2.2.2.1 | exact Nat.ne_of_lt (‹_ ∧ _ ∧ _ ∧ _ ∧ _ ∧ _ ∧ _ ∧ _ ∧ _ ∧ @LT.lt _ _ _ _ ∧ _›).2.2.2.2.2.2.2.2.2.1 | exact Nat.ne_of_gt (‹_ ∧ _ ∧ _ ∧ _ ∧ _ ∧ _ ∧ _ ∧ _ ∧ _ ∧ @LT.lt _ _ _ _ ∧ _›).2.2.2.2.2.2.2.2.2.1 | exact Nat.ne_of_lt (‹_ ∧ _ ∧ _ ∧ _ ∧ _ ∧ _ ∧ _ ∧ _ ∧ _ ∧ _ ∧ @LT.lt _ _ _ _ ∧ _›).2.2.2.2.2.2.2.2.2.2.1 | exact Nat.ne_of_gt (‹_ ∧ _ ∧ _ ∧ _ ∧ _ ∧ _ ∧ _ ∧ _ ∧ _ ∧ _ ∧ @LT.lt _ _ _ _ ∧ _›).2.2.2.2.2.2.2.2.2.2.1 | exact Nat.ne_of_lt (‹_ ∧ _ ∧ _ ∧ _ ∧ _ ∧ _ ∧ _ ∧ _ ∧ _ ∧ _ ∧ _ ∧ @LT.lt _ _ _ _ ∧ _›).2.2.2.2.2.2.2.2.2.2.2.1 | exact Nat.ne_of_gt (‹_ ∧ _ ∧ _ ∧ _ ∧ _ ∧ _ ∧ _ ∧ _ ∧ _ ∧ _ ∧ _ ∧ @LT.lt _ _ _ _ ∧ _›).2.2.2.2.2.2.2.2.2.2.2.1 | exact Nat.ne_of_lt (‹_ ∧ _ ∧ _ ∧ _ ∧ _ ∧ _ ∧ _ ∧ _ ∧ _ ∧ _ ∧ _ ∧ _ ∧ @LT.lt _ _ _ _ ∧ _›).2.2.2.2.2.2.2.2.2.2.2.2.1 | exact Nat.ne_of_gt (‹_ ∧ _ ∧ _ ∧ _ ∧ _ ∧ _ ∧ _ ∧ _ ∧ _ ∧ _ ∧ _ ∧ _ ∧ @LT.lt _ _ _ _ ∧ _›).2.2.2.2.2.2.2.2.2.2.2.2.1 | exact Nat.ne_of_lt (‹_ ∧ _ ∧ _ ∧ _ ∧ _ ∧ _ ∧ _ ∧ _ ∧ _ ∧ _ ∧ _ ∧ _ ∧ _ ∧ @LT.lt _ _ _ _ ∧ _›).2.2.2.2.2.2.2.2.2.2.2.2.2.1 | exact Nat.ne_of_gt (‹_ ∧ _ ∧ _ ∧ _ ∧ _ ∧ _ ∧ _ ∧ _ ∧ _ ∧ _ ∧ _ ∧ _ ∧ _ ∧ @LT.lt _ _ _ _ ∧ _›).2.2.2.2.2.2.2.2.2.2.2.2.2.1)
  (k_with "adr" => (repeat (first | exact List.Mem.head _ | refine List.Mem.tail _ ?_)))
  (k_with "mine cx" => exact ⟨by assumption, by assumption, by assumption, by assumption, rfl, rfl, rfl, by (first | exact Nat.le_trans (Nat.succ_le_succ (show _ ≤ 330 by assumption)) (by decide) | exact Nat.le_trans (Nat.succ_le_succ (show _ ≤ 340 by assumption)) (by decide) | exact Nat.le_trans (Nat.succ_le_succ (show _ ≤ 345 by assumption)) (by decide) | exact Nat.le_trans (Nat.succ_le_succ (show _ ≤ 350 by assumption)) (by decide) | (simp only [depth_deeper]; omega)), by (first | exact Nat.le_trans (Nat.add_le_add_right (show _ ≤ 100 by assumption) 3) (by decide) | exact Nat.le_trans (Nat.add_le_add_right (show _ ≤ 130 by assumption) 3) (by decide) | exact Nat.le_trans (Nat.add_le_add_right (show _ ≤ 140 by assumption) 3) (by decide) | exact Nat.le_trans (Nat.add_le_add_right (show _ ≤ 150 by assumption) 3) (by decide) | (simp only [units_deeper]; omega)), rfl, by assumption, by assumption, by assumption⟩)
  (k_with "kind k_mem" => first | assumption | (refine List.mem_append_left _ ?_; k_mem) | (refine List.mem_append_right _ ?_; k_mem))
  (k_with "kind k_room" => (show _ < _; simp only [depth_under_make, depth_under_kw, depth_in1, depth_deeper, depth_caller, recursionLimit]; omega))
  trivial
set_option maxHeartbeats 4000000
theorem psOk_of {ps : List Value} (h : ps.length ≤ 3) : PsOk ps := by
  match ps, h with
  | [], _ => exact .inl rfl
  | [a], _ => exact .inr (.inl ⟨a, rfl⟩)
  | [a, b], _ => exact .inr (.inr (.inl ⟨a, b, rfl⟩))
  | [a, b, c], _ => exact .inr (.inr (.inr ⟨a, b, c, rfl⟩))
  | _ :: _ :: _ :: _ :: _, h => simp at h

theorem StatOk.cut {led led' : List (Addr × Obj)} {base : Heap} (x : StatOk led base) (h : ∀ p ∈ led, p.2.cls = .type "tuple" → p ∈ led') : StatOk led' base := by
  obtain ⟨mc, h1, h2⟩ := x
  refine ⟨mc, h1, fun T hT => ?_⟩
  rcases h2 T hT with e | ⟨a, e, hm⟩
  · exact .inl e
  · exact .inr ⟨a, e, h _ hm rfl⟩

/-- the main type -/
noncomputable def mainOf (x : String) : String := if x = "text/plain" ∨ x = "text/html" ∨ x = "text" then "text" else if x = "message/rfc822" ∨ x = "message/partial" then "message" else if x = "image/png" ∨ x = "image/gif" then "image" else if x = "multipart/mixed" then "multipart" else if x = "audio/x" then "audio" else "application"
theorem type_cases {P : String → Prop} (h1 : P "text/plain") (h2 : P "text/html") (h3 : P "message/rfc822") (h4 : P "message/partial") (h5 : P "image/png") (h6 : P "image/gif") (h7 : P "multipart/mixed") (h8 : P "audio/x") (h9 : P "text") (h10 : P "application/pdf") :
    ∀ x ∈ typeNames, P x := by
  intro x hx
  simp only [typeNames, List.mem_cons, List.not_mem_nil, or_false] at hx
  rcases hx with rfl | rfl | rfl | rfl | rfl | rfl | rfl | rfl | rfl | rfl <;> assumption
theorem type_head : ∀ x ∈ typeNames, (Txt.split (Str.ofString x) (Str.ofString "/")).head? = some (Str.ofString (mainOf x)) := by
  apply type_cases <;> decide +kernel
theorem type_main (x : String) (hx : x ∈ typeNames) : ∃ r, Txt.split (Str.ofString x) (Str.ofString "/") = Str.ofString (mainOf x) :: r := by
  have h := type_head x hx
  cases e : Txt.split (Str.ofString x) (Str.ofString "/") with
  | nil => rw [e] at h; cases h
  | cons a r =>
    rw [e] at h
    cases h
    exact ⟨r, rfl⟩
theorem type_len : ∀ x ∈ typeNames, (Str.ofString x).length ≤ 1000 ∧ (reprText (Str.ofString x)).length ≤ 2000 := by
  apply type_cases <;> decide +kernel
theorem type_key : ∀ x ∈ typeNames, Str.ofString "key " ++ reprText (Str.ofString x) = Str.ofString "key '" ++ Str.ofString x ++ Str.ofString "'" := by
  apply type_cases <;> decide +kernel

theorem dict_cls {prog : Program} {w : World} {K : Type} [DecidableEq K] {knd : KeyKind prog w K} {o : Obj} {kvs : List (K × Value)} (h : o.IsDictOf knd kvs) : o.cls = .type "dict" := by
  obtain ⟨es, ep, ⟨q1, _⟩, _⟩ := h
  exact q1
theorem Inv.notup {w : World} {a : Adr} {st : St} {rest : List (Addr × Obj)} {n : Nat} (I : Inv w a st rest n) : ∀ p ∈ st.chg a, p.2.cls ≠ .type "tuple" := by
  intro p hp
  simp only [St.chg, List.mem_cons, List.not_mem_nil, or_false] at hp
  have ne : ∀ {c : Value} {x : String}, c = .type x → x ≠ "tuple" → c ≠ .type "tuple" := fun e n q => n (by rw [e] at q; exact Value.type.inj q)
  rcases hp with rfl | rfl | rfl | rfl | rfl | rfl | rfl
  · exact ne rfl (by decide)
  · exact fun e => nomatch e
  · exact ne (dict_cls I.dG) (by decide)
  · exact ne (dict_cls I.dS) (by decide)
  · exact ne (dict_cls I.dA) (by decide)
  · exact ne (dict_cls I.dB) (by decide)
  · exact ne rfl (by decide)
theorem Inv.stat {w : World} {a : Adr} {st : St} {rest own : List (Addr × Obj)} {n : Nat} {base : Heap} (I : Inv w a st rest n) (x : StatOk (own ++ (st.chg a ++ rest)) base) : StatOk (own ++ rest) base :=
  x.cut fun p hp hc => by
    rcases List.mem_append.mp hp with hp | hp
    · exact List.mem_append_left _ hp
    · rcases List.mem_append.mp hp with hp | hp
      · exact absurd hc (I.notup p hp)
      · exact List.mem_append_right _ hp
theorem Inv.abv {w : World} {a : Adr} {st : St} {rest own : List (Addr × Obj)} {n : Nat} (_I : Inv w a st rest n) (ab : Above own (st.chg a ++ rest)) : ∀ p ∈ own, ∀ b ∈ a.all, @LT.lt Nat _ b p.1 := by
  intro p hp b hb
  refine aboveLt ab ?_ p hp
  simp only [Adr.all, List.mem_cons, List.not_mem_nil, or_false] at hb
  rcases hb with rfl | rfl | rfl | rfl | rfl | rfl | rfl <;> simp only [St.chg, List.cons_append, List.nil_append, List.map_cons, List.mem_cons, true_or, or_true]
section
variable {prog : Program} {w : World} {A : Around} {E : Value → Shared → Prop} {s : Shared} {h₀ : Heap} {L : Addr} {m : Str → Option Value} {news : List (Addr × Obj)}
theorem slice_ps {value slice : Expr} {l : Addr} {its : Array Value} {n : Nat} {vl vu : Value} {lo hi : Option Int} {Q : Value → Shared → Prop} (F : Fr h₀ L s.heap m) (N : News h₀ L s.heap news) (hm : (l, W.listOf its n) ∈ news) (hz : its.size ≤ 100) (pl : IsPart vl lo) (pu : IsPart vu hi)
    (h : ∀ D h' zs, Fr h₀ L h' m → News h₀ L h' ((D, W.listOf (List.toArray zs) 0) :: news) → (∀ p ∈ news, p.1 < D) → zs.length ≤ its.size → Q (.ref D) { s with heap := h' })
    (hs : subscripted slice false (.ref l) (.ref s.heap.objs.size) = operate [.ref s.heap.objs.size, .ref l] (getItem (.ref l) (.ref s.heap.objs.size))) (ht : ∀ r, letTemporaryGo value (.ref l) r = pure ()) :
    wpAny (model prog w) A (subscriptTail value slice (.ref l) (.ref s.heap.objs.size)) Q E { s with heap := s.heap.push { cls := .type "slice", data := .fields #[vl, vu, .none] } } := by
  refine kmk_slice F N ⟨_, (N _ hm).1, rfl, n, rfl⟩ pl pu (fun D h' F' N' l1 => h D h' (slicePick its lo hi none).toList F' (by rw [Array.toArray_toList]; exact N') l1 (by rw [Array.length_toList]; exact slicePick_size_le its lo hi none)) hs ht (by rw [sizeLine_eq]; omega)
theorem tuple_ps {l : Addr} {zs : List Value} {n : Nat} {Q : Value → Shared → Prop} (F : Fr h₀ L s.heap m) (N : News h₀ L s.heap news) (hm : (l, W.listOf zs.toArray n) ∈ news) (hz : zs.length ≤ 100)
    (h : ∀ D h', Fr h₀ L h' m → News h₀ L h' ((D, ({ cls := .type "tuple", data := .seq zs.toArray } : Obj)) :: news) → (∀ p ∈ news, p.1 < D) → Q (.ref D) { s with heap := h' }) : wpAny (model prog w) A (call (.type "tuple") [.ref l]) Q E s :=
  kde_tupleOf F N ⟨_, (N _ hm).1, rfl, n, rfl⟩ (by rw [List.size_toArray]; omega) (by simp) h
theorem len_told {l : Addr} {tl : List Value} {n : Nat} {Q : Value → Shared → Prop} (N : News h₀ L s.heap news) (hm : (l, W.listOf tl.toArray n) ∈ news) (hz : tl.length ≤ 1000) (h : ∀ t k, Q (.int (tl.length : Int) t) { s with toks := k }) :
    wpAny (model prog w) A (call (.builtin "len") [.ref l]) Q E s :=
  len_list ⟨_, (N _ hm).1, rfl, n, rfl⟩ (by rw [List.size_toArray]; omega) (by rw [List.size_toArray]; exact h _ _)
theorem len_told1 {l : Addr} {tl : List Value} {v : Value} {n : Nat} {Q : Value → Shared → Prop} (N : News h₀ L s.heap news) (hm : (l, W.listOf (tl ++ [v]).toArray n) ∈ news) (hz : tl.length ≤ 900) (h : ∀ t k, Q (.int ((tl.length : Int) + 1) t) { s with toks := k }) :
    wpAny (model prog w) A (call (.builtin "len") [.ref l]) Q E s :=
  len_told N hm (by rw [List.length_append]; simp only [List.length_cons, List.length_nil]; omega) (fun t k => by
    have e : ((tl ++ [v]).length : Int) = (tl.length : Int) + 1 := by rw [List.length_append]; rfl
    rw [e]; exact h t k)
theorem len_told2 {l : Addr} {tl : List Value} {u v : Value} {n : Nat} {Q : Value → Shared → Prop} (N : News h₀ L s.heap news) (hm : (l, W.listOf (tl ++ [u] ++ [v]).toArray n) ∈ news) (hz : tl.length ≤ 900) (h : ∀ t k, Q (.int ((tl.length : Int) + 2) t) { s with toks := k }) :
    wpAny (model prog w) A (call (.builtin "len") [.ref l]) Q E s :=
  len_told N hm (by rw [List.length_append, List.length_append]; simp only [List.length_cons, List.length_nil]; omega) (fun t k => by
    have e : ((tl ++ [u] ++ [v]).length : Int) = (tl.length : Int) + 2 := by rw [List.length_append, List.length_append]; simp only [List.length_cons, List.length_nil]; omega
    rw [e]; exact h t k)
theorem back_app {tl : List Value} {v : Value} : (tl ++ [v]).toArray.back? = some v := by simp
/-- a handler's number is one -/
noncomputable def closOf (o : Obj) : List (Str × Addr) := match o.data with
  | .func fd => fd.closure
  | _ => []
theorem HandlerAt.one {w : World} {led led' : List (Addr × Obj)} {told told' f : Addr} {a b : Int} {h : Heap} (x : HandlerAt w led told f a) (y : HandlerAt w led' told' f b) (N : News h₀ L h led) (N' : News h₀ L h led') : a = b := by
  obtain ⟨cT, cN, c, dc, pm, ct, oT, oN, oc, vs, t, tn, h1, h2, h3, h4, h5, _⟩ := x
  obtain ⟨cT', cN', c', dc', pm', ct', oT', oN', oc', vs', t', tn', g1, g2, g3, g4, g5, _⟩ := y
  have e1 := (N _ h1).1.symm.trans (N' _ g1).1
  have e2 : closOf (hObj (KS w.params) cT cN dc pm ct c) = closOf (hObj (KS w.params) cT' cN' dc' pm' ct' c') := congrArg closOf (Option.some.inj e1)
  have e3 : [(Str.ofString "told", cT), (Str.ofString "number", cN)] = [(Str.ofString "told", cT'), (Str.ofString "number", cN')] := e2
  injection e3 with _ e3
  injection e3 with e3 _
  injection e3 with _ e3
  subst e3
  have e4 : oN = oN' := Option.some.inj ((N _ h4).1.symm.trans (N' _ g4).1)
  subst e4
  have e5 := h5.symm.trans g5
  injection e5 with e5
  injection e5 with e5
  injection e5 with e5
theorem slice_tup4 {value slice : Expr} {t : Addr} {v0 v1 v2 v3 : Value} {u : Tok} {Q : Value → Shared → Prop} (F : Fr h₀ L s.heap m) (N : News h₀ L s.heap news) (hm : (t, ({ cls := .type "tuple", data := .seq #[v0, v1, v2, v3] } : Obj)) ∈ news)
    (h : ∀ D h', Fr h₀ L h' m → News h₀ L h' ((D, ({ cls := .type "tuple", data := .seq #[v2, v3] } : Obj)) :: news) → Q (.ref D) { s with heap := h' })
    (hs : subscripted slice false (.ref t) (.ref s.heap.objs.size) = operate [.ref s.heap.objs.size, .ref t] (getItem (.ref t) (.ref s.heap.objs.size)))
    (hg : ∀ r, letTemporaryGo value (.ref t) r = pure ()) :
    wpAny (model prog w) A (subscriptTail value slice (.ref t) (.ref s.heap.objs.size)) Q E { s with heap := s.heap.push { cls := .type "slice", data := .fields #[.int 2 u, .none, .none] } } :=
  slice_tuple_from (a := 2) F N ⟨_, (N _ hm).1, rfl, _, rfl⟩ (by decide) (Nat.le_of_ble_eq_true rfl) (fun h' F' N' => h _ h' F' N') hs hg (by rw [sizeLine_eq]; exact Nat.le_of_ble_eq_true rfl)
theorem eq_int_self {n : Int} {t u : Tok} {Q : Value → Shared → Prop} (h : Q (.bool true) s) : wpAny (model prog w) A (compareOp .Eq (.int n t) (.int n u)) Q E s := PySem.P.eq_int (by rw [beq_self_eq_true]; exact h)
theorem ne_int_self {n : Int} {t u : Tok} {Q : Value → Shared → Prop} (h : Q (.bool false) s) : wpAny (model prog w) A (compareOp .NotEq (.int n t) (.int n u)) Q E s := PySem.P.ne_int (by rw [bne_self_eq_false]; exact h)
theorem eq_str_same {x y : Str} {t u : Tok} {Q : Value → Shared → Prop} (e : x = y) (h : Q (.bool true) s) : wpAny (model prog w) A (compareOp .Eq (.str x t) (.str y u)) Q E s := by
  subst e
  exact eq_str (by rw [beq_self_eq_true]; exact h)
theorem eval_cut {e : Expr} {env : Env} {P Q : Value → Shared → Prop} (h : wpAny (model prog w) A (eval e env) P E s) (k : ∀ v s', P v s' → Q v s') : wpAny (model prog w) A (eval e env) Q E s := wpAny_mono h k fun _ _ x => x

theorem eqBool_same {v : Value} {Q : Bool → Shared → Prop} (h : Q true s) : wpAny (model prog w) A (eqBool v v) Q E s := SeqAt.EqAt.same (A := A) v prog w E Q h
theorem eqBool_of {x y : Addr} (hne : x ≠ y) {Q : Bool → Shared → Prop} (h : wpAny (model prog w) A (richCompare .Eq (.ref x) (.ref y)) (fun v s' => v = .bool true ∧ Q true s') E s) : wpAny (model prog w) A (eqBool (.ref x) (.ref y)) Q E s := by
  refine eqBool_rc (r := true) ?_ (by rintro _ _ _ _ ⟨⟩) h
  exact beq_eq_false_iff_ne.mpr fun q => hne (by injection q)
theorem tuple_eq_all {x y : Addr} {its its2 : Array Value} {Q : Value → Shared → Prop} (hx : s.heap.get? x = some ({ cls := .type "tuple", data := .seq its } : Obj)) (hy : s.heap.get? y = some ({ cls := .type "tuple", data := .seq its2 } : Obj)) (hsz : its.size = its2.size) (hu : A.units < cLine)
    (he : ∀ p ∈ its.toList.zip its2.toList, ∀ (E' : Value → Shared → Prop) (Q' : Bool → Shared → Prop), Q' true s → wpAny (model prog w) A.in1 (eqBool p.1 p.2) Q' E' s) (h : Q (.bool true) s) : wpAny (model prog w) A (richCompare .Eq (.ref x) (.ref y)) Q E s := by
  refine wpAny_richCompare_same_room (op := .Eq) ⟨_, hx, rfl⟩ ⟨_, hy, rfl⟩ F.slot_tuple_eq (wpAny_call_entry F.slot_tuple_eq ⟨_, hx, rfl⟩ F.entry_tuple_eq ?_ (F.args_tuple_eq_2 _ _)) hu
  obtain ⟨hp, g, d, tk, os⟩ := s
  have f2 := AutoSeq1.sub_tuple_tuple
  wp_walk using AutoSeq1.wpAny_loadPart' hx, AutoSeq1.wpAny_loadPart' hy, wpAny_forIn_list _ (fun rest b s' => b.1 = none ∧ s' = ⟨hp, g, d, tk, os⟩ ∧ ∀ p ∈ rest, p ∈ its.toList.zip its2.toList) _
  case turn =>
    rintro p rest b s' ⟨hb, rfl, hr⟩
    refine wpAny_bind (he p (hr p (.head _)) _ _ ?_)
    wp_walk
    exact ⟨rfl, rfl, fun q hq => hr q (.tail _ hq)⟩
  case fin =>
    rintro ⟨b1, b2⟩ s' ⟨hb, rfl, _⟩
    simp only at hb
    subst hb
    wp_walk
    refine ⟨_, rfl, ?_, ?_⟩
    · exact fun z => nomatch z
    · simpa [Builtin.Tuple.tupleCompareSizes, hsz] using h
  case h => exact ⟨rfl, rfl, fun p hp => hp⟩
theorem eq_told {x y c d pl nm : Addr} {ps : List Value} {kws : List (Str × Value)} {oD oN : Obj} {Q : Value → Shared → Prop} (N : News h₀ L s.heap news)
    (hx : (x, ({ cls := .type "tuple", data := .seq #[.ref c, .ref d] } : Obj)) ∈ news) (hy : (y, ({ cls := .type "tuple", data := .seq #[.ref pl, .ref nm] } : Obj)) ∈ news)
    (hc : (c, ({ cls := .type "tuple", data := .seq ps.toArray } : Obj)) ∈ news) (hpl : (pl, ({ cls := .type "tuple", data := .seq ps.toArray } : Obj)) ∈ news) (hd : (d, oD) ∈ news) (hnm : (nm, oN) ∈ news)
    (hD : oD.IsDictOf (strKind prog w) kws) (hN : oN.IsDictOf (strKind prog w) kws) (sd : (d == sysModules) = false) (sn : (nm == sysModules) = false) (hk : KwOk kws) (hu : A.units ≤ 150) (h : Q (.bool true) s) :
    wpAny (model prog w) A (compareOp .Eq (.ref x) (.ref y)) Q E s := by
  have uu : ∀ n, n ≤ 190 → n < cLine := fun n hn => by have := units_ok hn; omega
  refine cmp_ofEq (tuple_eq_all (N _ hx).1 (N _ hy).1 rfl (uu _ (by omega)) (fun p hp E' Q' hq => ?_) h)
  have hp' : p = (.ref c, .ref pl) ∨ p = (.ref d, .ref nm) := by simpa using hp
  rcases hp' with rfl | rfl
  · by_cases q : c = pl
    · rw [q]; exact eqBool_same hq
    · refine eqBool_of q (tuple_eq_all (N _ hc).1 (N _ hpl).1 rfl (uu _ (by show A.units + 1 ≤ _; omega)) (fun p hp E' Q' hq => ?_) ⟨rfl, hq⟩)
      have : p.1 = p.2 := by
        have hz : ∀ (l : List Value), ∀ p ∈ l.zip l, p.1 = p.2 := fun l => by
          induction l with
          | nil => intro p hp; simp at hp
          | cons a r ih =>
            intro p hp
            rw [List.zip_cons_cons] at hp
            rcases List.mem_cons.mp hp with rfl | hp
            · rfl
            · exact ih p hp
        exact hz _ p hp
      rw [this]; exact eqBool_same hq
  · by_cases q : d = nm
    · rw [q]; exact eqBool_same hq
    · refine eqBool_of q ?_
      refine keq_pairs (r := true) N hd hnm hD hN sd sn rfl (uu _ (by show A.units + 1 ≤ _; omega)) ?_ ⟨rfl, hq⟩
      rcases hk with rfl | ⟨v, rfl⟩
      · exact .nil
      · exact .hit (e := true) (b := true) (y := v) (by simp [valueAt]) (SeqAt.EqAt.same _) .nil
/-- the further things by name stand -/
noncomputable def NamesAt (w : World) (h₀ : Heap) (L : Addr) (m : Str → Option Value) (news : List (Addr × Obj)) (s : Shared) (v : Value) (s' : Shared) : Prop :=
  ∃ nm h' tk oN kws, v = .ref nm ∧ s' = { s with heap := h', toks := tk } ∧ Fr h₀ L h' m ∧ News h₀ L h' ((nm, oN) :: news) ∧ (∀ p ∈ news, @LT.lt Nat _ p.1 nm) ∧ oN.IsDictOf (strKind PR w) kws ∧ KwOk kws ∧ (nm == sysModules) = false
theorem NamesAt.intro {nm : Addr} {h' : Heap} {tk : Nat} {oN : Obj} {kws : List (Str × Value)} {nx : List (Addr × Obj)} (F : Fr h₀ L h' m) (N : News h₀ L h' nx) (hm : (nm, oN) ∈ nx) (hs : ∀ p ∈ news, p ∈ nx) (o : AllLt nm news) (hd : oN.IsDictOf (strKind PR w) kws) (hk : KwOk kws)
    (hy : (nm == sysModules) = false) : NamesAt w h₀ L m news s (.ref nm) { s with heap := h', toks := tk } :=
  ⟨nm, h', tk, oN, kws, rfl, rfl, F, fun p hp => (List.mem_cons.mp hp).elim (fun e => e ▸ N _ hm) fun hp => N p (hs p hp), allLt_get o, hd, hk, hy⟩
theorem names_cut {e : Expr} {env : Env} {Q : Value → Shared → Prop} (F : Fr h₀ L s.heap m) (N : News h₀ L s.heap news) (h : wpAny (model PR w) A (eval e env) (NamesAt w h₀ L m news s) E s)
    (k : ∀ nm h' tk oN kws, Fr h₀ L h' m → News h₀ L h' ((nm, oN) :: news) → (∀ p ∈ news, @LT.lt Nat _ p.1 nm) → oN.IsDictOf (strKind PR w) kws → KwOk kws → (nm == sysModules) = false → Q (.ref nm) { s with heap := h', toks := tk }) :
    wpAny (model PR w) A (eval e env) Q E s := wpAny_mono h (fun v s' ⟨nm, h', tk, oN, kws, e1, e2, h1, h2, h3, h4, h5, h6⟩ => by subst e1 e2; exact k nm h' tk oN kws h1 h2 h3 h4 h5 h6) fun _ _ x => x
end
end

-- L_dm
section
set_option maxHeartbeats 4000000
theorem kindAt_mem {j : Nat} (h : j < 9) : kindAt j ∈ kindNames := (show ∀ j, j < 9 → kindAt j ∈ kindNames by decide +kernel) j h
theorem kind_len : ∀ T ∈ kindNames, (reprText (pathOf T)).length ≤ 2000 := by apply kind_cases <;> decide +kernel
theorem kind_key : ∀ T ∈ kindNames, Str.ofString "key " ++ reprText (pathOf T) = Str.ofString "key 'builtins." ++ Str.ofString T ++ Str.ofString "'" := by apply kind_cases <;> decide +kernel
theorem ty_size : ∀ n ∈ tyNames, (Str.ofString "builtins.").length + (Str.ofString n).length ≤ 100 := by apply ty_cases <;> decide +kernel
theorem ty_size2 : ∀ n ∈ tyNames, (Str.ofString "key 'builtins.").length + (Str.ofString n).length ≤ 100 := by apply ty_cases <;> decide +kernel
theorem ty_size3 : ∀ n ∈ tyNames, (Str.ofString "key 'builtins." ++ Str.ofString n).length + (Str.ofString "'").length ≤ 100 := by apply ty_cases <;> decide +kernel
theorem multi_key : Str.ofString "type " ++ Str.ofString "set_content not valid on multipart" = Str.ofString "type set_content not valid on multipart" := by decide +kernel
theorem list_iadd_slot : typeLookup (.type "list") (dunderI "add") = pure (some (.builtin "list.__iadd__")) := by rw [typeLookup_type, builtinLookup_eq_fast]; kernel_rfl
theorem list_iadd_seq : isSeqSlot (some (.builtin "list.__iadd__")) = true := by decide +kernel

section
variable {prog : Program} {w : World} {A : Around} {E : Value → Shared → Prop} {s : Shared} {h₀ : Heap} {L : Addr} {m : Str → Option Value} {news : List (Addr × Obj)}
/-- xs += ys -/
theorem iadd_call {a b : Value} {Q : Value → Shared → Prop} (ha : s.TypeIs a "list") (hb : s.TypeIs b "list") (hc : wpAny (model prog w) A (call (.builtin "list.__iadd__") [a, b]) Q E s) :
    wpAny (model prog w) A (inplaceOp .Add a b) Q E s := by
  unfold inplaceOp
  refine wpAny_holding ?_
  have hfi : fillsInplaceSlot (.type "list") "add" (Operator.Add == .Add) = pure false := by
    unfold fillsInplaceSlot
    show (typeLookup (.type "list") (dunderI "add") >>= fun fi => pure (fi.isSome && !isSeqSlot fi)) = pure false
    rw [list_iadd_slot, pure_bind, list_iadd_seq]
    rfl
  refine wpAny_bind (wpAny_typeOf ha (wpAny_bind (wpAny_of_eq hfi ?_)))
  show wpAny _ A (if false = true then _ else _) Q E s
  rw [if_neg Bool.false_ne_true]
  refine wpAny_bind (wpAny_binaryOp1_none (nm := "add") ha hb noFill_list_add ?_)
  refine wpAny_bind (wpAny_of_eq (PySem.seqSlot_of list_iadd_slot list_iadd_seq) ?_)
  exact wpAny_bind (wpAny_rule hc)
theorem iadd_list {l b : Addr} {us ws : List Value} {n k : Nat} {g : Obj → List (Addr × Obj)} {Q : Value → Shared → Prop} (F : Fr h₀ L s.heap m) (N : News h₀ L s.heap news) (U : UpdF l (W.listOf us.toArray n) news g) (hb : (b, W.listOf ws.toArray k) ∈ news) (hz : us.length + ws.length ≤ 1000)
    (h : ∀ h' n', Fr h₀ L h' m → News h₀ L h' (g (W.listOf (us ++ ws).toArray n')) → Q (.ref l) { s with heap := h' }) : wpAny (model prog w) A (inplaceOp .Add (.ref l) (.ref b)) Q E s := by
  obtain ⟨own, rest, rfl, hg, h1, h2⟩ := U.split
  have hl : s.heap.get? l = some (W.listOf us.toArray n) := (N _ (List.mem_append_right _ (.head _))).1
  have hbo := (N _ hb).1
  have ta : s.TypeIs (.ref l) "list" := ⟨_, hl, rfl⟩
  have tb : s.TypeIs (.ref b) "list" := ⟨_, hbo, rfl⟩
  refine iadd_call ta tb (call_meets PySem.F.slot_list_iadd ta PySem.F.entry_list_iadd (PySem.F.args_list_iadd_2 _ _) (AutoSeq1.list___iadd___list_list_0 l us.toArray n b ws.toArray k ?_ ?_ ?_) ⟨hl, hbo, ?_⟩)
  · rw [Bool.not_eq_true, Bool.and_eq_false_iff]
    right
    unfold Builtin.List.listTooLong
    refine decide_eq_false ?_
    rw [List.size_toArray, List.size_toArray, sizeLine_eq]
    omega
  · rw [List.size_toArray, sizeLine_eq]; omega
  · rw [List.size_toArray, List.size_toArray, sizeLine_eq]; omega
  · have e : ∃ n', Obj.mapSeq (fun x => x ++ ws.toArray) (W.listOf us.toArray n) = W.listOf (us ++ ws).toArray n' := ⟨_, by
      show (⟨_, _, .seq (us.toArray ++ ws.toArray) _, _⟩ : Obj) = _
      rw [show us.toArray ++ ws.toArray = (us ++ ws).toArray by simp]⟩
    obtain ⟨n', e⟩ := e
    have X := news_upd F N h1 h2 (f := Obj.mapSeq fun x => x ++ ws.toArray) e rfl
    rw [← hg] at X
    exact h _ _ X.1 X.2
theorem add_list {a b : Addr} {us ws : List Value} {n k : Nat} {Q : Value → Shared → Prop} (F : Fr h₀ L s.heap m) (N : News h₀ L s.heap news) (ha : (a, W.listOf us.toArray n) ∈ news) (hb : (b, W.listOf ws.toArray k) ∈ news) (hz : us.length + ws.length ≤ 1000)
    (h : ∀ D h', Fr h₀ L h' m → News h₀ L h' ((D, W.listOf (us ++ ws).toArray 0) :: news) → Q (.ref D) { s with heap := h' }) : wpAny (model prog w) A (binaryOp .Add (.ref a) (.ref b)) Q E s :=
  add_lists F N ⟨_, (N _ ha).1, rfl, n, rfl⟩ ⟨_, (N _ hb).1, rfl, k, rfl⟩ (fun h' F' N' => h _ h' F' N') (by rw [sizeLine_eq]; omega)
theorem add_one {a pl : Addr} {v : Value} {zs : List Value} {Q : Value → Shared → Prop} (F : Fr h₀ L s.heap m) (N : News h₀ L s.heap news) (ha : (a, ({ cls := .type "tuple", data := .seq #[v] } : Obj)) ∈ news) (hb : (pl, ({ cls := .type "tuple", data := .seq zs.toArray } : Obj)) ∈ news) (hz : zs.length ≤ 100)
    (h : ∀ D h', Fr h₀ L h' m → News h₀ L h' ((D, ({ cls := .type "tuple", data := .seq (v :: zs).toArray } : Obj)) :: news) → Q (.ref D) { s with heap := h' }) : wpAny (model prog w) A (binaryOp .Add (.ref a) (.ref pl)) Q E s := by
  have ta : IsTup s.heap a #[v] := ⟨_, (N _ ha).1, rfl, _, rfl⟩
  have tb : IsTup s.heap pl zs.toArray := ⟨_, (N _ hb).1, rfl, _, rfl⟩
  cases zs with
  | nil =>
    refine kde_addT1 F N ta tb (by simp) rfl (Nat.le_of_ble_eq_true rfl) ?_
    exact h a s.heap F fun p hp => (List.mem_cons.mp hp).elim (fun e => e ▸ N _ ha) (N p)
  | cons z zs => exact kde_addT F N ta tb (by simp) (by simp) (by simp only [List.length_cons, List.length_nil] at hz ⊢; omega) rfl fun D h' F' N' _ => h D h' F' N'
theorem item_start {value slice : Expr} {l : Addr} {tl : List Value} {u v : Value} {n : Nat} {t : Tok} {Q : Value → Shared → Prop} (N : News h₀ L s.heap news) (hm : (l, W.listOf (tl ++ [u] ++ [v]).toArray n) ∈ news) (hz : tl.length ≤ 900) (h : Q u s)
    (hs : subscripted slice false (.ref l) (.int (tl.length : Int) t) = operate [.ref l, .int (tl.length : Int) t] (getItem (.ref l) (.int (tl.length : Int) t))) :
    wpAny (model prog w) A (subscriptTail value slice (.ref l) (.int (tl.length : Int) t)) Q E s := by
  have hl : s.heap.IsList l (tl ++ [u] ++ [v]).toArray := ⟨_, (N _ hm).1, rfl, n, rfl⟩
  exact tail_any hl.typeIs slot_list_getitem.lookup (wpAny_getItem_list hl (k := (tl.length : Int)) (by omega) (by omega) (by simp) h) hs
theorem item_first {value slice : Expr} {c : Addr} {v : Value} {zs : List Value} {t : Tok} {Q : Value → Shared → Prop} (N : News h₀ L s.heap news) (hm : (c, ({ cls := .type "tuple", data := .seq (v :: zs).toArray } : Obj)) ∈ news) (hz : zs.length ≤ 100) (h : Q v s)
    (hs : subscripted slice false (.ref c) (.int 0 t) = operate [.ref c, .int 0 t] (getItem (.ref c) (.int 0 t))) (hg : ∀ r, letTemporaryGo value (.ref c) r = pure ()) :
    wpAny (model prog w) A (subscriptTail value slice (.ref c) (.int 0 t)) Q E s :=
  item_tupleL (l := v :: zs) (j := 0) ⟨_, (N _ hm).1, rfl, _, rfl⟩ (by decide) (by decide) (by unfold seqIndex?; simp) rfl h hs hg
theorem item_head {value slice : Expr} {l : Addr} {vs : List Value} {n : Nat} {t : Tok} {v : Value} {Q : Value → Shared → Prop} (N : News h₀ L s.heap news) (hm : (l, W.listOf vs.toArray n) ∈ news) (hv : vs[0]? = some v) (h : Q v s)
    (hs : subscripted slice false (.ref l) (.int 0 t) = operate [.ref l, .int 0 t] (getItem (.ref l) (.int 0 t))) :
    wpAny (model prog w) A (subscriptTail value slice (.ref l) (.int 0 t)) Q E s := by
  have hl : s.heap.IsList l vs.toArray := ⟨_, (N _ hm).1, rfl, n, rfl⟩
  exact tail_any hl.typeIs slot_list_getitem.lookup (wpAny_getItem_list hl (k := 0) (by decide) (by decide) (by simpa using hv) h) hs
theorem is_use {v : Value} {Q : Value → Shared → Prop} (i : IsSelf v) (h : Q (.bool true) s) : wpAny (model prog w) A (compareOp .Is v v) Q E s := i _ _ _ _ _ h
theorem eq_str_other {x y : Str} {t u : Tok} {Q : Value → Shared → Prop} (e : x ≠ y) (h : Q (.bool false) s) : wpAny (model prog w) A (compareOp .Eq (.str x t) (.str y u)) Q E s := by
  refine eq_str ?_
  rw [beq_eq_false_iff_ne.mpr e]
  exact h
end
/-- the two keys of a kind's name -/
noncomputable def two (n : String) : List MK := [MK.str (pathOf n), MK.str (Str.ofString n)]
/-- how a turn of the law's spelling ends -/
noncomputable def SpellEnd (w : World) (h₀ : Heap) (L : Addr) (x : Str) (m₀ : Str → Option Value) (sp : Addr) (rest own : List (Addr × Obj)) (ks : List MK) (Q : Flow → Shared → Prop) (s : Shared) : Flow → Shared → Prop
  | .ret v, s' => Q (.ret v) s'
  | .brk, s' => Q .next s'
  | _, s' => ∃ h' tk' m' us n' nx, s' = { s with heap := h', toks := tk' } ∧ Fr h₀ L h' m' ∧ (∀ y, y ≠ x → m' y = m₀ y) ∧ News h₀ L h' nx ∧ (sp, W.listOf (List.toArray us) n') ∈ nx ∧ (∀ p ∈ rest, p ∈ nx) ∧ (∀ p ∈ own, p ∈ nx) ∧ KeysAre w us ks
theorem KeysAre.append {w : World} {us ws : List Value} {ks js : List MK} (a : KeysAre w us ks) (b : KeysAre w ws js) : KeysAre w (us ++ ws) (ks ++ js) := by
  induction us generalizing ks with
  | nil =>
    cases ks with
    | nil => exact b
    | cons k ks => exact absurd a.1 (by simp)
  | cons u us ih =>
    cases ks with
    | nil => exact absurd a.1 (by simp)
    | cons k ks =>
      refine KeysAre.cons (a.2 0 u k rfl rfl) (ih ⟨by have := a.1; simpa using this, fun i v k' h1 h2 => a.2 (i + 1) v k' (by simpa using h1) (by simpa using h2)⟩)
theorem take_two {names : List String} {i : Nat} {nm : String} (h : names[i]? = some nm) : (names.take (i + 1)).flatMap two = (names.take i).flatMap two ++ two nm := by
  rw [List.take_add_one, h, List.flatMap_append]
  simp
section
variable {prog : Program} {w : World} {A : Around} {E : Value → Shared → Prop} {s : Shared} {env : Env} {h₀ : Heap} {x : Str} {body : List Stmt} {Q : Flow → Shared → Prop}
theorem spell_iter {l sp : Addr} {vs : List Value} {names : List String} {nn n0 : Nat} {rest : List (Addr × Obj)} {m₀ : Str → Option Value} (hh : A.handled = none) (hl : (l, W.listOf vs.toArray nn) ∈ rest) (hoff : ∀ p ∈ rest, p.1 ≠ sp)
    (hs : StrsAre vs (names.map Str.ofString)) (F : Fr h₀ env.locals s.heap m₀) (N : News h₀ env.locals s.heap ((sp, W.listOf #[] n0) :: rest))
    (turn : ∀ i nm t us n1 h tk own, names[i]? = some nm → KeysAre w us ((names.take i).flatMap two) → (∀ p ∈ own, p.1 ≠ sp) → Fr h₀ env.locals h (fun y => if y = x then some (.str (Str.ofString nm) t) else m₀ y) → News h₀ env.locals h ((sp, W.listOf (List.toArray us) n1) :: (own ++ rest)) →
      wpAny (model prog w) A (execs body env) (SpellEnd w h₀ env.locals x m₀ sp rest own ((names.take i).flatMap two ++ two nm) Q { s with heap := h, toks := tk }) E { s with heap := h, toks := tk })
    (done : ∀ u us n1 h tk, KeysAre w us (names.flatMap two) → Fr h₀ env.locals h (fun y => if y = x then u else m₀ y) → News h₀ env.locals h ((sp, W.listOf (List.toArray us) n1) :: rest) → Q .next { s with heap := h, toks := tk }) :
    wpAny (model prog w) A (pyIter (.ref l)) (fun it s₂ => LoopAtV prog w A h₀ env x body Q E it s₂) E s := by
  have hlen : vs.length = names.length := by have := hs.length; simpa using this
  have fix : ∀ {m₁ : Str → Option Value} {v : Option Value}, (∀ y, y ≠ x → m₁ y = m₀ y) → (fun y => if y = x then v else m₁ y) = fun y => if y = x then v else m₀ y := fun hm => by
    funext y
    by_cases hy : y = x
    · simp [hy]
    · simp only [if_neg hy]; exact hm y hy
  refine kdl_iter (m₀ := m₀) (fun i m' nx => (∀ y, y ≠ x → m' y = m₀ y) ∧ ∃ us n1, nx = (sp, W.listOf (List.toArray us) n1) :: rest ∧ KeysAre w us ((names.take i).flatMap two)) hh (.tail _ hl) F N ⟨fun _ _ => rfl, [], n0, rfl, KeysAre.nil⟩ ?_ ?_
  · rintro i v m₁ news₁ h1 tk1 own hv hown hl1 ⟨hm1, us, n1, rfl, hus⟩ F1 N1
    rw [fix hm1] at F1
    have hlt : i < names.length := by rw [← hlen]; exact (List.getElem?_eq_some_iff.mp hv).1
    have hn : names[i]? = some names[i] := List.getElem?_eq_getElem hlt
    obtain ⟨t, rfl⟩ : ∃ t, v = .str (Str.ofString names[i]) t := by
      obtain ⟨x', t, e1, e2⟩ := hs.item i v hv
      rw [List.getElem?_map, hn] at e2
      cases e2
      exact ⟨t, e1⟩
    have ho : ∀ p ∈ own, p.1 ≠ sp := fun p hp => hown p hp sp (by simp)
    refine wpAny_mono (turn i names[i] t us n1 h1 tk1 own hn hus ho F1 (fun p hp => N1 p ?_)) (fun f s₂ q => ?_) fun _ _ e => e
    · rcases List.mem_cons.mp hp with rfl | hp
      · exact List.mem_append_left _ (.head _)
      · rcases List.mem_append.mp hp with hp | hp
        · exact List.mem_append_right _ hp
        · exact List.mem_append_left _ (.tail _ hp)
    · have fin : (∃ h' tk' m' us n' nx, s₂ = { ({ s with heap := h1, toks := tk1 } : Shared) with heap := h', toks := tk' } ∧ Fr h₀ env.locals h' m' ∧ (∀ y, y ≠ x → m' y = m₀ y) ∧ News h₀ env.locals h' nx ∧ (sp, W.listOf (List.toArray us) n') ∈ nx ∧ (∀ p ∈ rest, p ∈ nx) ∧ (∀ p ∈ own, p ∈ nx) ∧ KeysAre w us ((names.take i).flatMap two ++ two names[i])) →
          InvEndG h₀ env.locals (fun m' nx => (l, W.listOf vs.toArray nn) ∈ nx ∧ (∀ y, y ≠ x → m' y = m₀ y) ∧ ∃ us n1, nx = (sp, W.listOf (List.toArray us) n1) :: rest ∧ KeysAre w us ((names.take (i + 1)).flatMap two)) own { s with heap := h1, toks := tk1 } s₂ := by
        rintro ⟨h', tk', m', us', n', nx, rfl, F', hm', N', g1, g2, g3, g4⟩
        refine InvEndG.intro (nx := (sp, W.listOf (List.toArray us') n') :: rest) F' N' ⟨.tail _ hl, hm', us', n', rfl, by rw [take_two hn]; exact g4⟩ hown (fun p hp => ?_) g3
        rcases List.mem_cons.mp hp with rfl | hp
        · exact g1
        · exact g2 p hp
      cases f with
      | ret v => exact q
      | brk => exact q
      | next => exact fin q
      | cont => exact fin q
  · rintro m₁ news₁ h1 tk1 ⟨hm1, us, n1, rfl, hus⟩ F1 N1
    have e : m₁ = fun y => if y = x then m₁ x else m₀ y := by
      funext y
      by_cases hy : y = x
      · simp [hy]
      · simp only [if_neg hy]; exact hm1 y hy
    rw [e] at F1
    refine done (m₁ x) us n1 h1 tk1 ?_ F1 N1
    rw [hlen, List.take_length] at hus
    exact hus
end
theorem two_len (l : List String) : (l.flatMap two).length = 2 * l.length := by
  induction l with
  | nil => rfl
  | cons a r ih => rw [List.flatMap_cons, List.length_append, ih, List.length_cons]; show 2 + _ = _; omega
theorem spell_len {w : World} {us : List Value} {T : String} (hT : T ∈ kindNames) {l : List String} (h : KeysAre w us (l.flatMap two)) (hl : l.length ≤ (chainOf T).length) : us.length ≤ 10 := by
  rw [h.1, two_len]
  have := chain_len T hT
  omega
end

local macro_rules | `(tactic| k_ne) => `(tactic| k_extra "kind k_ne")
local macro_rules | `(tactic| k_updF) => `(tactic| k_extra "kind k_updF")
-- L_d
section
theorem words_L_d : True := by
  w_top off
  k_with_none
  (k_with "perm1" => first | exact List.forall_mem_nil _ | ((refine' allC ?_ ?_); (focus (k_mem; done)); walk_at "perm1") | ((refine' allA ?_ ?_); (focus (walk_at "perm1"; done)); walk_at "perm1") | (intro _ _; k_mem))
  (k_with "perm" => ((try simp only [St.chg, List.cons_append, List.nil_append]); walk_at "perm1"))
  (k_with "ne" => with_reducible first | exact Nat.ne_of_lt (‹@LT.lt _ _ _ _ ∧ _›).1 | exact Nat.ne_of_gt (‹@LT.lt _ _ _ _ ∧ _›).1 | exact Nat.ne_of_lt (‹_ ∧ @LT.lt _ _ _ _ ∧ _›).2.1 | exact Nat.ne_of_gt (‹_ ∧ @LT.lt _ _ _ _ ∧ _›).2.1 | exact Nat.ne_of_lt (‹_ ∧ _ ∧ @LT.lt _ _ _ _ ∧ _›).2.2.1 | exact Nat.ne_of_gt (‹_ ∧ _ ∧ @LT.lt _ _ _ _ ∧ _›).2.2.1 | exact Nat.ne_of_lt (‹_ ∧ _ ∧ _ ∧ @LT.lt _ _ _ _ ∧ _›).2.2.2.1 | exact Nat.ne_of_gt (‹_ ∧ _ ∧ _ ∧ @LT.lt _ _ _ _ ∧ _›).2.2.2.1 | exact Nat.ne_of_lt (‹_ ∧ _ ∧ _ ∧ _ ∧ @LT.lt _ _ _ _ ∧ _›).2.2.2.2.1 | exact Nat.ne_of_gt (‹_ ∧ _ ∧ _ ∧ _ ∧ @LT.lt _ _ _ _ ∧ _›).2.2.2.2.1 | exact Nat.ne_of_lt (‹_ ∧ _ ∧ _ ∧ _ ∧ _ ∧ @LT.lt _ _ _ _ ∧ _›).2.2.2.2.2.1 | exact Nat.ne_of_gt (‹_ ∧ _ ∧ _ ∧ _ ∧ _ ∧ @LT.lt _ _ _ _ ∧ _›).2.2.2.2.2.1 | exact Nat.ne_of_lt (‹_ ∧ _ ∧ _ ∧ _ ∧ _ ∧ _ ∧ @LT.lt _ _ _ _ ∧ _›).2.2.2.2.2.2.1 | exact Nat.ne_of_gt (‹_ ∧ _ ∧ _ ∧ _ ∧ _ ∧ _ ∧ @LT.lt _ _ _ _ ∧ _›).2.2.2.2.2.2.1 | exact Nat.ne_of_lt (‹_ ∧ _ ∧ _ ∧ _ ∧ _ ∧ _ ∧ _ ∧ @LT.lt _ _ _ _ ∧ _›).2.2.2.2.2.2.2.1 | exact Nat.ne_of_gt (‹_ ∧ _ ∧ _ ∧ _ ∧ _ ∧ _ ∧ _ ∧ @LT.lt _ _ _ _ ∧ _›).2.2.2.2.2.2.2.1 | exact Nat.ne_of_lt (‹_ ∧ _ ∧ _ ∧ _ ∧ _ ∧ _ ∧ _ ∧ _ ∧ @LT.lt _ _ _ _ ∧ _›).2.2.2.2.2.2.2.2.1 | exact Nat.ne_of_gt (‹_ ∧ _ ∧ _ ∧ _ ∧ _ ∧ _ ∧ _ ∧ _ ∧ @LT.lt _ _ _ _ ∧ _›).2.2.2.2.2.2.2.2.1 | exact Nat.ne_of_lt (‹_ ∧ _ ∧ _ ∧ _ ∧ _ ∧ _ ∧ _ ∧ _ ∧ _ ∧ @LT.lt _ _ _ _ ∧ _›).2.2.2.2.2.2.2.2.2.1 | exact Nat.ne_of_gt (‹_ ∧ _ ∧ _ ∧ _ ∧ _ ∧ _ ∧ _ ∧ _ ∧ _ ∧ @LT.lt _ _ _ _ ∧ _›).2.2.2.2.2.2.2.2.2.1 | exact Nat.ne_of_lt (‹_ ∧ _ ∧ _ ∧ _ ∧ _ ∧ _ ∧ _ ∧ _ ∧ _ ∧ _ ∧ @LT.lt _ _ _ _ ∧ _›).2.2.2.2.2.2.2.2.2.2.1 | exact Nat.ne_of_gt (‹_ ∧ _ ∧ _ ∧ _ ∧ _ ∧ _ ∧ _ ∧ _ ∧ _ ∧ _ ∧ @LT.lt _ _ _ _ ∧ _›).2.2.2.2.2.2.2.2.2.2.1 | exact Nat.ne_of_lt (‹_ ∧ _ ∧ _ ∧ _ ∧ _ ∧ _ ∧ _ ∧ _ ∧ _ ∧ _ ∧ _ ∧ @LT.lt _ _ _ _ ∧ _›).2.2.2.2.2.2.2.2.2.2.2.1 | exact Nat.ne_of_gt (‹_ ∧ _ ∧ _ ∧ _ ∧ _ ∧ _ ∧ _ ∧ _ ∧ _ ∧ _ ∧ _ ∧ @LT.lt _ _ _ _ ∧ _›).2.2.2.2.2.2.2.2.2.2.2.1 | exact Nat.ne_of_lt (‹_ ∧ _ ∧ _ ∧ _ ∧ _ ∧ _ ∧ _ ∧ _ ∧ _ ∧ _ ∧ _ ∧ _ ∧ @LT.lt _ _ _ _ ∧ _›).2.2.2.2.2.2.2.2.2.2.2.2.1 | exact Nat.ne_of_gt (‹_ ∧ _ ∧ _ ∧ _ ∧ _ ∧ _ ∧ _ ∧ _ ∧ _ ∧ _ ∧ _ ∧ _ ∧ @LT.lt _ _ _ _ ∧ _›).2.2.2.2.2.2.2.2.2.2.2.2.1 | exact Nat.ne_of_lt (‹_ ∧ _ ∧ _ ∧ _ ∧ _ ∧ _ ∧ _ ∧ _ ∧ _ ∧ _ ∧ _ ∧ _ ∧ _ ∧ @LT.lt _ _ _ _ ∧ _›).2.2.2.2.2.2.2.2.2.2.2.2.2.1 | exact Nat.ne_of_gt (‹_ ∧ _ ∧ _ ∧ _ ∧ _ ∧ _ ∧ _ ∧ _ ∧ _ ∧ _ ∧ _ ∧ _ ∧ _ ∧ @LT.lt _ _ _ _ ∧ _›).2.2.2.2.2.2.2.2.2.2.2.2.2.1)
  (k_with "adr" => (repeat (first | exact List.Mem.head _ | refine List.Mem.tail _ ?_)))
  (k_with "mine cx" => exact ⟨by assumption, by assumption, by assumption, by assumption, rfl, rfl, rfl, by (first | exact Nat.le_trans (Nat.succ_le_succ (show _ ≤ 330 by assumption)) (by decide) | exact Nat.le_trans (Nat.succ_le_succ (show _ ≤ 340 by assumption)) (by decide) | exact Nat.le_trans (Nat.succ_le_succ (show _ ≤ 345 by assumption)) (by decide) | exact Nat.le_trans (Nat.succ_le_succ (show _ ≤ 350 by assumption)) (by decide) | (simp only [depth_deeper]; omega)), by (first | exact Nat.le_trans (Nat.add_le_add_right (show _ ≤ 100 by assumption) 3) (by decide) | exact Nat.le_trans (Nat.add_le_add_right (show _ ≤ 130 by assumption) 3) (by decide) | exact Nat.le_trans (Nat.add_le_add_right (show _ ≤ 140 by assumption) 3) (by decide) | exact Nat.le_trans (Nat.add_le_add_right (show _ ≤ 150 by assumption) 3) (by decide) | (simp only [units_deeper]; omega)), rfl, by assumption, by assumption, by assumption⟩)
  (k_with "kind k_updF" => (with_reducible refine' updFapp ?w158a ?w158b; (case w158a => k_dflt (exact aboveNe (by with_reducible assumption) (by walk_at "adr"))); (case w158b => k_updF)))
  (k_with "kind k_ne" => ((try dsimp only); first | with_reducible assumption | exact Ne.symm (by with_reducible assumption) | walk_at "ne" | exact Nat.ne_of_gt (by omega)))
  (k_with "kind k_mem" => first | assumption | (refine List.mem_append_left _ ?_; k_mem) | (refine List.mem_append_right _ ?_; k_mem))
  (k_with "kind k_room" => (show _ < _; simp only [depth_under_make, depth_under_kw, depth_in1, depth_deeper, depth_caller, recursionLimit]; omega))
  (k_with "call ref" => (k_here; (with_reducible show wpAny _ _ (call (Value.ref 91) _ _) _ _ _); (k_dflt (refine' mk_handlerU ?w122C ?w122N ?w122U ?w122hT ?w122hs ?w122hn ?_; (case w122C => walk_at "mine cx"); (case w122N => k_asm); (case w122U => k_updF); (case w122hT => assumption); (case w122hs => intro _ _; k_mem); (case w122hn => assumption))); intro _ _ _ _ _ _ n9x6 n9x7 n9x8 n9x9; (try dsimp only at n9x6); (try dsimp only at n9x9); revert n9x6 n9x7 n9x8 n9x9; intro _ _ _ _))
  (k_with "call ref" => (k_here; (with_reducible show wpAny _ _ (call (Value.ref 35) _ _) _ _ _); (k_dflt (refine' add_getU ?w123C ?w123N ?w123U ?w123hM ?w123hs ?w123hn ?w123hd ?w123hk ?w123hz ?_; (case w123C => walk_at "mine cx"); (case w123N => k_asm); (case w123hM => assumption); (case w123U => k_updF); (case w123hs => intro _ _; k_mem); (case w123hn => assumption); (case w123hd => assumption); (case w123hk => assumption); (case w123hz => rw [sizeLine_eq]; omega))); intro _ _ _ _ n9x4 n9x5; (try dsimp only at n9x4); revert n9x4 n9x5; intro _ _))
  (k_with "setItem ref int" => (k_here; (k_dflt (refine' set_mix ?w124F ?w124N ?w124U ?w124d ?w124k ?w124z ?_; (case w124F => k_asm); (case w124N => k_asm); (case w124U => k_updF); (case w124d => assumption); (case w124k => assumption); (case w124z => rw [sizeLine_eq]; omega); k_whole)); intro _ _ _ n9x3 n9x4; (try dsimp only at n9x3); revert n9x3 n9x4; intro _ _))
  (k_with "call ref" => (k_here; (with_reducible show wpAny _ _ (call (Value.ref 49) _ _) _ _ _); (k_dflt (refine' add_setU ?w125C ?w125N ?w125U ?w125hM ?w125hs ?w125hn ?w125hd ?w125hk ?w125hz ?_; (case w125C => walk_at "mine cx"); (case w125N => k_asm); (case w125hM => assumption); (case w125U => k_updF); (case w125hs => intro _ _; k_mem); (case w125hn => assumption); (case w125hd => assumption); (case w125hk => assumption); (case w125hz => rw [sizeLine_eq]; omega))); intro _ _ _ _ n9x4 n9x5; (try dsimp only at n9x4); revert n9x4 n9x5; intro _ _))
  (k_with "subscriptTail" => (k_here; (with_reducible show wpAny _ _ (subscriptTail _ _ (Value.ref _) (Value.int (Int.fmod _ _) _)) _ _ _); (k_dflt (refine' item_key (hs := by with_unfolding_all rfl) ?w126N ?w126m ?w126ks ?w126z ?w126i ?w126k ?_; (case w126N => k_asm); (case w126m => k_mem); (case w126ks => assumption); (case w126k => assumption); (case w126z => exact Nat.le_of_ble_eq_true rfl); (case w126i => assumption); k_whole)); intro _ _))
  (k_with "spliced" => (k_here; (with_reducible show wpAny _ _ (spliced (backTo _ (starEach (Expr.Constant (Const.str _) _ _ :: Expr.Constant (Const.str _) _ _ :: _) _))) _ _ _); (first | refine consts_display (.str (.str (.str (.str (.str (.str (.str (.str (.str .nil))))))))) (by decide) ?_ | refine consts_display (.str (.str (.str (.str (.str (.str (.str (.str (.str (.str .nil)))))))))) (by decide) ?_ | refine consts_display (.str (.str (.str (.str (.str (.str (.str (.str (.str (.str (.str (.str (.none (.str .nil)))))))))))))) (by decide) ?_); intro _ _ _ _))
  (k_with "subscriptTail Name Slice ref ref" => (k_here; (with_reducible show wpAny _ _ (subscriptTail _ (PySem.Expr.Slice _ _ none _) (Value.ref _) (Value.ref _)) _ _ _); k_dflt (refine' slice_ps ?w128F ?w128N ?w128m ?w128z ?w128p ?w128q ?_ ?w128s ?w128t; (case w128F => k_asm); (case w128N => k_asm); (case w128m => k_mem); (case w128z => exact Nat.le_of_ble_eq_true rfl); (case w128p => kmk_part); (case w128q => kmk_part); (case w128s => with_unfolding_all rfl); (case w128t => kmk_pure)); intro _ _ _ _ _ l9x _; (try k_lt l9x); revert l9x; intro _))
  (k_with "call type:tuple" => (k_here; (with_reducible show wpAny _ _ (call (Value.type _) [Value.ref _]) _ _ _); k_dflt (refine' tuple_ps ?w129F ?w129N ?w129m ?w129z ?_; (case w129F => k_asm); (case w129N => k_asm); (case w129m => k_mem); (case w129z => exact Nat.le_trans (by assumption) (Nat.le_of_ble_eq_true rfl))); intro _ _ _ _ l9x; (try k_lt l9x); revert l9x; intro _))
  (k_with "call builtin:len" => (k_here; (with_reducible show wpAny _ _ (call (Value.builtin "len") [Value.ref _]) _ _ _); k_dflt (first
  | (refine' len_told1 ?w130N ?w130m ?w130z ?_; (case w130N => k_asm); (case w130m => k_mem); (case w130z => omega))
  | (refine' len_told ?w130N ?w130m ?w130z ?_; (case w130N => k_asm); (case w130m => k_mem); (case w130z => omega))); intro _ _))
  (k_with "subscriptTail Name UnaryOp ref int" => (k_here; (fail_if_success (with_reducible show wpAny _ _ (subscriptTail _ _ (Value.ref _) (Value.int 0 _)) _ _ _)); (fail_if_success (with_reducible show wpAny _ _ (subscriptTail _ _ (Value.ref _) (Value.int 1 _)) _ _ _)); (with_reducible show wpAny _ _ (subscriptTail _ _ (Value.ref _) (Value.int _ _)) _ _ _); (k_dflt (refine' last_list (hs := by with_unfolding_all rfl) ?w131N ?w131m ?w131v ?_; (case w131N => k_asm); (case w131m => k_mem); (case w131v => first | assumption | exact back_app)))))
  (k_with "subscriptTail Name Slice ref ref" => (k_here; (with_reducible show wpAny _ _ (subscriptTail _ (PySem.Expr.Slice (some _) none none _) (Value.ref _) (Value.ref _)) _ _ _); k_dflt (refine' slice_tup4 ?w132F ?w132N ?w132m ?_ ?w132s ?w132t; (case w132F => k_asm); (case w132N => k_asm); (case w132m => k_mem); (case w132s => with_unfolding_all rfl); (case w132t => kmk_pure)); intro _ _ _ _))
  (k_with "compareOp Is ref ref" => (refine wpAny_is_ref_self ?_))
  (k_with "compareOp IsNot ref ref" => (refine wpAny_isNot_ref_self ?_))
  (k_with "compareOp Eq int int" => (refine eq_int_self ?_))
  (k_with "compareOp NotEq int int" => (refine ne_int_self ?_))
  (k_with "compareOp Eq str str" => (refine Halt.to ?_))
  (k_with "pyIter ref" => (refine Halt.to ?_))
  (k_with "exec For Name Name cons nil" => (k_here; (rename Fr _ _ _ _ => lF'); (with_unfolding_all refine' For_invVF lF' ?w139k1 ?w139k2 ?_; (case w139k1 => exact rfl); (case w139k2 => exact rfl); k_whole)))
  (k_with "inplaceOp Add ref ref" => (k_here; k_dflt (refine' iadd_list ?w140F ?w140N ?w140U ?w140b ?w140z ?_; (case w140F => k_asm); (case w140N => k_asm); (case w140U => k_updF); (case w140b => k_mem); (case w140z => (simp only [List.length_cons, List.length_nil]; omega))); intro _ _ _ n9x3; (try dsimp only at n9x3); revert n9x3; intro _))
  (k_with "binaryOp Add ref ref" => (refine Halt.to ?_))
  (k_with "binaryOp Add str str" => (k_here; (refine SBL.add (hsz := ?w142hsz) ?_); (case w142hsz => exact Nat.le_trans (by with_reducible assumption) (by rw [sizeLine_eq]; exact Nat.le_of_ble_eq_true rfl)); intro _ _))
  (k_with "compareOp Eq ref ref" => (refine Halt.to ?_))
  (k_with "call builtin:len" => ((have mk9 : Halt True := by with_reducible assumption); clear mk9; refine Halt.to ?_))
  (k_with "subscriptTail Name Name ref int" => ((have mk9 : Halt True := by with_reducible assumption); clear mk9; k_here; k_dflt (refine' item_start (hs := by with_unfolding_all rfl) ?w145N ?w145m ?w145z ?_; (case w145N => k_asm); (case w145m => k_mem); (case w145z => omega))))
  (k_with "subscriptTail Name Constant ref int" => ((have mk9 : Halt True := by with_reducible assumption); clear mk9; k_here; k_dflt (refine' item_first (hs := by with_unfolding_all rfl) (hg := by intro _; with_unfolding_all rfl) ?w146N ?w146m ?w146z ?_; (case w146N => k_asm); (case w146m => k_mem); (case w146z => omega))))
  (k_with "compareOp Is" => ((have mk9 : Halt True := by with_reducible assumption); clear mk9; (refine' is_use ?w147i ?_; (case w147i => with_reducible assumption))))
  (k_with "subscriptTail Name Constant ref int" => ((have mk9 : Halt (True ∧ True) := by with_reducible assumption); clear mk9; k_here; k_dflt (refine' item_head (hs := by with_unfolding_all rfl) ?w148N ?w148m ?w148v ?_; (case w148N => k_asm); (case w148m => k_mem); (case w148v => assumption))))
  (k_with "eval IfExp" => ((fail_if_success (with_reducible show wpAny _ _ _ (NamesAt _ _ _ _ _ _) _ _)); refine Halt.to ?_))
  (k_with "call ref" => (k_here; (with_reducible show wpAny _ _ (call (Value.ref 98) _ _) _ _ _); refine Halt.to ?_))
  (k_with "call ref" => (k_here; (with_reducible show wpAny _ _ (call (Value.ref 77) _ _) _ _ _); refine Halt.to ?_))
  (k_with "call ref" => (k_here; (with_reducible show wpAny _ _ (call (Value.ref 105) _ _) _ _ _); refine Halt.to ?_))
  (k_with "compareOp Eq str str" => ((have mk9 : Halt (False ∨ True) := by with_reducible assumption); clear mk9; refine' eq_str_same ?w153e ?_; (case w153e => assumption)))
  (k_with "exec If" => ((have mk9 : Halt (True ∨ True) := by with_reducible assumption); clear mk9; refine Halt.to ?_))
  trivial
/-- the keys of the law's handlers for types -/
noncomputable def getKeys : List MK := [.str (Str.ofString "text/plain"), .str (Str.ofString "text"), .str (Str.ofString ""), .str (Str.ofString "message/rfc822"), .str (Str.ofString "message"), .str (Str.ofString "image"), .str (Str.ofString "image/png"), .str (Str.ofString "multipart"), .str (Str.ofString "multipart/mixed")]
theorem above_chg {a : Adr} {st : St} {own rest : List (Addr × Obj)} (ab : ∀ p ∈ own, ∀ b ∈ a.all, @LT.lt Nat _ b p.1) (r : ∀ p ∈ own, ∀ q ∈ rest, @LT.lt Nat _ q.1 p.1) : Above own (st.chg a ++ rest) := fun p hp q hq =>
  (List.mem_append.mp hq).elim (fun hq => ab p hp _ (show q.1 ∈ (st.chg a).map (·.1) from List.mem_map.mpr ⟨q, hq, rfl⟩)) (r p hp q)
section
variable {w : World} {A A₀ : Around} {E : Value → Shared → Prop} {s : Shared} {h₀ base : Heap} {L : Addr} {m mg mb : Str → Option Value} {news : List (Addr × Obj)} {loose : List Str} {mean : ExcName → Option Value} {env : Env} {outer : List Env}

/-- a deed of the law, of whichever kind -/
theorem deed_ok {a : Adr} {st : St} {rest : List (Addr × Obj)} {n : Nat} {d r i : Int} {td tr ti : Tok} {Q : Value → Shared → Prop}
    (C : Cx w A₀ A base h₀ s.heap L m topProg loose mean mg mb env outer) (hD : KtsDicts (outer.filterMap (·.frame)) h₀) (hst : StatOk rest base) (N : News h₀ L s.heap (st.chg a ++ rest)) (I : Inv w a st rest n) (hn : n ≤ 45) (hdp : A.depth ≤ 330) (hup : A.units ≤ 100) (hd0 : 0 ≤ d) (hd : d < 8)
    (h : ∀ base' h₀' h' tk own st', Back w A₀ base h₀ L m loose mean mg mb outer (st.chg a ++ rest) base' h₀' h' own → News h₀' L h' (st'.chg a ++ (own ++ rest)) → Inv w a st' (own ++ rest) (n + 1) → StatOk (own ++ rest) base' → st'.its = st.its → Q (.bool true) { s with heap := h', toks := tk }) :
    wpAny (model PySem.Challenge.rw_in0087_01.row.prog w) A (call (.ref 112) [.ref a.mgr, .ref a.page, .ref a.told, .ref a.types, .ref a.tabs, .int d td, .int r tr, .int i ti] []) Q E s := by
  have kX0 := C.X
  revert kX0
  k_fill
  intro kX0
  obtain ⟨told, dG, dS, tA, tB, types, mgr, page, tabs⟩ := a
  obtain ⟨tl, nn, tab, oG, oS, oA, oB, kG, kS, kA, kB, its, nt⟩ := st
  simp only [St.chg, List.cons_append, List.nil_append] at N
  have I0 := I
  obtain ⟨x, mx, rx, tx, hv, hxl, hxr, hrx, hxk⟩ : ∃ (x mx : Str) (rx : List Str) (tx : Tok), its.back? = some (.str x tx) ∧ x.length ≤ 1000 ∧ (reprText x).length ≤ 2000 ∧ Txt.split x (Str.ofString "/") = mx :: rx ∧ Str.ofString "key " ++ reprText x = Str.ofString "key '" ++ x ++ Str.ofString "'" := by
    obtain ⟨x, tx, hx, hv⟩ := I.types
    obtain ⟨rx, hrx⟩ := type_main x hx
    exact ⟨Str.ofString x, _, rx, tx, hv, (type_len x hx).1, (type_len x hx).2, hrx, type_key x hx⟩
  have hM0 := I.M
  obtain ⟨of1, of2, of3, of4, of5, of6, of7⟩ := I.ofs
  obtain ⟨⟨nA1, nA2, nA3, nA4, nA5, nA6⟩, ⟨nB1, nB2, nB3, nB4, nB5⟩, ⟨nC1, nC2, nC3, nC4⟩, ⟨nD1, nD2, nD3⟩, ⟨nE1, nE2⟩, nF1⟩ := I.nds
  obtain ⟨nd, off, hM, hP, htb, sys, hdG, hdS, hdA, hdB, eG, eS, hty, htab, lG, lS, lA, lB, lT, hty2, lt, le⟩ := I
  obtain ⟨dm, u1, u2, hm1, hm2⟩ := hM
  refine' enterT C N ?k6 ?k7 ?k8 ?k9 ?c1 ?c2 ?c3 ?c4 ?_
  case k6 => k_dflt k_is
  case k7 => k_dflt k_is
  case k8 => exact BindsTo.of_eq rfl
  case k9 => exact locs rfl
  case c1 => exact rfl
  case c2 => exact rfl
  case c3 => exact rfl
  case c4 => decide
  clear kX0
  have C0 := C
  obtain ⟨B, F, X, TT, hA, hf, hke, hroom, hun, hh, hc90, XB, TB⟩ := C
  obtain ⟨hd', dep, fr, gs, un⟩ := A
  dsimp only at hA hroom hun hh hdp hup
  subst hA
  subst hh
  clear F TT X
  dsimp only at *
  intro g' L' h' FG' F' N' B' X' T' lc
  try dsimp only
  try k_fold
  clear off nd
  have hif : Halt (True ∨ True) := .inl trivial
  k_steps
  unfold Halt
  clear hif
  by_cases h2 : d < 2
  · have hr0 : 0 ≤ Int.fmod r 9 := Int.fmod_nonneg_of_pos r (by decide)
    have hr1 : (Int.fmod r 9).toNat < getKeys.length := by
      have := Int.fmod_lt_of_pos r (show (0 : Int) < 9 by decide)
      show _ < 9
      omega
    have hkk : getKeys[(Int.fmod r 9).toNat]? = some getKeys[(Int.fmod r 9).toNat] := List.getElem?_eq_getElem hr1
    revert hkk
    generalize getKeys[(Int.fmod r 9).toNat] = k
    intro hkk
    k_steps
    rename Fr g' L' _ _ => F9
    rename News g' L' _ _ => N9
    rename TabOk (_ ++ rest) _ => hT9
    rename HandlerAt _ _ _ _ _ => hH9
    rename Above _ _ => hA9
    rename Obj.IsDictOf _ _ (stored kA _ _) => hdA9
    rename Obj.IsDictOf _ _ (stored kG _ _) => hdG9
    obtain ⟨F10, N10⟩ := (Back.refl (news := rest) C0 FG' hst).led F9 N9 (fun p hp => hp)
    have ab : ∀ p : Addr × Obj, p ∈ _ → ∀ b ∈ [told, 86, dG, dS, tA, tB, types], @LT.lt Nat _ b p.1 := fun p hp => (allC (aboveLt hA9 (by walk_at "adr") p hp) (allC (aboveLt hA9 (by walk_at "adr") p hp) (allC (aboveLt hA9 (by walk_at "adr") p hp) (allC (aboveLt hA9 (by walk_at "adr") p hp) (allC (aboveLt hA9 (by walk_at "adr") p hp) (allC (aboveLt hA9 (by walk_at "adr") p hp) (allC (aboveLt hA9 (by walk_at "adr") p hp) (List.forall_mem_nil _))))))))
    refine h base h₀ _ _ _ _ ⟨.refl, .refl, C0.B, C0.XB, C0.TB, F10, above_chg (a := ⟨told, dG, dS, tA, tB, types, mgr, page, tabs⟩) (st := ⟨tl, nn, tab, oG, oS, oA, oB, kG, kS, kA, kB, its, nt⟩) ab fun p hp q hq => hA9 p hp q (by k_mem), hst.mono fun _ h => List.mem_append_right _ (List.mem_append_right _ h)⟩ (news_sub N10 ?sub) (inv_get I0 hn ab hT9 hH9 hdG9 hdA9) (hst.mono fun _ => List.mem_append_right _) rfl
    case sub => walk_at "perm"
  by_cases h4 : d < 4
  · have hr0 : 0 ≤ Int.fmod r 14 := Int.fmod_nonneg_of_pos r (by decide)
    have hr1 : (Int.fmod r 14).toNat < kindKeys.length := by
      have := Int.fmod_lt_of_pos r (show (0 : Int) < 14 by decide)
      show _ < 14
      omega
    have hkk : kindKeys[(Int.fmod r 14).toNat]? = some kindKeys[(Int.fmod r 14).toNat] := List.getElem?_eq_getElem hr1
    have hkm : kindKeys[(Int.fmod r 14).toNat] ∈ kindKeys := List.getElem_mem hr1
    revert hkk hkm
    generalize kindKeys[(Int.fmod r 14).toNat] = k
    intro hkk hkm
    k_steps
    rename Fr g' L' _ _ => F9
    rename News g' L' _ _ => N9
    rename TabOk (_ ++ rest) _ => hT9
    rename HandlerAt _ _ _ _ _ => hH9
    rename Above _ _ => hA9
    rename Obj.IsDictOf _ _ (stored kB _ _) => hdB9
    rename Obj.IsDictOf _ _ (stored kS _ _) => hdS9
    obtain ⟨F10, N10⟩ := (Back.refl (news := rest) C0 FG' hst).led F9 N9 (fun p hp => hp)
    have ab : ∀ p : Addr × Obj, p ∈ _ → ∀ b ∈ [told, 86, dG, dS, tA, tB, types], @LT.lt Nat _ b p.1 := fun p hp => (allC (aboveLt hA9 (by walk_at "adr") p hp) (allC (aboveLt hA9 (by walk_at "adr") p hp) (allC (aboveLt hA9 (by walk_at "adr") p hp) (allC (aboveLt hA9 (by walk_at "adr") p hp) (allC (aboveLt hA9 (by walk_at "adr") p hp) (allC (aboveLt hA9 (by walk_at "adr") p hp) (allC (aboveLt hA9 (by walk_at "adr") p hp) (List.forall_mem_nil _))))))))
    refine h base h₀ _ _ _ _ ⟨.refl, .refl, C0.B, C0.XB, C0.TB, F10, above_chg (a := ⟨told, dG, dS, tA, tB, types, mgr, page, tabs⟩) (st := ⟨tl, nn, tab, oG, oS, oA, oB, kG, kS, kA, kB, its, nt⟩) ab fun p hp q hq => hA9 p hp q (by k_mem), hst.mono fun _ h => List.mem_append_right _ (List.mem_append_right _ h)⟩ (news_sub N10 ?sub) (inv_set I0 hn ab hT9 hH9 (kindKeys_noTy hkm) hdS9 hdB9) (hst.mono fun _ => List.mem_append_right _) rfl
    case sub => walk_at "perm"
  k_steps
  rename Fr g' L' _ _ => F1
  rename News g' L' _ _ => N1
  rename_i sl hsl zs hz l8 pl hpl l9 hh
  have N2 := news_sub (b := (pl, ({ cls := .type "tuple", data := .seq zs.toArray } : Obj)) :: (told, W.listOf tl.toArray nn) :: (86, tabObj tab) :: (dG, oG) :: (dS, oS) :: (tA, oA) :: (tB, oB) :: (types, W.listOf its nt) :: rest) N1 (by walk_at "perm")
  have lz : AllLt pl ((told, W.listOf tl.toArray nn) :: (86, tabObj tab) :: (dG, oG) :: (dS, oS) :: (tA, oA) :: (tB, oB) :: (types, W.listOf its nt) :: rest) := l9.2.2.2.2
  have lz2 : @LT.lt Nat _ told pl ∧ @LT.lt Nat _ 86 pl ∧ @LT.lt Nat _ dG pl ∧ @LT.lt Nat _ dS pl ∧ @LT.lt Nat _ tA pl ∧ @LT.lt Nat _ tB pl ∧ @LT.lt Nat _ types pl ∧ AllLt pl rest := lz
  clear N1 l8 l9
  unfold Halt
  refine names_cut F1 N2 ?nms ?_
  case nms =>
    k_steps
    · rename Fr g' L' _ _ => F2
      rename News g' L' _ _ => N3
      rename Obj.IsDictOf _ _ (strPairs _) => d2
      refine NamesAt.intro (kws := [(Str.ofString "key", _)]) F2 N3 (.tail _ (.head _)) ?_ (by assumption) d2 (.inr ⟨_, rfl⟩) (by assumption)
      intro p hp
      exact .tail _ (.tail _ hp)
    · rename Fr g' L' _ _ => F2
      rename News g' L' _ _ => N3
      rename Obj.IsDictOf (strKind _ _) _ [] => d2
      refine NamesAt.intro (kws := []) F2 N3 (.head _) ?_ (by assumption) d2 (.inl rfl) (by assumption)
      intro p hp
      exact .tail _ hp
  intro nm h2 tk2 oN kws F2 N3 l2 hN hk hsn
  have ln : AllLt nm ((pl, ({ cls := .type "tuple", data := .seq zs.toArray } : Obj)) :: (told, W.listOf tl.toArray nn) :: (86, tabObj tab) :: (dG, oG) :: (dS, oS) :: (tA, oA) :: (tB, oB) :: (types, W.listOf its nt) :: rest) := allLt_of l2
  have ln2 : @LT.lt Nat _ pl nm ∧ @LT.lt Nat _ told nm ∧ @LT.lt Nat _ 86 nm ∧ @LT.lt Nat _ dG nm ∧ @LT.lt Nat _ dS nm ∧ @LT.lt Nat _ tA nm ∧ @LT.lt Nat _ tB nm ∧ @LT.lt Nat _ types nm ∧ AllLt nm rest := ln
  clear F1 N2
  have hif : Halt (True ∨ True) := .inl trivial
  k_steps
  unfold Halt
  clear hif
  by_cases h6 : d < 6
  · have hm3 : Halt (False ∨ True) := .inr trivial
    k_steps
    rename Fr g' L' _ _ => F4
    rename News g' L' _ _ => N4
    unfold Halt
    obtain ⟨R, r1, r2, r3, r4⟩ := updOut (d := told) (o := W.listOf tl.toArray nn) (news := (nm, oN) :: (pl, ({ cls := .type "tuple", data := .seq zs.toArray } : Obj)) :: (told, W.listOf tl.toArray nn) :: (86, tabObj tab) :: (dG, oG) :: (dS, oS) :: (tA, oA) :: (tB, oB) :: (types, W.listOf its nt) :: rest) (by k_updF)
    have neT : ∀ p ∈ (nm, oN) :: (pl, ({ cls := .type "tuple", data := .seq zs.toArray } : Obj)) :: (86, tabObj tab) :: (dG, oG) :: (dS, oS) :: (tA, oA) :: (tB, oB) :: (types, W.listOf its nt) :: rest, p.1 ≠ told := (allC (Nat.ne_of_gt ln2.2.1) (allC (Nat.ne_of_gt lz2.1) (allC (Ne.symm nA1) (allC (Ne.symm nA2) (allC (Ne.symm nA3) (allC (Ne.symm nA4) (allC (Ne.symm nA5) (allC (Ne.symm nA6) of1))))))))
    have inR : ∀ p ∈ (nm, oN) :: (pl, ({ cls := .type "tuple", data := .seq zs.toArray } : Obj)) :: (86, tabObj tab) :: (dG, oG) :: (dS, oS) :: (tA, oA) :: (tB, oB) :: (types, W.listOf its nt) :: rest, p ∈ R := fun p hp => r4 p ((show ∀ p ∈ _, p ∈ _ by walk_at "perm") p hp) (neT p hp)
    have hsub : ∀ p ∈ rest, p ∈ R := fun p hp => inR p (by k_mem)
    have hps : PsOk zs := psOk_of (Nat.le_trans hz (Nat.le_of_ble_eq_true rfl))
    refine' called_get (kvs := kG) (dG := dG) (dS := dS) (kws := kws) (x := x) (mx := mx) ?C (ktsDicts_push hD FG' hf) (fun p hp => N4 p (r3 p hp)) r1 (hM0.mono hsub) (hP.mono hsub) (inR _ ?mG) ?sG hdG (inR _ ?mT) hv hxl hrx hps hk ?sz ?dp ?up (inR _ ?mp) (inR _ ?mn) hN hsn (hst.mono hsub) hxr (fun k v e => ?hkv) ?R ?E
    case C => walk_at "mine cx"
    case mG => k_mem
    case sG => exact I0.sys dG (by simp [Adr.all])
    case mT => k_mem
    case sz => omega
    case dp => first | exact Nat.le_trans (Nat.succ_le_succ hdp) (by decide) | (simp only [depth_deeper]; omega)
    case up => first | exact Nat.le_trans (Nat.add_le_add_right hup 3) (by decide) | (simp only [units_deeper]; omega)
    case mp => k_mem
    case mn => k_mem
    case hkv =>
      obtain ⟨f, n, e1, e2⟩ := eG.handlers k v e
      exact ⟨f, n, e1, e2.mono hsub⟩
    case R =>
      intro f n2 ev hH h5 tk5 c d5 t5 oD tn nn5 F5 N5 hoD hs5 l3 l4 l5
      rcases eG.find [MK.str x, MK.str mx, MK.str (Str.ofString "")] with ⟨q1, _⟩ | ⟨f', n', t', q1, q2, hH'⟩
      · rw [q1] at ev; cases ev
      rw [q1] at ev
      obtain rfl : f' = f := by injection ev with ev; injection ev
      have q3 := HandlerAt.one (hH.mono fun p hp => (.tail _ (.tail _ (.tail _ (.tail _ hp))))) (hH'.mono fun p hp => (.tail _ (.tail _ (.tail _ (.tail _ (hsub p hp)))))) N5 N5
      subst q3
      have N6 := news_sub (b := (t5, ({ cls := .type "tuple", data := .seq #[.int n2 tn, .ref page, .ref c, .ref d5] } : Obj)) :: (d5, oD) :: (c, ({ cls := .type "tuple", data := .seq zs.toArray } : Obj)) :: (told, W.listOf (tl ++ [Value.ref t5]).toArray nn5) :: (nm, oN) :: (pl, ({ cls := .type "tuple", data := .seq zs.toArray } : Obj)) :: (86, tabObj tab) :: (dG, oG) :: (dS, oS) :: (tA, oA) :: (tB, oB) :: (types, W.listOf its nt) :: rest) N5 (by
        intro p hp
        rcases List.mem_cons.mp hp with rfl | hp
        · exact .head _
        rcases List.mem_cons.mp hp with rfl | hp
        · exact .tail _ (.head _)
        rcases List.mem_cons.mp hp with rfl | hp
        · exact .tail _ (.tail _ (.head _))
        rcases List.mem_cons.mp hp with rfl | hp
        · exact .tail _ (.tail _ (.tail _ (.head _)))
        exact .tail _ (.tail _ (.tail _ (.tail _ (inR p hp)))))
      clear F4 N4
      k_steps
      rename (List.map _ _)[_]? = some _ => e1
      rename List.map _ _ = Txt.split _ _ => e2
      rw [e2, hrx] at e1
      obtain rfl := Option.some.inj e1
      rename Fr g' L' _ _ => F7
      rename News g' L' _ _ => N7
      unfold Halt
      refine' found_ok (ks := [MK.str x, MK.str mx, MK.str (Str.ofString "")]) ?C N7 ?mT hdA ?sA (.head _) (KeysAre.cons (mix_str _ _) (KeysAre.cons (mix_str _ _) (KeysAre.cons (mix_str _ _) KeysAre.nil))) ?_
      case C => walk_at "mine cx"
      case mT => k_mem
      case sA => exact I0.sys tA (by simp [Adr.all])
      intro h8 tk8 own8 F8 N8
      have N9 := news_sub (b := (t5, ({ cls := .type "tuple", data := .seq #[.int n2 tn, .ref page, .ref c, .ref d5] } : Obj)) :: (d5, oD) :: (c, ({ cls := .type "tuple", data := .seq zs.toArray } : Obj)) :: (told, W.listOf (tl ++ [Value.ref t5]).toArray nn5) :: (nm, oN) :: (pl, ({ cls := .type "tuple", data := .seq zs.toArray } : Obj)) :: (86, tabObj tab) :: (dG, oG) :: (dS, oS) :: (tA, oA) :: (tB, oB) :: (types, W.listOf its nt) :: rest) N8 (fun p hp => List.mem_append_right _ (.tail _ (.tail _ hp)))
      clear F7 N7 N8
      rw [q2]
      simp only [Option.getD_some]
      k_steps
      rename Fr g' L' _ _ => F10
      rename News g' L' _ _ => N10
      unfold Halt
      refine eq_told N10 (.tail _ (.head _)) (.head _) (.tail _ (.tail _ (.tail _ (.tail _ (.head _))))) (.tail _ (.tail _ (.tail _ (.tail _ (.tail _ (.tail _ (.tail _ (.head _)))))))) (.tail _ (.tail _ (.tail _ (.head _)))) (.tail _ (.tail _ (.tail _ (.tail _ (.tail _ (.tail _ (.head _))))))) hoD hN hs5 hsn hk ?hu ?_
      case hu => first | exact Nat.le_trans (Nat.add_le_add_right hup 3) (by decide) | (simp only [units_deeper]; omega)
      k_steps
      obtain ⟨Fz, Nz⟩ := (Back.refl (news := rest) C0 FG' hst).led F10 N10 (ny := (told, W.listOf (tl ++ [Value.ref t5]).toArray nn5) :: (86, tabObj tab) :: (dG, oG) :: (dS, oS) :: (tA, oA) :: (tB, oB) :: (types, W.listOf its nt) :: rest) (by walk_at "perm")
      exact h base h₀ _ _ [] (St.mk (tl ++ [Value.ref t5]) nn5 tab oG oS oA oB kG kS kA kB its nt) (Back.refl C0 Fz (hst.mono fun p hp => List.mem_append_right _ hp)) Nz (inv_told (tl' := tl ++ [Value.ref t5]) (nn' := nn5) I0 hn (fun _ hp => nomatch hp) (by simp)) hst rfl
    case E =>
      intro ev base2 g2 h5 tk5 u5 own5 K5 N5
      have N6 := news_sub (b := (told, W.listOf tl.toArray nn) :: (nm, oN) :: (pl, ({ cls := .type "tuple", data := .seq zs.toArray } : Obj)) :: (86, tabObj tab) :: (dG, oG) :: (dS, oS) :: (tA, oA) :: (tB, oB) :: (types, W.listOf its nt) :: (own5 ++ rest)) N5 (by
        intro p hp
        rcases List.mem_cons.mp hp with rfl | hp
        · exact List.mem_append_right _ (.head _)
        by_cases q : p ∈ own5
        · exact List.mem_append_left _ q
        · refine List.mem_append_right _ (.tail _ (inR p ?_))
          simp only [List.mem_cons, List.mem_append, q, false_or] at hp ⊢
          exact hp)
      obtain ⟨TB2, T02, B2, XB2, TT2, F5, ab2, st2⟩ := K5
      have X2 := XB2.keeps B2.stays
      have T2 := TT2.keeps B2.stays
      have hc2 : CodeHd base2 90 86 := codeHd_turn hc90 TB2 (let ⟨mc, h1, _⟩ := TB.nolimit; ⟨mc, h1⟩)
      clear F4 N4 hc90 XB TB T' X' B'
      k_steps
      rename (List.map _ _)[_]? = some _ => e1
      rename List.map _ _ = Txt.split _ _ => e2
      rw [e2, hrx] at e1
      obtain rfl := Option.some.inj e1
      rename Fr g2 L' _ _ => F7
      rename News g2 L' _ (_ :: _) => N7
      unfold Halt
      refine' found_ok (ks := [MK.str x, MK.str mx, MK.str (Str.ofString "")]) ?C N7 ?mT hdA ?sA (.head _) (KeysAre.cons (mix_str _ _) (KeysAre.cons (mix_str _ _) (KeysAre.cons (mix_str _ _) KeysAre.nil))) ?_
      case C => walk_at "mine cx"
      case mT => k_mem
      case sA => exact I0.sys tA (by simp [Adr.all])
      intro h8 tk8 own8 F8 N8
      have N9 := news_sub (b := (told, W.listOf tl.toArray nn) :: (nm, oN) :: (pl, ({ cls := .type "tuple", data := .seq zs.toArray } : Obj)) :: (86, tabObj tab) :: (dG, oG) :: (dS, oS) :: (tA, oA) :: (tB, oB) :: (types, W.listOf its nt) :: (own5 ++ rest)) N8 (fun p hp => List.mem_append_right _ (.tail _ (.tail _ hp)))
      clear F7 N7 N8
      have q2 : [MK.str x, MK.str mx, MK.str (Str.ofString "")].findSome? (valueAt kA) = none := by
        rcases eG.find [MK.str x, MK.str mx, MK.str (Str.ofString "")] with ⟨_, q2⟩ | ⟨f', n', t', q1, q2, hH'⟩
        · exact q2
        · rw [q1] at ev; cases ev
      rw [q2]
      simp only [Option.getD_none]
      k_steps
      rename Fr g2 L' _ _ => F10
      rename News g2 L' _ (_ :: _) => N10
      have hab : Above (own5 ++ [(nm, oN), (pl, ({ cls := .type "tuple", data := .seq zs.toArray } : Obj))]) ((told, W.listOf tl.toArray nn) :: (86, tabObj tab) :: (dG, oG) :: (dS, oS) :: (tA, oA) :: (tB, oB) :: (types, W.listOf its nt) :: rest) := by
        intro p hp q hq
        rcases List.mem_append.mp hp with hp | hp
        · refine ab2 p hp q ?_
          rcases List.mem_cons.mp hq with rfl | hq
          · exact .head _
          · exact .tail _ (inR q (.tail _ (.tail _ hq)))
        · simp only [List.mem_cons, List.not_mem_nil, or_false] at hp
          rcases hp with rfl | rfl
          · exact l2 q (.tail _ hq)
          · exact allLt_get lz q hq
      obtain ⟨h₀', K0⟩ := Back.up (news := (told, W.listOf tl.toArray nn) :: (86, tabObj tab) :: (dG, oG) :: (dS, oS) :: (tA, oA) :: (tB, oB) :: (types, W.listOf its nt) :: rest) (own' := own5 ++ [(nm, oN), (pl, ({ cls := .type "tuple", data := .seq zs.toArray } : Obj))]) C0 FG' (newsI := (told, W.listOf tl.toArray nn) :: R) (own := own5) ⟨TB2, T02, B2, XB2, TT2, F10, ab2, st2⟩ hab (by
        intro p hp
        rcases List.mem_append.mp hp with hp | hp
        · exact List.mem_append_left _ (List.mem_append_left _ hp)
        · exact (show ∀ p ∈ _, p ∈ _ by walk_at "perm") p (r3 p hp))
      obtain ⟨Fz, Nz⟩ := K0.led F10 N10 (ny := (told, W.listOf tl.toArray nn) :: (86, tabObj tab) :: (dG, oG) :: (dS, oS) :: (tA, oA) :: (tB, oB) :: (types, W.listOf its nt) :: ((own5 ++ [(nm, oN), (pl, ({ cls := .type "tuple", data := .seq zs.toArray } : Obj))]) ++ rest)) (by walk_at "perm")
      exact h base2 h₀' _ _ (own5 ++ [(nm, oN), (pl, ({ cls := .type "tuple", data := .seq zs.toArray } : Obj))]) (St.mk tl nn tab oG oS oA oB kG kS kA kB its nt) ⟨K0.TB, K0.T0, K0.B, K0.XB, K0.TT, Fz, K0.ab, K0.st⟩ Nz (inv_told (tl' := tl) (nn' := nn) I0 hn (I0.abv hab) (Nat.le_add_right _ _)) (I0.stat K0.st) rfl
  k_steps
  rename Fr g' L' _ _ => F4
  rename News g' L' _ _ => N4
  unfold Halt
  obtain ⟨j, hj, ej⟩ : ∃ j : Nat, j < 9 ∧ Int.fmod r 9 = (j : Int) := by
    have h0 := Int.fmod_nonneg_of_pos r (show (0 : Int) < 9 by decide)
    have h1 := Int.fmod_lt_of_pos r (show (0 : Int) < 9 by decide)
    exact ⟨(Int.fmod r 9).toNat, by omega, by omega⟩
  rw [ej]
  refine' kinds_ok (j := j) ?C N4 hj ?_
  case C => walk_at "mine cx"
  intro h5 tk5 own5 p obj cl vs nl F5 N5 ab5 mp mc hs5 ht5 hself
  have hT := kindAt_mem hj
  revert hs5 ht5 hT
  generalize kindAt j = T
  intro hs5 ht5 hT
  have N6 := news_sub (b := (p, ({ cls := .type "tuple", data := .seq #[obj, .ref cl] } : Obj)) :: (cl, W.listOf vs.toArray nl) :: (nm, oN) :: (pl, ({ cls := .type "tuple", data := .seq zs.toArray } : Obj)) :: (told, W.listOf tl.toArray nn) :: (86, tabObj tab) :: (dG, oG) :: (dS, oS) :: (tA, oA) :: (tB, oB) :: (types, W.listOf its nt) :: (own5 ++ rest)) N5 (by walk_at "perm")
  clear F4 N4 N5
  k_steps
  rename Fr g' L' _ _ => F7
  rename News g' L' _ _ => N7
  rename_i th hth lth
  unfold Halt
  have ofo : ∀ q ∈ own5 ++ rest, q.1 ≠ told := fun q hq => (List.mem_append.mp hq).elim (fun hq => Nat.ne_of_gt (ab5 q hq _ (.tail _ (.tail _ (.head _))))) (of1 q)
  have ac : @LT.lt Nat _ told cl := ab5 _ mc _ (.tail _ (.tail _ (.head _)))
  have at' : @LT.lt Nat _ told th := lth.2.2.2.2.1
  have N8 := news_sub (b := (th, ({ cls := .type "tuple", data := .seq #[obj] } : Obj)) :: (cl, W.listOf vs.toArray nl) :: (nm, oN) :: (pl, ({ cls := .type "tuple", data := .seq zs.toArray } : Obj)) :: (told, W.listOf tl.toArray nn) :: (86, tabObj tab) :: (dG, oG) :: (dS, oS) :: (tA, oA) :: (tB, oB) :: (types, W.listOf its nt) :: (own5 ++ rest)) N7 (by walk_at "perm")
  clear N7
  obtain ⟨R, r1, r2, r3, r4⟩ := updOut (d := told) (o := W.listOf tl.toArray nn) (news := (th, ({ cls := .type "tuple", data := .seq #[obj] } : Obj)) :: (cl, W.listOf vs.toArray nl) :: (nm, oN) :: (pl, ({ cls := .type "tuple", data := .seq zs.toArray } : Obj)) :: (told, W.listOf tl.toArray nn) :: (86, tabObj tab) :: (dG, oG) :: (dS, oS) :: (tA, oA) :: (tB, oB) :: (types, W.listOf its nt) :: (own5 ++ rest)) (by k_updF)
  have neT : ∀ q ∈ (th, ({ cls := .type "tuple", data := .seq #[obj] } : Obj)) :: (cl, W.listOf vs.toArray nl) :: (nm, oN) :: (pl, ({ cls := .type "tuple", data := .seq zs.toArray } : Obj)) :: (86, tabObj tab) :: (dG, oG) :: (dS, oS) :: (tA, oA) :: (tB, oB) :: (types, W.listOf its nt) :: (own5 ++ rest), q.1 ≠ told := (allC (Nat.ne_of_gt at') (allC (Nat.ne_of_gt ac) (allC (Nat.ne_of_gt ln2.2.1) (allC (Nat.ne_of_gt lz2.1) (allC (Ne.symm nA1) (allC (Ne.symm nA2) (allC (Ne.symm nA3) (allC (Ne.symm nA4) (allC (Ne.symm nA5) (allC (Ne.symm nA6) ofo))))))))))
  have inR : ∀ q ∈ (th, ({ cls := .type "tuple", data := .seq #[obj] } : Obj)) :: (cl, W.listOf vs.toArray nl) :: (nm, oN) :: (pl, ({ cls := .type "tuple", data := .seq zs.toArray } : Obj)) :: (86, tabObj tab) :: (dG, oG) :: (dS, oS) :: (tA, oA) :: (tB, oB) :: (types, W.listOf its nt) :: (own5 ++ rest), q ∈ R := fun q hq => r4 q ((show ∀ q ∈ _, q ∈ _ by walk_at "perm") q hq) (neT q hq)
  have hsub : ∀ q ∈ rest, q ∈ R := fun q hq => inR q (by k_mem)
  have hzz : zs.length ≤ 2 := Nat.le_trans hz (Nat.le_of_ble_eq_true rfl)
  have hps : PsOk zs := psOk_of (by omega)
  have hps' : PsOk (obj :: zs) := psOk_of (by rw [List.length_cons]; omega)
  refine' called_set (T := T) (kvs := kS) (dG := dG) (dS := dS) (kws := kws) (x := x) (mx := mx) ?C (ktsDicts_push hD FG' hf) (fun q hq => N8 q (r3 q hq)) r1 (hM0.mono hsub) (hP.mono hsub) (inR _ ?mG) ?sG hdS (inR _ ?mT) hv hxl hrx hps hps' hk ?sz ?dp ?up (inR _ ?mh) (inR _ ?mp) (inR _ ?mn) hN hsn hT (fun g L s Nx => ht5 g L s fun q hq => Nx q (inR q ?mo)) hty (hst.mono hsub) (kind_len T hT) (fun k v e => ?hkv) ?R ?E
  case C => walk_at "mine cx"
  case mG => k_mem
  case sG => exact I0.sys dS (by simp [Adr.all])
  case mT => k_mem
  case sz => omega
  case dp => first | exact Nat.le_trans (Nat.succ_le_succ hdp) (by decide) | (simp only [depth_deeper]; omega)
  case up => first | exact Nat.le_trans (Nat.add_le_add_right hup 3) (by decide) | (simp only [units_deeper]; omega)
  case mh => k_mem
  case mp => k_mem
  case mn => k_mem
  case mo => k_mem
  case hkv =>
    obtain ⟨f, n, e1, e2⟩ := eS.handlers k v e
    exact ⟨f, n, e1, e2.mono hsub⟩
  case R =>
    intro hmx f n2 ev hH base2 g2 h8 tk8 own8 c d8 t8 oD tn tc nn8 K8 N9 hoD hs8 l3 l4 l5
    rcases eS.find (keysOf T) with ⟨q1, _⟩ | ⟨f', n', t', q1, q2, hH'⟩
    · rw [q1] at ev; cases ev
    rw [q1] at ev
    obtain rfl : f' = f := by injection ev with ev; injection ev
    have q3 := HandlerAt.one (hH.mono fun p hp => (.tail _ (.tail _ (.tail _ (.tail _ (List.mem_append_right _ hp)))))) (hH'.mono fun p hp => (.tail _ (.tail _ (.tail _ (.tail _ (List.mem_append_right _ (hsub p hp))))))) N9 N9
    subst q3
    have N10 := news_sub (b := (t8, ({ cls := .type "tuple", data := .seq #[.int n2 tn, .ref page, .ref c, .ref d8] } : Obj)) :: (d8, oD) :: (c, ({ cls := .type "tuple", data := .seq (obj :: zs).toArray } : Obj)) :: (told, W.listOf (tl ++ [Value.str (Str.ofString "cleared") tc] ++ [Value.ref t8]).toArray nn8) :: (th, ({ cls := .type "tuple", data := .seq #[obj] } : Obj)) :: (cl, W.listOf vs.toArray nl) :: (nm, oN) :: (pl, ({ cls := .type "tuple", data := .seq zs.toArray } : Obj)) :: (86, tabObj tab) :: (dG, oG) :: (dS, oS) :: (tA, oA) :: (tB, oB) :: (types, W.listOf its nt) :: (own8 ++ (own5 ++ rest))) N9 (by
      intro q hq
      rcases List.mem_cons.mp hq with rfl | hq
      · exact .head _
      rcases List.mem_cons.mp hq with rfl | hq
      · exact .tail _ (.head _)
      rcases List.mem_cons.mp hq with rfl | hq
      · exact .tail _ (.tail _ (.head _))
      rcases List.mem_cons.mp hq with rfl | hq
      · exact .tail _ (.tail _ (.tail _ (.head _)))
      refine .tail _ (.tail _ (.tail _ (.tail _ ?_)))
      by_cases z : q ∈ own8
      · exact List.mem_append_left _ z
      · refine List.mem_append_right _ (inR q ?_)
        simp only [List.mem_cons, List.mem_append, z, false_or] at hq ⊢
        exact hq)
    obtain ⟨TB2, T02, B2, XB2, TT2, F5, ab2, st2⟩ := K8
    have X2 := XB2.keeps B2.stays
    have T2 := TT2.keeps B2.stays
    have hc2 : CodeHd base2 90 86 := codeHd_turn hc90 TB2 (let ⟨mc, h1, _⟩ := TB.nolimit; ⟨mc, h1⟩)
    clear F7 N8 hc90 XB TB T' X' B'
    k_steps
    rename (List.map _ _)[_]? = some _ => e1
    rename List.map _ _ = Txt.split _ _ => e2
    rw [e2, hrx] at e1
    obtain rfl := Option.some.inj e1
    unfold Halt
    refine eq_str_other hmx ?_
    k_steps
    rename Fr g2 L' _ _ => F11
    rename News g2 L' _ (_ :: _) => N11
    rename_i sp hsp lsp hh2
    unfold Halt
    have hofs : ∀ q ∈ (t8, ({ cls := .type "tuple", data := .seq #[.int n2 tn, .ref page, .ref c, .ref d8] } : Obj)) :: (d8, oD) :: (c, ({ cls := .type "tuple", data := .seq (obj :: zs).toArray } : Obj)) :: (told, W.listOf (tl ++ [Value.str (Str.ofString "cleared") tc] ++ [Value.ref t8]).toArray nn8) :: (th, ({ cls := .type "tuple", data := .seq #[obj] } : Obj)) :: (cl, W.listOf vs.toArray nl) :: (nm, oN) :: (pl, ({ cls := .type "tuple", data := .seq zs.toArray } : Obj)) :: (86, tabObj tab) :: (dG, oG) :: (dS, oS) :: (tA, oA) :: (tB, oB) :: (types, W.listOf its nt) :: (own8 ++ (own5 ++ rest)), q.1 ≠ sp := fun q hq => Nat.ne_of_lt (allLt_get (l := (t8, ({ cls := .type "tuple", data := .seq #[.int n2 tn, .ref page, .ref c, .ref d8] } : Obj)) :: (d8, oD) :: (c, ({ cls := .type "tuple", data := .seq (obj :: zs).toArray } : Obj)) :: (told, W.listOf (tl ++ [Value.str (Str.ofString "cleared") tc] ++ [Value.ref t8]).toArray nn8) :: (th, ({ cls := .type "tuple", data := .seq #[obj] } : Obj)) :: (cl, W.listOf vs.toArray nl) :: (nm, oN) :: (pl, ({ cls := .type "tuple", data := .seq zs.toArray } : Obj)) :: (86, tabObj tab) :: (dG, oG) :: (dS, oS) :: (tA, oA) :: (tB, oB) :: (types, W.listOf its nt) :: (own8 ++ (own5 ++ rest))) lsp.2 q hq)
    have N12 := news_sub (b := (sp, W.listOf #[] 0) :: (t8, ({ cls := .type "tuple", data := .seq #[.int n2 tn, .ref page, .ref c, .ref d8] } : Obj)) :: (d8, oD) :: (c, ({ cls := .type "tuple", data := .seq (obj :: zs).toArray } : Obj)) :: (told, W.listOf (tl ++ [Value.str (Str.ofString "cleared") tc] ++ [Value.ref t8]).toArray nn8) :: (th, ({ cls := .type "tuple", data := .seq #[obj] } : Obj)) :: (cl, W.listOf vs.toArray nl) :: (nm, oN) :: (pl, ({ cls := .type "tuple", data := .seq zs.toArray } : Obj)) :: (86, tabObj tab) :: (dG, oG) :: (dS, oS) :: (tA, oA) :: (tB, oB) :: (types, W.listOf its nt) :: (own8 ++ (own5 ++ rest))) N11 (by walk_at "perm")
    clear N11
    refine spell_iter (sp := sp) (nn := nl) (vs := vs) (names := chainOf T) (rest := (t8, ({ cls := .type "tuple", data := .seq #[.int n2 tn, .ref page, .ref c, .ref d8] } : Obj)) :: (d8, oD) :: (c, ({ cls := .type "tuple", data := .seq (obj :: zs).toArray } : Obj)) :: (told, W.listOf (tl ++ [Value.str (Str.ofString "cleared") tc] ++ [Value.ref t8]).toArray nn8) :: (th, ({ cls := .type "tuple", data := .seq #[obj] } : Obj)) :: (cl, W.listOf vs.toArray nl) :: (nm, oN) :: (pl, ({ cls := .type "tuple", data := .seq zs.toArray } : Obj)) :: (86, tabObj tab) :: (dG, oG) :: (dS, oS) :: (tA, oA) :: (tB, oB) :: (types, W.listOf its nt) :: (own8 ++ (own5 ++ rest))) rfl ?hl hofs hs5 F11 N12 ?turn ?done
    case hl => k_mem
    case turn =>
      intro i2 nm2 t2 us n3 h9 tk9 own9 hn2 hus ho9 F12 N13
      have hz1 := ty_size nm2 (chain_ty T hT nm2 (List.mem_of_getElem? hn2))
      have hus1 : us.length ≤ 10 := spell_len hT hus (by rw [List.length_take]; omega)
      have hof9 : ∀ q ∈ own9 ++ (t8, ({ cls := .type "tuple", data := .seq #[.int n2 tn, .ref page, .ref c, .ref d8] } : Obj)) :: (d8, oD) :: (c, ({ cls := .type "tuple", data := .seq (obj :: zs).toArray } : Obj)) :: (told, W.listOf (tl ++ [Value.str (Str.ofString "cleared") tc] ++ [Value.ref t8]).toArray nn8) :: (th, ({ cls := .type "tuple", data := .seq #[obj] } : Obj)) :: (cl, W.listOf vs.toArray nl) :: (nm, oN) :: (pl, ({ cls := .type "tuple", data := .seq zs.toArray } : Obj)) :: (86, tabObj tab) :: (dG, oG) :: (dS, oS) :: (tA, oA) :: (tB, oB) :: (types, W.listOf its nt) :: (own8 ++ (own5 ++ rest)), q.1 ≠ sp := fun q hq => (List.mem_append.mp hq).elim (ho9 q) (hofs q)
      clear F11 N12
      k_steps
      rename Fr g2 L' _ _ => F13
      rename News g2 L' _ (_ :: _) => N14
      refine ⟨_, _, _, us ++ [_, _], _, _, rfl, F13, fun y hy => ?_, N14, .tail _ (.head _), fun q hq => ?_, fun q hq => ?_, KeysAre.append hus (KeysAre.cons (mix_str _ _) (KeysAre.cons (mix_str _ _) KeysAre.nil))⟩
      · by_cases z : y = Str.ofString "spelled"
        · simp only [if_pos z]
        · simp only [if_neg z, if_neg hy]
      · exact .tail _ (.tail _ (List.mem_append_right _ hq))
      · exact .tail _ (.tail _ (List.mem_append_left _ hq))
    case done =>
      intro uu us n3 h9 tk9 hus F12 N13
      have hus1 : us.length ≤ 10 := spell_len hT hus (Nat.le_refl _)
      clear F11 N12
      k_steps
      rename Fr g2 L' _ _ => F13
      rename News g2 L' _ (_ :: _) => N14
      unfold Halt
      refine add_list (us := us) (ws := [.none]) F13 N14 (.tail _ (.head _)) (.head _) (by simp only [List.length_cons, List.length_nil]; omega) ?_
      intro D2 h10 F14 N15
      clear F13 N14
      k_steps
      rename Fr g2 L' _ _ => F15
      rename News g2 L' _ (_ :: _) => N16
      unfold Halt
      refine' found_ok (ks := keysOf T) ?C N16 ?mT hdB ?sA (.head _) (KeysAre.append hus (KeysAre.cons mix_none KeysAre.nil)) ?_
      case C => walk_at "mine cx"
      case mT => k_mem
      case sA => exact I0.sys tB (by simp [Adr.all])
      intro h11 tk11 own11 F16 N17
      have N18 := news_sub (b := (t8, ({ cls := .type "tuple", data := .seq #[.int n2 tn, .ref page, .ref c, .ref d8] } : Obj)) :: (d8, oD) :: (c, ({ cls := .type "tuple", data := .seq (obj :: zs).toArray } : Obj)) :: (told, W.listOf (tl ++ [Value.str (Str.ofString "cleared") tc] ++ [Value.ref t8]).toArray nn8) :: (th, ({ cls := .type "tuple", data := .seq #[obj] } : Obj)) :: (cl, W.listOf vs.toArray nl) :: (nm, oN) :: (pl, ({ cls := .type "tuple", data := .seq zs.toArray } : Obj)) :: (86, tabObj tab) :: (dG, oG) :: (dS, oS) :: (tA, oA) :: (tB, oB) :: (types, W.listOf its nt) :: (own8 ++ (own5 ++ rest))) N17 (fun q hq => List.mem_append_right _ (.tail _ (.tail _ (.tail _ hq))))
      clear F15 N16 N17
      rw [q2]
      simp only [Option.getD_some]
      have hmk : Halt True := True.intro
      k_steps
      rename Fr g2 L' _ _ => F19
      rename News g2 L' _ (_ :: _) => N19
      unfold Halt
      refine len_told2 (tl := tl) N19 (.tail _ (.tail _ (.tail _ (.head _)))) (by omega) ?_
      intro t20 k20
      k_steps
      rename Fr g2 L' _ _ => F20
      rename News g2 L' _ (_ :: _) => N20
      unfold Halt
      refine add_one F20 N20 (.head _) (.tail _ (.tail _ (.tail _ (.tail _ (.tail _ (.tail _ (.tail _ (.tail _ (.tail _ (.head _)))))))))) (by omega) ?_
      intro D3 h21 F21 N21
      k_steps
      rename Fr g2 L' _ _ => F22
      rename News g2 L' _ (_ :: _) => N22
      unfold Halt
      refine eq_told (ps := obj :: zs) N22 (.tail _ (.tail _ (.tail _ (.head _)))) (.head _) (.tail _ (.tail _ (.tail _ (.tail _ (.tail _ (.tail _ (.head _))))))) (.tail _ (.head _)) (.tail _ (.tail _ (.tail _ (.tail _ (.tail _ (.head _)))))) (.tail _ (.tail _ (.tail _ (.tail _ (.tail _ (.tail _ (.tail _ (.tail _ (.tail _ (.tail _ (.head _))))))))))) hoD hN hs8 hsn hk ?hu ?_
      case hu => first | exact Nat.le_trans (Nat.add_le_add_right hup 3) (by decide) | (simp only [units_deeper]; omega)
      k_steps
      have hab : Above (own8 ++ ((th, ({ cls := .type "tuple", data := .seq #[obj] } : Obj)) :: (cl, W.listOf vs.toArray nl) :: (nm, oN) :: (pl, ({ cls := .type "tuple", data := .seq zs.toArray } : Obj)) :: own5)) ((told, W.listOf tl.toArray nn) :: (86, tabObj tab) :: (dG, oG) :: (dS, oS) :: (tA, oA) :: (tB, oB) :: (types, W.listOf its nt) :: rest) := by
        intro q1 hq1 q hq
        rcases List.mem_append.mp hq1 with hq1 | hq1
        · refine ab2 q1 hq1 q ?_
          rcases List.mem_cons.mp hq with rfl | hq
          · exact .head _
          · exact .tail _ (inR q ((show ∀ q ∈ (86, tabObj tab) :: (dG, oG) :: (dS, oS) :: (tA, oA) :: (tB, oB) :: (types, W.listOf its nt) :: rest, q ∈ _ by walk_at "perm") q hq))
        · have h5' : q ∈ (nm, oN) :: (pl, ({ cls := .type "tuple", data := .seq zs.toArray } : Obj)) :: (told, W.listOf tl.toArray nn) :: (86, tabObj tab) :: (dG, oG) :: (dS, oS) :: (tA, oA) :: (tB, oB) :: (types, W.listOf its nt) :: rest := .tail _ (.tail _ hq)
          rcases List.mem_cons.mp hq1 with rfl | hq1
          · exact allLt_get (l := (told, W.listOf tl.toArray nn) :: (86, tabObj tab) :: (dG, oG) :: (dS, oS) :: (tA, oA) :: (tB, oB) :: (types, W.listOf its nt) :: (own5 ++ rest)) lth.2.2.2.2 q ((show ∀ q ∈ (told, W.listOf tl.toArray nn) :: (86, tabObj tab) :: (dG, oG) :: (dS, oS) :: (tA, oA) :: (tB, oB) :: (types, W.listOf its nt) :: rest, q ∈ _ by walk_at "perm") q hq)
          rcases List.mem_cons.mp hq1 with rfl | hq1
          · exact ab5 _ mc q h5'
          rcases List.mem_cons.mp hq1 with rfl | hq1
          · exact l2 q (.tail _ hq)
          rcases List.mem_cons.mp hq1 with rfl | hq1
          · exact allLt_get lz q hq
          · exact ab5 _ hq1 q h5'
      obtain ⟨h₀', K0⟩ := Back.up (news := (told, W.listOf tl.toArray nn) :: (86, tabObj tab) :: (dG, oG) :: (dS, oS) :: (tA, oA) :: (tB, oB) :: (types, W.listOf its nt) :: rest) (own' := (own8 ++ ((th, ({ cls := .type "tuple", data := .seq #[obj] } : Obj)) :: (cl, W.listOf vs.toArray nl) :: (nm, oN) :: (pl, ({ cls := .type "tuple", data := .seq zs.toArray } : Obj)) :: own5))) C0 FG' (newsI := (told, W.listOf tl.toArray nn) :: R) (own := own8) ⟨TB2, T02, B2, XB2, TT2, F22, ab2, st2⟩ hab (by
        intro q hq
        rcases List.mem_append.mp hq with hq | hq
        · exact List.mem_append_left _ (List.mem_append_left _ hq)
        · exact (show ∀ q ∈ _, q ∈ (own8 ++ ((th, ({ cls := .type "tuple", data := .seq #[obj] } : Obj)) :: (cl, W.listOf vs.toArray nl) :: (nm, oN) :: (pl, ({ cls := .type "tuple", data := .seq zs.toArray } : Obj)) :: own5)) ++ ((told, W.listOf tl.toArray nn) :: (86, tabObj tab) :: (dG, oG) :: (dS, oS) :: (tA, oA) :: (tB, oB) :: (types, W.listOf its nt) :: rest) by walk_at "perm") q (r3 q hq))
      obtain ⟨Fz, Nz⟩ := K0.led F22 N22 (ny := (told, W.listOf (tl ++ [Value.str (Str.ofString "cleared") tc] ++ [Value.ref t8]).toArray nn8) :: (86, tabObj tab) :: (dG, oG) :: (dS, oS) :: (tA, oA) :: (tB, oB) :: (types, W.listOf its nt) :: ((own8 ++ ((th, ({ cls := .type "tuple", data := .seq #[obj] } : Obj)) :: (cl, W.listOf vs.toArray nl) :: (nm, oN) :: (pl, ({ cls := .type "tuple", data := .seq zs.toArray } : Obj)) :: own5)) ++ rest)) (by walk_at "perm")
      exact h base2 h₀' _ _ (own8 ++ ((th, ({ cls := .type "tuple", data := .seq #[obj] } : Obj)) :: (cl, W.listOf vs.toArray nl) :: (nm, oN) :: (pl, ({ cls := .type "tuple", data := .seq zs.toArray } : Obj)) :: own5)) (St.mk (tl ++ [Value.str (Str.ofString "cleared") tc] ++ [Value.ref t8]) nn8 tab oG oS oA oB kG kS kA kB its nt) ⟨K0.TB, K0.T0, K0.B, K0.XB, K0.TT, Fz, K0.ab, K0.st⟩ Nz (inv_told (tl' := tl ++ [Value.str (Str.ofString "cleared") tc] ++ [Value.ref t8]) (nn' := nn8) I0 hn (I0.abv hab) (by simp)) (I0.stat K0.st) rfl
  case E =>
    intro y hy base2 g2 h8 tk8 u8 own8 K8 N9
    have N10 := news_sub (b := (told, W.listOf tl.toArray nn) :: (th, ({ cls := .type "tuple", data := .seq #[obj] } : Obj)) :: (cl, W.listOf vs.toArray nl) :: (nm, oN) :: (pl, ({ cls := .type "tuple", data := .seq zs.toArray } : Obj)) :: (86, tabObj tab) :: (dG, oG) :: (dS, oS) :: (tA, oA) :: (tB, oB) :: (types, W.listOf its nt) :: (own8 ++ (own5 ++ rest))) N9 (by
      intro q hq
      rcases List.mem_cons.mp hq with rfl | hq
      · exact List.mem_append_right _ (.head _)
      by_cases z : q ∈ own8
      · exact List.mem_append_left _ z
      · refine List.mem_append_right _ (List.mem_cons_of_mem _ (inR q ?_))
        simp only [List.mem_cons, List.mem_append, z, false_or] at hq ⊢
        exact hq)
    obtain ⟨TB2, T02, B2, XB2, TT2, F5, ab2, st2⟩ := K8
    have X2 := XB2.keeps B2.stays
    have T2 := TT2.keeps B2.stays
    have hc2 : CodeHd base2 90 86 := codeHd_turn hc90 TB2 (let ⟨mc, h1, _⟩ := TB.nolimit; ⟨mc, h1⟩)
    clear F7 N8 N9 hc90 XB TB T' X' B'
    rcases hy with ⟨hmx, rfl⟩ | ⟨hmx, ev, rfl⟩
    · k_steps
      rename (List.map _ _)[_]? = some _ => e1
      rename List.map _ _ = Txt.split _ _ => e2
      rw [e2, hrx] at e1
      obtain rfl := Option.some.inj e1
      unfold Halt
      refine eq_str_same hmx ?_
      k_steps
      unfold Halt
      refine eq_str_same multi_key ?_
      k_steps
      rename Fr g2 L' _ _ => F22
      rename News g2 L' _ (_ :: _) => N22
      have hab : Above (own8 ++ ((th, ({ cls := .type "tuple", data := .seq #[obj] } : Obj)) :: (cl, W.listOf vs.toArray nl) :: (nm, oN) :: (pl, ({ cls := .type "tuple", data := .seq zs.toArray } : Obj)) :: own5)) ((told, W.listOf tl.toArray nn) :: (86, tabObj tab) :: (dG, oG) :: (dS, oS) :: (tA, oA) :: (tB, oB) :: (types, W.listOf its nt) :: rest) := by
        intro q1 hq1 q hq
        rcases List.mem_append.mp hq1 with hq1 | hq1
        · refine ab2 q1 hq1 q ?_
          rcases List.mem_cons.mp hq with rfl | hq
          · exact .head _
          · exact .tail _ (inR q ((show ∀ q ∈ (86, tabObj tab) :: (dG, oG) :: (dS, oS) :: (tA, oA) :: (tB, oB) :: (types, W.listOf its nt) :: rest, q ∈ _ by walk_at "perm") q hq))
        · have h5' : q ∈ (nm, oN) :: (pl, ({ cls := .type "tuple", data := .seq zs.toArray } : Obj)) :: (told, W.listOf tl.toArray nn) :: (86, tabObj tab) :: (dG, oG) :: (dS, oS) :: (tA, oA) :: (tB, oB) :: (types, W.listOf its nt) :: rest := .tail _ (.tail _ hq)
          rcases List.mem_cons.mp hq1 with rfl | hq1
          · exact allLt_get (l := (told, W.listOf tl.toArray nn) :: (86, tabObj tab) :: (dG, oG) :: (dS, oS) :: (tA, oA) :: (tB, oB) :: (types, W.listOf its nt) :: (own5 ++ rest)) lth.2.2.2.2 q ((show ∀ q ∈ (told, W.listOf tl.toArray nn) :: (86, tabObj tab) :: (dG, oG) :: (dS, oS) :: (tA, oA) :: (tB, oB) :: (types, W.listOf its nt) :: rest, q ∈ _ by walk_at "perm") q hq)
          rcases List.mem_cons.mp hq1 with rfl | hq1
          · exact ab5 _ mc q h5'
          rcases List.mem_cons.mp hq1 with rfl | hq1
          · exact l2 q (.tail _ hq)
          rcases List.mem_cons.mp hq1 with rfl | hq1
          · exact allLt_get lz q hq
          · exact ab5 _ hq1 q h5'
      obtain ⟨h₀', K0⟩ := Back.up (news := (told, W.listOf tl.toArray nn) :: (86, tabObj tab) :: (dG, oG) :: (dS, oS) :: (tA, oA) :: (tB, oB) :: (types, W.listOf its nt) :: rest) (own' := (own8 ++ ((th, ({ cls := .type "tuple", data := .seq #[obj] } : Obj)) :: (cl, W.listOf vs.toArray nl) :: (nm, oN) :: (pl, ({ cls := .type "tuple", data := .seq zs.toArray } : Obj)) :: own5))) C0 FG' (newsI := (told, W.listOf tl.toArray nn) :: R) (own := own8) ⟨TB2, T02, B2, XB2, TT2, F22, ab2, st2⟩ hab (by
        intro q hq
        rcases List.mem_append.mp hq with hq | hq
        · exact List.mem_append_left _ (List.mem_append_left _ hq)
        · exact (show ∀ q ∈ _, q ∈ (own8 ++ ((th, ({ cls := .type "tuple", data := .seq #[obj] } : Obj)) :: (cl, W.listOf vs.toArray nl) :: (nm, oN) :: (pl, ({ cls := .type "tuple", data := .seq zs.toArray } : Obj)) :: own5)) ++ ((told, W.listOf tl.toArray nn) :: (86, tabObj tab) :: (dG, oG) :: (dS, oS) :: (tA, oA) :: (tB, oB) :: (types, W.listOf its nt) :: rest) by walk_at "perm") q (r3 q hq))
      obtain ⟨Fz, Nz⟩ := K0.led F22 N22 (ny := (told, W.listOf tl.toArray nn) :: (86, tabObj tab) :: (dG, oG) :: (dS, oS) :: (tA, oA) :: (tB, oB) :: (types, W.listOf its nt) :: ((own8 ++ ((th, ({ cls := .type "tuple", data := .seq #[obj] } : Obj)) :: (cl, W.listOf vs.toArray nl) :: (nm, oN) :: (pl, ({ cls := .type "tuple", data := .seq zs.toArray } : Obj)) :: own5)) ++ rest)) (by walk_at "perm")
      exact h base2 h₀' _ _ (own8 ++ ((th, ({ cls := .type "tuple", data := .seq #[obj] } : Obj)) :: (cl, W.listOf vs.toArray nl) :: (nm, oN) :: (pl, ({ cls := .type "tuple", data := .seq zs.toArray } : Obj)) :: own5)) (St.mk tl nn tab oG oS oA oB kG kS kA kB its nt) ⟨K0.TB, K0.T0, K0.B, K0.XB, K0.TT, Fz, K0.ab, K0.st⟩ Nz (inv_told (tl' := tl) (nn' := nn) I0 hn (I0.abv hab) (Nat.le_add_right _ _)) (I0.stat K0.st) rfl
    · have q2 : (keysOf T).findSome? (valueAt kB) = none := by
        rcases eS.find (keysOf T) with ⟨_, q2⟩ | ⟨f', n', t', q1, q2, hH'⟩
        · exact q2
        · rw [q1] at ev; cases ev
      have hTt := kind_ty T hT
      have hz2 := ty_size2 T hTt
      have hz3 := ty_size3 T hTt
      obtain ⟨tq, hv0⟩ : ∃ tq, vs[0]? = some (.str (Str.ofString T) tq) := hs5.get 0 _ (by rw [List.getElem?_map, chain_head T hT]; rfl)
      k_steps
      rename (List.map _ _)[_]? = some _ => e1
      rename List.map _ _ = Txt.split _ _ => e2
      rw [e2, hrx] at e1
      obtain rfl := Option.some.inj e1
      unfold Halt
      refine eq_str_other hmx ?_
      k_steps
      rename Fr g2 L' _ _ => F11
      rename News g2 L' _ (_ :: _) => N11
      rename_i sp hsp lsp hh2
      unfold Halt
      have hofs : ∀ q ∈ (told, W.listOf tl.toArray nn) :: (th, ({ cls := .type "tuple", data := .seq #[obj] } : Obj)) :: (cl, W.listOf vs.toArray nl) :: (nm, oN) :: (pl, ({ cls := .type "tuple", data := .seq zs.toArray } : Obj)) :: (86, tabObj tab) :: (dG, oG) :: (dS, oS) :: (tA, oA) :: (tB, oB) :: (types, W.listOf its nt) :: (own8 ++ (own5 ++ rest)), q.1 ≠ sp := fun q hq => Nat.ne_of_lt (allLt_get (l := (told, W.listOf tl.toArray nn) :: (th, ({ cls := .type "tuple", data := .seq #[obj] } : Obj)) :: (cl, W.listOf vs.toArray nl) :: (nm, oN) :: (pl, ({ cls := .type "tuple", data := .seq zs.toArray } : Obj)) :: (86, tabObj tab) :: (dG, oG) :: (dS, oS) :: (tA, oA) :: (tB, oB) :: (types, W.listOf its nt) :: (own8 ++ (own5 ++ rest))) lsp.2 q hq)
      have N12 := news_sub (b := (sp, W.listOf #[] 0) :: (told, W.listOf tl.toArray nn) :: (th, ({ cls := .type "tuple", data := .seq #[obj] } : Obj)) :: (cl, W.listOf vs.toArray nl) :: (nm, oN) :: (pl, ({ cls := .type "tuple", data := .seq zs.toArray } : Obj)) :: (86, tabObj tab) :: (dG, oG) :: (dS, oS) :: (tA, oA) :: (tB, oB) :: (types, W.listOf its nt) :: (own8 ++ (own5 ++ rest))) N11 (by walk_at "perm")
      clear N11
      refine spell_iter (sp := sp) (nn := nl) (vs := vs) (names := chainOf T) (rest := (told, W.listOf tl.toArray nn) :: (th, ({ cls := .type "tuple", data := .seq #[obj] } : Obj)) :: (cl, W.listOf vs.toArray nl) :: (nm, oN) :: (pl, ({ cls := .type "tuple", data := .seq zs.toArray } : Obj)) :: (86, tabObj tab) :: (dG, oG) :: (dS, oS) :: (tA, oA) :: (tB, oB) :: (types, W.listOf its nt) :: (own8 ++ (own5 ++ rest))) rfl ?hl hofs hs5 F11 N12 ?turn ?done
      case hl => k_mem
      case turn =>
        intro i2 nm2 t2 us n3 h9 tk9 own9 hn2 hus ho9 F12 N13
        have hz1 := ty_size nm2 (chain_ty T hT nm2 (List.mem_of_getElem? hn2))
        have hus1 : us.length ≤ 10 := spell_len hT hus (by rw [List.length_take]; omega)
        have hof9 : ∀ q ∈ own9 ++ (told, W.listOf tl.toArray nn) :: (th, ({ cls := .type "tuple", data := .seq #[obj] } : Obj)) :: (cl, W.listOf vs.toArray nl) :: (nm, oN) :: (pl, ({ cls := .type "tuple", data := .seq zs.toArray } : Obj)) :: (86, tabObj tab) :: (dG, oG) :: (dS, oS) :: (tA, oA) :: (tB, oB) :: (types, W.listOf its nt) :: (own8 ++ (own5 ++ rest)), q.1 ≠ sp := fun q hq => (List.mem_append.mp hq).elim (ho9 q) (hofs q)
        clear F11 N12
        k_steps
        rename Fr g2 L' _ _ => F13
        rename News g2 L' _ (_ :: _) => N14
        refine ⟨_, _, _, us ++ [_, _], _, _, rfl, F13, fun y hy => ?_, N14, .tail _ (.head _), fun q hq => ?_, fun q hq => ?_, KeysAre.append hus (KeysAre.cons (mix_str _ _) (KeysAre.cons (mix_str _ _) KeysAre.nil))⟩
        · by_cases z : y = Str.ofString "spelled"
          · simp only [if_pos z]
          · simp only [if_neg z, if_neg hy]
        · exact .tail _ (.tail _ (List.mem_append_right _ hq))
        · exact .tail _ (.tail _ (List.mem_append_left _ hq))
      case done =>
        intro uu us n3 h9 tk9 hus F12 N13
        have hus1 : us.length ≤ 10 := spell_len hT hus (Nat.le_refl _)
        clear F11 N12
        k_steps
        rename Fr g2 L' _ _ => F13
        rename News g2 L' _ (_ :: _) => N14
        unfold Halt
        refine add_list (us := us) (ws := [.none]) F13 N14 (.tail _ (.head _)) (.head _) (by simp only [List.length_cons, List.length_nil]; omega) ?_
        intro D2 h10 F14 N15
        clear F13 N14
        k_steps
        rename Fr g2 L' _ _ => F15
        rename News g2 L' _ (_ :: _) => N16
        unfold Halt
        refine' found_ok (ks := keysOf T) ?C N16 ?mT hdB ?sA (.head _) (KeysAre.append hus (KeysAre.cons mix_none KeysAre.nil)) ?_
        case C => walk_at "mine cx"
        case mT => k_mem
        case sA => exact I0.sys tB (by simp [Adr.all])
        intro h11 tk11 own11 F16 N17
        have N18 := news_sub (b := (told, W.listOf tl.toArray nn) :: (th, ({ cls := .type "tuple", data := .seq #[obj] } : Obj)) :: (cl, W.listOf vs.toArray nl) :: (nm, oN) :: (pl, ({ cls := .type "tuple", data := .seq zs.toArray } : Obj)) :: (86, tabObj tab) :: (dG, oG) :: (dS, oS) :: (tA, oA) :: (tB, oB) :: (types, W.listOf its nt) :: (own8 ++ (own5 ++ rest))) N17 (fun q hq => List.mem_append_right _ (.tail _ (.tail _ (.tail _ hq))))
        clear F15 N16 N17
        rw [q2]
        simp only [Option.getD_none]
        have hmk : Halt (True ∧ True) := ⟨True.intro, True.intro⟩
        k_steps
        unfold Halt
        refine eq_str_same (kind_key T hT) ?_
        k_steps
        rename Fr g2 L' _ _ => F22
        rename News g2 L' _ (_ :: _) => N22
        have hab : Above (own8 ++ ((th, ({ cls := .type "tuple", data := .seq #[obj] } : Obj)) :: (cl, W.listOf vs.toArray nl) :: (nm, oN) :: (pl, ({ cls := .type "tuple", data := .seq zs.toArray } : Obj)) :: own5)) ((told, W.listOf tl.toArray nn) :: (86, tabObj tab) :: (dG, oG) :: (dS, oS) :: (tA, oA) :: (tB, oB) :: (types, W.listOf its nt) :: rest) := by
          intro q1 hq1 q hq
          rcases List.mem_append.mp hq1 with hq1 | hq1
          · refine ab2 q1 hq1 q ?_
            rcases List.mem_cons.mp hq with rfl | hq
            · exact .head _
            · exact .tail _ (inR q ((show ∀ q ∈ (86, tabObj tab) :: (dG, oG) :: (dS, oS) :: (tA, oA) :: (tB, oB) :: (types, W.listOf its nt) :: rest, q ∈ _ by walk_at "perm") q hq))
          · have h5' : q ∈ (nm, oN) :: (pl, ({ cls := .type "tuple", data := .seq zs.toArray } : Obj)) :: (told, W.listOf tl.toArray nn) :: (86, tabObj tab) :: (dG, oG) :: (dS, oS) :: (tA, oA) :: (tB, oB) :: (types, W.listOf its nt) :: rest := .tail _ (.tail _ hq)
            rcases List.mem_cons.mp hq1 with rfl | hq1
            · exact allLt_get (l := (told, W.listOf tl.toArray nn) :: (86, tabObj tab) :: (dG, oG) :: (dS, oS) :: (tA, oA) :: (tB, oB) :: (types, W.listOf its nt) :: (own5 ++ rest)) lth.2.2.2.2 q ((show ∀ q ∈ (told, W.listOf tl.toArray nn) :: (86, tabObj tab) :: (dG, oG) :: (dS, oS) :: (tA, oA) :: (tB, oB) :: (types, W.listOf its nt) :: rest, q ∈ _ by walk_at "perm") q hq)
            rcases List.mem_cons.mp hq1 with rfl | hq1
            · exact ab5 _ mc q h5'
            rcases List.mem_cons.mp hq1 with rfl | hq1
            · exact l2 q (.tail _ hq)
            rcases List.mem_cons.mp hq1 with rfl | hq1
            · exact allLt_get lz q hq
            · exact ab5 _ hq1 q h5'
        obtain ⟨h₀', K0⟩ := Back.up (news := (told, W.listOf tl.toArray nn) :: (86, tabObj tab) :: (dG, oG) :: (dS, oS) :: (tA, oA) :: (tB, oB) :: (types, W.listOf its nt) :: rest) (own' := (own8 ++ ((th, ({ cls := .type "tuple", data := .seq #[obj] } : Obj)) :: (cl, W.listOf vs.toArray nl) :: (nm, oN) :: (pl, ({ cls := .type "tuple", data := .seq zs.toArray } : Obj)) :: own5))) C0 FG' (newsI := (told, W.listOf tl.toArray nn) :: R) (own := own8) ⟨TB2, T02, B2, XB2, TT2, F22, ab2, st2⟩ hab (by
          intro q hq
          rcases List.mem_append.mp hq with hq | hq
          · exact List.mem_append_left _ (List.mem_append_left _ hq)
          · exact (show ∀ q ∈ _, q ∈ (own8 ++ ((th, ({ cls := .type "tuple", data := .seq #[obj] } : Obj)) :: (cl, W.listOf vs.toArray nl) :: (nm, oN) :: (pl, ({ cls := .type "tuple", data := .seq zs.toArray } : Obj)) :: own5)) ++ ((told, W.listOf tl.toArray nn) :: (86, tabObj tab) :: (dG, oG) :: (dS, oS) :: (tA, oA) :: (tB, oB) :: (types, W.listOf its nt) :: rest) by walk_at "perm") q (r3 q hq))
        obtain ⟨Fz, Nz⟩ := K0.led F22 N22 (ny := (told, W.listOf tl.toArray nn) :: (86, tabObj tab) :: (dG, oG) :: (dS, oS) :: (tA, oA) :: (tB, oB) :: (types, W.listOf its nt) :: ((own8 ++ ((th, ({ cls := .type "tuple", data := .seq #[obj] } : Obj)) :: (cl, W.listOf vs.toArray nl) :: (nm, oN) :: (pl, ({ cls := .type "tuple", data := .seq zs.toArray } : Obj)) :: own5)) ++ rest)) (by walk_at "perm")
        exact h base2 h₀' _ _ (own8 ++ ((th, ({ cls := .type "tuple", data := .seq #[obj] } : Obj)) :: (cl, W.listOf vs.toArray nl) :: (nm, oN) :: (pl, ({ cls := .type "tuple", data := .seq zs.toArray } : Obj)) :: own5)) (St.mk tl nn tab oG oS oA oB kG kS kA kB its nt) ⟨K0.TB, K0.T0, K0.B, K0.XB, K0.TT, Fz, K0.ab, K0.st⟩ Nz (inv_told (tl' := tl) (nn' := nn) I0 hn (I0.abv hab) (Nat.le_add_right _ _)) (I0.stat K0.st) rfl
end
end

-- L_post
section
set_option maxHeartbeats 4000000
/-- how the law ends: true, over a ground that has turned -/
noncomputable def LawEnd (g : Heap) (tabs : List (Addr × Addr)) (s₁ : Shared) (r : Result) (s' : Shared) : Prop :=
  r = .ok (.ret (.bool true)) ∧ (∃ g', Turn [] g g' ∧ ∀ b o, g'.get? b = some o → s'.heap.get? b = some o) ∧ GrownAll tabs s'.heap ∧ s'.os = s₁.os ∧ s'.gens = #[]
theorem law_post {M : Model} {A : Around} {cd : Code} {s s₁ : Shared} {cw : ClaimW} {cl : Str → Option Addr} {mean : ExcName → Option Value} {args : List WData} {tabs : List (Addr × Addr)} (hT : TabsAt tabs s₁.heap)
    (hn : ∃ mc, (ghostOf s₁.heap tabs).Ns cStatics mc) (hcl : ∀ o, s₁.heap.get? cStatics = some o → o.cls = .none) (hr : ∀ x, cw.raises args x = false) (hp : cw.post args (.bool true) args = true)
    (h : codeAny M A cd (LawEnd (ghostOf s₁.heap tabs) tabs s₁) s) : codeAny M A cd (GoodWG cw cl mean args s₁) s :=
  codeAny_mono h fun r s' ⟨hres, ⟨g', T, hk⟩, hgr, hos, hg⟩ => by
    have stay : ∀ b o, b ∉ tabs.map (·.2) → b ≠ cStatics → s₁.heap.get? b = some o → s'.heap.get? b = some o := fun b o hb hc e => hk b o (T.other b o (ghost_ne e hb) hc List.not_mem_nil)
    have grown : ∀ b o, b ∈ tabs.map (·.2) → s₁.heap.get? b = some o → isCodeTable s₁.heap b ∧ o = tabObj #[] ∧ ∃ ps, s'.heap.get? b = some (tabObj ps) := fun b o hb e => by
      obtain ⟨q, hq, rfl⟩ := List.mem_map.mp hb
      have e2 := (hT q hq).2
      rw [e] at e2
      exact ⟨((hT q hq).1.tab (hT q hq).2).isCodeTable, Option.some.inj e2, hgr.get q hq⟩
    obtain ⟨mc, hn⟩ := hn
    obtain ⟨mc', hn', hs⟩ := T.stat mc hn
    obtain ⟨o0, es0, ep0, e0, hd0, hk0, hm0⟩ := id hn
    obtain ⟨o1, es1, ep1, e1, hd1, hk1, hm1⟩ := id hn'
    have e0' : s₁.heap.get? cStatics = some o0 := of_hideAll _ e0
    have e1' := hk _ _ e1
    have hc1 : o1.cls = .none := by
      obtain ⟨o2, e2, c2⟩ := T.cls o0 e0
      rw [e1] at e2
      cases e2
      rw [c2]; exact hcl o0 e0'
    refine ⟨.inl ⟨_, _, _, hres, hr, .bool true, hp, fun _ => ⟨List.nodup_nil, fun a ha => nomatch ha⟩⟩, ⟨fun b o e => ?_, fun b o e => ?_⟩, hos, .of_eq hg⟩
    · by_cases hb : b ∈ tabs.map (·.2)
      · obtain ⟨ht, rfl, ps, hP⟩ := grown b o hb e
        exact .inr (.inl ⟨ht, rfl, #[], ps, rfl, by rw [Array.empty_append]; exact hP⟩)
      · by_cases hc : b = cStatics
        · subst hc
          refine .inr (.inr ⟨rfl, hcl o e, ⟨o1, es1, ep1, e1', hc1, hd1, ?_⟩, fun key => ?_⟩)
          · exact fun e he => hk1 e he
          · have k0 : staticOf s₁.heap key = mc key := by
              unfold staticOf; rw [e0']; dsimp only; rw [hd0]; exact hm0 key
            have k1 : staticOf s'.heap key = mc' key := by
              unfold staticOf; rw [e1']; dsimp only; rw [hd1]; exact hm1 key
            rw [k0, k1]
            rcases hs key with q | ⟨q1, q2⟩
            · exact .inl q
            · exact .inr ⟨q1, q2⟩
        · exact .inl (stay b o hb hc e)
    · by_cases hb : b ∈ tabs.map (·.2)
      · obtain ⟨_, _, ps, hP⟩ := grown b o hb e
        exact ⟨_, hP⟩
      · by_cases hc : b = cStatics
        · subst hc; exact ⟨_, e1'⟩
        · exact ⟨o, stay b o hb hc e⟩
end

-- L_loop
section
set_option maxHeartbeats 4000000
section
variable {prog : Program} {w : World} {A : Around} {s : Shared} {env : Env}

/-- what stands between two turns of a loop over a ground that turns -/
noncomputable def Stands (P : Heap → (Str → Option Value) → List (Addr × Obj) → Prop) (L : Addr) (fp : List Addr) (own : List (Addr × Obj)) (h : Heap) : Prop :=
  ∃ g m news, P g m news ∧ Fr g L h m ∧ News g L h (own ++ news) ∧ (∀ p ∈ news, p.1 ∉ fp) ∧ ∀ b ∈ fp, g.get? b = none

theorem loop_pairs {E : Value → Shared → Prop} {Q : Flow → Shared → Prop} {xi xc : Str} {pk pv pt : Pos} {x1 : Nat} {body : List Stmt} {I : Addr} {fp wr : List Addr} {n : Nat} {Pt : Nat → Array Value → Prop} {St : Nat → Heap → Prop} {Mid : Nat → Addr → Heap → Prop}
    {P2 : Nat → Value → Value → Prop} (P : Nat → Heap → (Str → Option Value) → List (Addr × Obj) → Prop) (hh : A.handled = none) (W : WalksT prog w A I fp wr n Pt St Mid) (h2 : ∀ i vals, Pt i vals → ∃ v0 v1, vals = #[v0, v1] ∧ P2 i v0 v1)
    (hxi : env.kindOf xi = some .local) (hxc : env.kindOf xc = some .local) (hp : (env.scope.kind == .class || (env.scope.kind == .module && env.locals != env.globals)) = false) (hLf : env.locals ∉ fp) (hE : PassesOwn (model prog w) A env E)
    (hst : St 0 s.heap) (h0 : Stands (P 0) env.locals fp [] s.heap)
    (step : ∀ i v0 v1 g m news h tk own, i < n → P2 i v0 v1 → P i g m news → St (i + 1) h → (∀ b ∈ fp, ∀ o, h.get? b = some o → (b, o) ∈ own) → (∀ p ∈ own, p.1 ∈ fp) → (∀ p ∈ news, p.1 ∉ fp) → (∀ b ∈ fp, g.get? b = none) → Fr g env.locals h (fun y => if y = xc then some v1 else if y = xi then some v0 else m y) → News g env.locals h (own ++ news) →
      wpAny (model prog w) A (execs body env) (fun f s₃ => match f with
        | .ret v => Q (.ret v) s₃
        | .brk => Q .next s₃
        | _ => ∃ h' tk', s₃ = { s with heap := h', toks := tk' } ∧ Stands (P (i + 1)) env.locals fp own h') E { s with heap := h, toks := tk })
    (done : ∀ h' tk g m news, P n g m news → Fr g env.locals h' m → News g env.locals h' news → Q .next { s with heap := h', toks := tk }) :
    codeAny (model prog w) A (.forLoop (.Tuple [.Name xi pk, .Name xc pv] x1 pt) (.ref I) body [] env) (fun r s' => match r with | .ok f => Q f s' | .error e => cameBackBy (model prog w) A env E e s') s := by
  refine codeAny_forLoop_any (fun k s' => ∃ i h' tk, s' = { s with heap := h', toks := tk } ∧ St i h' ∧ Stands (P i) env.locals fp [] h' ∧ i ≤ n ∧ k = n + 1 - i) ?_ (n + 1) ⟨0, s.heap, s.toks, rfl, hst, h0, Nat.zero_le _, rfl⟩
  rintro k s' ⟨i, H, tk, rfl, hst', ⟨g, m, news, hP, F, N, hnf, hgf⟩, hi, rfl⟩
  rw [List.nil_append] at N
  have hLw : env.locals ∉ wr := fun h => hLf (W.sub _ h)
  have next : ∀ h₁ : Heap, (∀ b o, b ∉ wr → H.get? b = some o → h₁.get? b = some o) → Fr g env.locals h₁ m ∧ News g env.locals h₁ news := fun h₁ hk₁ =>
    ⟨⟨F.ns.at' fun o e => hk₁ _ o hLw e, fun b o e => hk₁ b o (fun hb => by rw [hgf b (W.sub b hb)] at e; cases e) (F.keep b o e), F.above⟩, fun p hq => ⟨hk₁ _ _ (fun hb => hnf p hq (W.sub _ hb)) (N p hq).1, (N p hq).2⟩⟩
  by_cases hlt : i < n
  · refine W.item i _ _ _ hlt hst' fun T vals h₁ tk₁ hPt _ hT hMid hk₁ => ?_
    obtain ⟨v0, v1, rfl, hP2⟩ := h2 i vals hPt
    refine W.go _ x1 pt i T _ _ _ hMid fun h₂ hst₂ hk₂ => ?_
    have ht₂ : h₂.IsTuple T #[v0, v1] := hT.at fun o e => hk₂ T o (W.apart i T h₁ hMid) e
    refine wpAny_assign_Tuple hh ht₂ rfl rfl fun h₃ hx₃ => ?_
    have up₃ : ∀ b o, h₂.get? b = some o → h₃.get? b = some o := fun b o x => hx₃ b o (Nat.ne_of_lt (Heap.lt_size x)) x
    obtain ⟨F₃, N₃⟩ := next h₃ fun b o hb x => up₃ b o (hk₂ b o hb (hk₁ b o hb x))
    show wpAny _ A (do holding [v1] (assign (.Name xi pk) env v0); do holding [] (assign (.Name xc pv) env v1); pure ()) _ _ _
    refine wpAny_bind (wpAny_holding (wpAny_assign_Name (wpAny_storeName_local hxi F₃.ns (fun h₄ hn₄ hs₄ => ?_) hp)))
    have F₄ := F₃.set hn₄ hs₄
    refine wpAny_bind (wpAny_holding (wpAny_assign_Name (wpAny_storeName_local hxc F₄.ns (fun h₅ hn₅ hs₅ => wpAny_pure ?_) hp)))
    have F₅ := F₄.set hn₅ hs₅
    have N₅ : News g env.locals h₅ news := (N₃.set hs₄).set hs₅
    have hst₅ : St (i + 1) h₅ := W.frame _ _ _ hst₂ fun b hb o e => hs₅.extBut b o (fun q => hLf (q ▸ hb)) (hs₄.extBut b o (fun q => hLf (q ▸ hb)) (up₃ b o e))
    refine wpAny_mono (wpAny_passesOwn hE (step i v0 v1 g m news h₅ _ (ownOf g fp h₅) hlt hP2 hP hst₅ (fun b hb o e => mem_ownOf hb (hgf b hb) e) ownOf_sub hnf hgf F₅ ((news_ownOf hLf).append N₅))) (fun f s₃ h₆ => ?_) fun _ _ e => e
    have fin : (∃ h' tk', s₃ = { s with heap := h', toks := tk' } ∧ Stands (P (i + 1)) env.locals fp (ownOf g fp h₅) h') → ∃ k', k' < n + 1 - i ∧ ∃ i' h' tk, s₃ = { s with heap := h', toks := tk } ∧ St i' h' ∧ Stands (P i') env.locals fp [] h' ∧ i' ≤ n ∧ k' = n + 1 - i' := by
      rintro ⟨h₆', tk₆, rfl, g', m', news', hP', F', N', hnf', hgf'⟩
      refine ⟨n + 1 - (i + 1), by omega, i + 1, h₆', tk₆, rfl, W.frame _ _ _ hst₅ fun b hb o e => ?_, ⟨g', m', news', hP', F', fun p hq => N' p (List.mem_append_right _ hq), hnf', hgf'⟩, hlt, rfl⟩
      exact (N' _ (List.mem_append_left _ (mem_ownOf hb (hgf b hb) e))).1
    cases f with
    | ret v => exact h₆
    | brk => exact h₆
    | cont => exact fin h₆
    | next => exact fin h₆
  · obtain rfl : i = n := by omega
    refine W.done _ _ _ hst' fun h₁ tk₁ hk₁ => wpAny_execs_nil ?_
    obtain ⟨F₁, N₁⟩ := next h₁ hk₁
    exact done h₁ tk₁ g m news hP F₁ N₁
end
end

-- L_pp
section
set_option maxHeartbeats 4000000

/-- an object that no handler is made of, and no order of types -/
structure Odd (o : Obj) : Prop where
  fn : ∀ fd, o.data ≠ .func fd
  cell : ∀ v, o.data ≠ .cell v
  code : ∀ vs q t, o.data = .fields vs → vs[1]? ≠ some (.str q t)
  tup : o.cls ≠ .type "tuple"

section
variable {w : World} {rest own own' : List (Addr × Obj)} {told f : Addr} {n : Int} {base : Heap}
theorem odd_out {p : Addr × Obj} (ho : ∀ p ∈ own, Odd p.2) (hm : p ∈ own' ++ (own ++ rest)) (hp : ¬ Odd p.2) : p ∈ own' ++ rest := by
  rcases List.mem_append.mp hm with hm | hm
  · exact List.mem_append_left _ hm
  · rcases List.mem_append.mp hm with hm | hm
    · exact absurd (ho p hm) hp
    · exact List.mem_append_right _ hm
theorem HandlerAt.shrink (h : HandlerAt w (own' ++ (own ++ rest)) told f n) (ho : ∀ p ∈ own, Odd p.2) : HandlerAt w (own' ++ rest) told f n := by
  obtain ⟨cT, cN, c, dc, pm, ct, oT, oN, oc, vs, t, tn, h1, h2, h3, h4, h5, h6, h7, h8⟩ := h
  exact ⟨cT, cN, c, dc, pm, ct, oT, oN, oc, vs, t, tn, odd_out ho h1 (fun k => k.fn _ rfl), odd_out ho h2 (fun k => k.cell _ h3), h3, odd_out ho h4 (fun k => k.cell _ h5), h5, odd_out ho h6 (fun k => k.code _ _ _ h7 h8), h7, h8⟩
theorem TabOk.shrink {tab : Array Value} (h : TabOk (own' ++ (own ++ rest)) tab) (ho : ∀ p ∈ own, Odd p.2) : TabOk (own' ++ rest) tab := by
  rcases h with h | ⟨c, oc, vs, t, h1, h2, h3, h4⟩
  · exact .inl h
  · exact .inr ⟨c, oc, vs, t, h1, odd_out ho h2 (fun k => k.code _ _ _ h3 h4), h3, h4⟩
theorem StatOk.shrink (h : StatOk (own' ++ (own ++ rest)) base) (ho : ∀ p ∈ own, Odd p.2) : StatOk (own' ++ rest) base := by
  obtain ⟨mc, h1, h2⟩ := h
  refine ⟨mc, h1, fun T hT => ?_⟩
  rcases h2 T hT with e | ⟨a, e, hm⟩
  · exact .inl e
  · exact .inr ⟨a, e, odd_out ho hm fun k => k.tup rfl⟩
theorem Same.shrink {kH kN : List (MK × Value)} (h : Same w (own' ++ (own ++ rest)) told kH kN) (ho : ∀ p ∈ own, Odd p.2) : Same w (own' ++ rest) told kH kN := fun k => by
  rcases h k with h | ⟨f, n, t, h1, h2, h3⟩
  · exact .inl h
  · exact .inr ⟨f, n, t, h1, h2, h3.shrink ho⟩
variable {a : Adr} {st st' : St} {i j : Nat}
/-- the things of a loop stand beside -/
theorem Inv.beside (I : Inv w a st rest i) (off : ∀ p ∈ own, p.1 ∉ a.all) : Inv w a st (own ++ rest) i where
  nd := I.nd
  off p hp := (List.mem_append.mp hp).elim (off p) (I.off p)
  M := I.M.mono fun _ => List.mem_append_right _
  P := I.P.mono fun _ => List.mem_append_right _
  tabs := List.mem_append_right _ I.tabs
  sys := I.sys
  dG := I.dG
  dS := I.dS
  dA := I.dA
  dB := I.dB
  eG := I.eG.mono fun _ => List.mem_append_right _
  eS := I.eS.mono fun _ => List.mem_append_right _
  ty := I.ty
  tab := I.tab.mono fun _ => List.mem_append_right _
  lG := I.lG
  lS := I.lS
  lA := I.lA
  lB := I.lB
  lT := I.lT
  types := I.types
  lt := I.lt
  le := I.le
/-- .. and fall away; a type is told behind -/
theorem Inv.turned (I : Inv w a st rest i) (I' : Inv w a st' (own' ++ (own ++ rest)) (i + 1)) (ho : ∀ p ∈ own, Odd p.2) {x : String} {t : Tok} {k : Nat} (hx : x ∈ typeNames) :
    Inv w a { st' with its := st.its.push (.str (Str.ofString x) t), nt := k } (own' ++ rest) (i + 1) where
  nd := I.nd
  off p hp := I'.off p ((List.mem_append.mp hp).elim (List.mem_append_left _) fun h => List.mem_append_right _ (List.mem_append_right _ h))
  M := I.M.mono fun _ => List.mem_append_right _
  P := I.P.mono fun _ => List.mem_append_right _
  tabs := List.mem_append_right _ I.tabs
  sys := I.sys
  dG := I'.dG
  dS := I'.dS
  dA := I'.dA
  dB := I'.dB
  eG := I'.eG.shrink ho
  eS := I'.eS.shrink ho
  ty := I'.ty
  tab := I'.tab.shrink ho
  lG := I'.lG
  lS := I'.lS
  lA := I'.lA
  lB := I'.lB
  lT := I'.lT
  types := ⟨x, t, hx, by simp⟩
  lt := by
    have := I.lt
    show (st.its.push _).size ≤ _
    rw [Array.size_push]
    omega
  le := I'.le
end

/-- the ten types stand in a list of the law's own -/
noncomputable def KindsAt (w : World) (news : List (Addr × Obj)) (kl : Addr) : Prop := ∃ (ks : List Value) (n : Nat), (kl, W.listOf ks.toArray n) ∈ news ∧ KeysAre w ks (typeNames.map fun x => MK.str (Str.ofString x))
theorem KindsAt.mono {w : World} {news news' : List (Addr × Obj)} {kl : Addr} (h : KindsAt w news kl) (hs : ∀ p ∈ news, p ∈ news') : KindsAt w news' kl := by
  obtain ⟨ks, n, h1, h2⟩ := h
  exact ⟨ks, n, hs _ h1, h2⟩

/-- what holds between two turns of the law's loop -/
noncomputable def LawP (w : World) (B₀ : Heap) (A₀ : Around) (loose : List Str) (mean : ExcName → Option Value) (mg mb : Str → Option Value) (kl : Addr) (a : Adr) (m₀ : Str → Option Value) (xi xc : Str) (i : Nat) (g : Heap) (m : Str → Option Value) (news : List (Addr × Obj)) : Prop :=
  ∃ (base : Heap) (st : St) (rest : List (Addr × Obj)) (vi vc : Option Value), Turn [] B₀ base ∧ Below A₀ base [] g ∧ (KS w.params).In base ∧ Top topProg loose mean mg mb base ∧ CodeHd base 90 86 ∧ StatOk rest base ∧ Inv w a st rest i ∧ news = st.chg a ++ rest ∧
    KindsAt w rest kl ∧ (∃ tab, (79, tabObj tab) ∈ rest) ∧ m = fun y => if y = xc then vc else if y = xi then vi else m₀ y

section
variable {h g : Heap} {L e it l : Addr} {k : Int} {old : Value} {j : Nat} {vs : Array Value} {own news : List (Addr × Obj)}
theorem own_odd (he : IsEnum h e it k old) (hi : h.IsListIter it l j) (hl : h.IsList l vs) (N : News g L h (own ++ news)) (hs : ∀ p ∈ own, p.1 ∈ [e, it, l]) : ∀ p ∈ own, Odd p.2 := fun p hp => by
  have h1 := (N p (List.mem_append_left _ hp)).1
  have h2 := hs p hp
  simp only [List.mem_cons, List.not_mem_nil, or_false] at h2
  rcases h2 with q | q | q
  · rw [q, he] at h1
    have h3 := Option.some.inj h1
    rw [← h3]
    refine ⟨fun _ z => (by cases z), fun _ z => (by cases z), fun vs q t z y => ?_, fun z => absurd (Value.type.inj z) (by decide)⟩
    cases z
    simp at y
  · obtain ⟨o, ho, hc, hd⟩ := hi
    rw [q, ho] at h1
    have h3 := Option.some.inj h1
    rw [← h3]
    refine ⟨fun _ z => (by rw [hd] at z; cases z), fun _ z => (by rw [hd] at z; cases z), fun vs q t z y => ?_, fun z => absurd (Value.type.inj (hc.symm.trans z)) (by decide)⟩
    rw [hd] at z
    cases z
    simp at y
  · obtain ⟨o, ho, hc, n, hd⟩ := hl
    rw [q, ho] at h1
    have h3 := Option.some.inj h1
    rw [← h3]
    refine ⟨fun _ z => (by rw [hd] at z; cases z), fun _ z => (by rw [hd] at z; cases z), fun vs q t z y => ?_, fun z => absurd (Value.type.inj (hc.symm.trans z)) (by decide)⟩
    rw [hd] at z
    cases z
end
end

-- L_pq
section
set_option maxHeartbeats 4000000

theorem types_getD {n : Nat} (h : n < 10) : ∃ x ∈ typeNames, (typeNames.map Str.ofString).getD n Str.empty = Str.ofString x := by
  refine ⟨typeNames[n]'h, List.getElem_mem _, ?_⟩
  rw [List.getD_eq_getElem?_getD, List.getElem?_map, List.getElem?_eq_getElem (show n < typeNames.length from h)]
  rfl

theorem law_pack {P : Prop} {w : World} {g h : Heap} {L types told dS dG mgr dm kl : Addr} {x : Value} {oS oG oK : Obj} {t1 t2 : Tok}
    (N : News g L h ((types, W.listOf #[x] 0) :: (told, W.listOf #[] 0) :: (dS, oS) :: (dG, oG) :: (mgr, instObj 66 dm) :: (dm, dictOf [⟨PyData.keyHash w.params (Str.ofString "get_handlers"), .str (Str.ofString "get_handlers") t1, .ref dG⟩, ⟨PyData.keyHash w.params (Str.ofString "set_handlers"), .str (Str.ofString "set_handlers") t2, .ref dS⟩] 2) ::
      (kl, oK) :: (86, tabObj #[]) :: (79, tabObj #[]) :: []))
    (k : ∀ oM, MgrAt w [(mgr, instObj 66 dm), (dm, oM)] mgr dG dS → News g L h ((79, tabObj #[]) :: (types, W.listOf #[x] 0) :: (told, W.listOf #[] 0) :: (dS, oS) :: (dG, oG) :: (86, tabObj #[]) :: (mgr, instObj 66 dm) :: (dm, oM) :: (kl, oK) :: []) → P) : P :=
  k _ ⟨dm, t1, t2, .head _, .tail _ (.head _)⟩ (news_sub N ((allC (.tail _ (.tail _ (.tail _ (.tail _ (.tail _ (.tail _ (.tail _ (.tail _ (.head _))))))))) (allC (.head _) (allC (.tail _ (.head _)) (allC (.tail _ (.tail _ (.head _))) (allC (.tail _ (.tail _ (.tail _ (.head _)))) (allC (.tail _ (.tail _ (.tail _ (.tail _ (.tail _ (.tail _ (.tail _ (.head _)))))))) (allC (.tail _ (.tail _ (.tail _ (.tail _ (.head _))))) (allC (.tail _ (.tail _ (.tail _ (.tail _ (.tail _ (.head _)))))) (allC (.tail _ (.tail _ (.tail _ (.tail _ (.tail _ (.tail _ (.head _))))))) (List.forall_mem_nil _))))))))))))

section
variable {g h : Heap} {L : Addr} {a b c d e f t m n k : Addr × Obj} {r own : List (Addr × Obj)}
theorem news_pick (N : News g L h (own ++ a :: b :: c :: d :: e :: f :: m :: n :: k :: [])) : News g L h (b :: c :: d :: e :: f :: (own ++ a :: m :: n :: k :: [])) :=
  news_sub N ((allC (List.mem_append_right _ (.tail _ (.head _))) (allC (List.mem_append_right _ (.tail _ (.tail _ (.head _)))) (allC (List.mem_append_right _ (.tail _ (.tail _ (.tail _ (.head _))))) (allC (List.mem_append_right _ (.tail _ (.tail _ (.tail _ (.tail _ (.head _)))))) (allC (List.mem_append_right _ (.tail _ (.tail _ (.tail _ (.tail _ (.tail _ (.head _))))))) ((allA (fun _ hp => List.mem_append_left _ hp) (allC (List.mem_append_right _ (.head _)) (allC (List.mem_append_right _ (.tail _ (.tail _ (.tail _ (.tail _ (.tail _ (.tail _ (.head _)))))))) (allC (List.mem_append_right _ (.tail _ (.tail _ (.tail _ (.tail _ (.tail _ (.tail _ (.tail _ (.head _))))))))) (allC (List.mem_append_right _ (.tail _ (.tail _ (.tail _ (.tail _ (.tail _ (.tail _ (.tail _ (.tail _ (.head _)))))))))) (List.forall_mem_nil _)))))))))))))
theorem news_last7 (N : News g L h (a :: b :: c :: d :: e :: f :: t :: r)) : News g L h (t :: a :: b :: c :: d :: e :: f :: r) :=
  news_sub N ((allC (.tail _ (.tail _ (.tail _ (.tail _ (.tail _ (.tail _ (.head _))))))) (allC (.head _) (allC (.tail _ (.head _)) (allC (.tail _ (.tail _ (.head _))) (allC (.tail _ (.tail _ (.tail _ (.head _)))) (allC (.tail _ (.tail _ (.tail _ (.tail _ (.head _))))) (allC (.tail _ (.tail _ (.tail _ (.tail _ (.tail _ (.head _)))))) (fun _ hp => .tail _ (.tail _ (.tail _ (.tail _ (.tail _ (.tail _ (.tail _ (hp))))))))))))))))
theorem news_first7 (N : News g L h (t :: a :: b :: c :: d :: e :: f :: r)) : News g L h (a :: b :: c :: d :: e :: f :: t :: r) :=
  news_sub N ((allC (.tail _ (.head _)) (allC (.tail _ (.tail _ (.head _))) (allC (.tail _ (.tail _ (.tail _ (.head _)))) (allC (.tail _ (.tail _ (.tail _ (.tail _ (.head _))))) (allC (.tail _ (.tail _ (.tail _ (.tail _ (.tail _ (.head _)))))) (allC (.tail _ (.tail _ (.tail _ (.tail _ (.tail _ (.tail _ (.head _))))))) (allC (.head _) (fun _ hp => .tail _ (.tail _ (.tail _ (.tail _ (.tail _ (.tail _ (.tail _ (hp))))))))))))))))
theorem sub_start : ∀ p ∈ [a, b, c, d, e, f, t] ++ (m :: r), p ∈ m :: f :: e :: t :: a :: d :: c :: b :: r :=
  (allC (.tail _ (.tail _ (.tail _ (.tail _ (.head _))))) (allC (.tail _ (.tail _ (.tail _ (.tail _ (.tail _ (.tail _ (.tail _ (.head _)))))))) (allC (.tail _ (.tail _ (.tail _ (.tail _ (.tail _ (.tail _ (.head _))))))) (allC (.tail _ (.tail _ (.tail _ (.tail _ (.tail _ (.head _)))))) (allC (.tail _ (.tail _ (.head _))) (allC (.tail _ (.head _)) (allC (.tail _ (.tail _ (.tail _ (.head _)))) (allC (.head _) (fun _ hp => .tail _ (.tail _ (.tail _ (.tail _ (.tail _ (.tail _ (.tail _ (.tail _ (hp)))))))))))))))))
end
theorem nodup7 {a b c d e f g : Addr} (h : (a ≠ b ∧ a ≠ c ∧ a ≠ d ∧ a ≠ e ∧ a ≠ f ∧ a ≠ g) ∧ (b ≠ c ∧ b ≠ d ∧ b ≠ e ∧ b ≠ f ∧ b ≠ g) ∧ (c ≠ d ∧ c ≠ e ∧ c ≠ f ∧ c ≠ g) ∧ (d ≠ e ∧ d ≠ f ∧ d ≠ g) ∧ (e ≠ f ∧ e ≠ g) ∧ f ≠ g) : [a, b, c, d, e, f, g].Nodup := by
  simpa [and_assoc] using h
theorem off7 {x a b c d e f g : Addr} (h : x ≠ a ∧ x ≠ b ∧ x ≠ c ∧ x ≠ d ∧ x ≠ e ∧ x ≠ f ∧ x ≠ g) : x ∉ [a, b, c, d, e, f, g] := by
  simpa using h
theorem big_sys {b : Addr} (h : @LT.lt Nat _ 86 b) : (b == sysModules) = false := beq_eq_false_iff_ne.mpr (Nat.ne_of_gt (Nat.lt_trans (show @LT.lt Nat _ 1 86 by decide) h))
theorem inv_start {w : World} {a : Adr} {rest : List (Addr × Obj)} {oG oS oA oB : Obj} {x : String} {t : Tok} (nd : a.all.Nodup) (off : ∀ p ∈ rest, p.1 ∉ a.all) (hM : MgrAt w rest a.mgr a.dG a.dS) (hP : PageAt w rest a.page a.told a.types)
    (ht : (a.tabs, ({ cls := .type "tuple", data := .seq #[.ref a.tA, .ref a.tB] } : Obj)) ∈ rest) (hs : ∀ b ∈ a.all, (b == sysModules) = false)
    (hG : oG.IsDictOf (strKind PR w) []) (hS : oS.IsDictOf (strKind PR w) []) (hA : oA.IsDictOf (strKind PR w) []) (hB : oB.IsDictOf (strKind PR w) []) (hx : x ∈ typeNames) :
    Inv w a ⟨[], 0, #[], oG, oS, oA, oB, [], [], [], [], #[.str (Str.ofString x) t], 0⟩ rest 0 where
  nd := nd
  off := off
  M := hM
  P := hP
  tabs := ht
  sys := hs
  dG := mix_empty hG
  dS := mix_empty hS
  dA := mix_empty hA
  dB := mix_empty hB
  eG k := .inl ⟨rfl, rfl⟩
  eS k := .inl ⟨rfl, rfl⟩
  ty n := rfl
  tab := .inl rfl
  lG := Nat.le_refl _
  lS := Nat.le_refl _
  lA := Nat.le_refl _
  lB := Nat.le_refl _
  lT := Nat.le_refl _
  types := ⟨x, t, hx, rfl⟩
  lt := Nat.le_refl _
  le := by decide

section
variable {w : World} {A : Around} {E : Value → Shared → Prop} {s : Shared} {h₀ : Heap} {L : Addr} {news : List (Addr × Obj)}
theorem item_type {value slice : Expr} {kl : Addr} {i : Int} {t : Tok} {Q : Value → Shared → Prop} (N : News h₀ L s.heap news) (hK : KindsAt w news kl) (h0 : 0 ≤ i) (h1 : i < 10) (h : ∀ x t, x ∈ typeNames → Q (.str (Str.ofString x) t) s)
    (hs : subscripted slice false (.ref kl) (.int i t) = operate [.ref kl, .int i t] (getItem (.ref kl) (.int i t))) :
    wpAny (model PR w) A (subscriptTail value slice (.ref kl) (.int i t)) Q E s := by
  obtain ⟨ks, n, hm, hk⟩ := hK
  have hlt : i.toNat < typeNames.length := by show i.toNat < 10; omega
  refine item_key (k := MK.str (Str.ofString (typeNames[i.toNat]'hlt))) N hm hk (by simp [typeNames]) h0 (by rw [List.getElem?_map, List.getElem?_eq_getElem hlt]; rfl) (fun v hv => ?_) hs
  obtain ⟨t, rfl⟩ := MK.is_str hv
  exact h _ _ (List.getElem_mem _)
end

section
variable {w : World} {B₀ base base' g g' h2 h9 : Heap} {A₀ : Around} {L kl : Addr} {loose : List Str} {mean : ExcName → Option Value} {mg mb m m' m₀ : Str → Option Value} {a : Adr} {st st' : St} {rest own own' news : List (Addr × Obj)} {fp : List Addr} {xi xc : Str} {i : Nat}
theorem law_turn {tab : Array Value} {v0 v1 : Value} {x : String} {t : Tok} {k : Nat} (TB : Turn [] B₀ base) (TT : Top topProg loose mean mg mb base) (hc : CodeHd base 90 86) (hK : KindsAt w rest kl) (h79 : (79, tabObj tab) ∈ rest) (I : Inv w a st rest i) (odd : ∀ p ∈ own, Odd p.2) (hown : ∀ b ∈ fp, ∃ o, (b, o) ∈ own)
    (hnf : ∀ p ∈ st.chg a ++ rest, p.1 ∉ fp) (hgf : ∀ b ∈ fp, g.get? b = none)
    (K : Back w A₀ base g L m' loose mean mg mb [] (st.chg a ++ (own ++ rest)) base' g' h2 own') (I' : Inv w a st' (own' ++ (own ++ rest)) (i + 1)) (S' : StatOk (own' ++ (own ++ rest)) base') (hx : x ∈ typeNames)
    (F : Fr g' L h9 (fun y => if y = xc then some v1 else if y = xi then some v0 else m₀ y)) (N : News g' L h9 (St.chg a { st' with its := st.its.push (.str (Str.ofString x) t), nt := k } ++ (own' ++ (own ++ rest)))) :
    Stands (LawP w B₀ A₀ loose mean mg mb kl a m₀ xi xc (i + 1)) L fp own h9 := by
  refine ⟨g', _, St.chg a { st' with its := st.its.push (.str (Str.ofString x) t), nt := k } ++ (own' ++ rest), ⟨base', { st' with its := st.its.push (.str (Str.ofString x) t), nt := k }, own' ++ rest, some v0, some v1, TB.trans K.TB, K.B, K.XB, K.TT, codeHd_turn hc K.TB (let ⟨mc, h1, _⟩ := TT.nolimit; ⟨mc, h1⟩),
    S'.shrink odd, I.turned I' odd hx, rfl, hK.mono fun _ => List.mem_append_right _, ⟨tab, List.mem_append_right _ h79⟩, rfl⟩, F, fun p hp => N p ?_, fun p hp hb => ?_, fun b hb => K.T0.none_ b (hgf b hb)⟩
  · rcases List.mem_append.mp hp with hp | hp
    · exact List.mem_append_right _ (List.mem_append_right _ (List.mem_append_left _ hp))
    · rcases List.mem_append.mp hp with hp | hp
      · exact List.mem_append_left _ hp
      · rcases List.mem_append.mp hp with hp | hp
        · exact List.mem_append_right _ (List.mem_append_left _ hp)
        · exact List.mem_append_right _ (List.mem_append_right _ (List.mem_append_right _ hp))
  · rcases List.mem_append.mp hp with hp | hp
    · have hm : p.1 ∈ (st.chg a).map (·.1) := by
        have : p.1 ∈ (St.chg a { st' with its := st.its.push (.str (Str.ofString x) t), nt := k }).map (·.1) := List.mem_map.mpr ⟨p, hp, rfl⟩
        exact this
      obtain ⟨q, hq, e⟩ := List.mem_map.mp hm
      exact hnf q (List.mem_append_left _ hq) (e ▸ hb)
    · rcases List.mem_append.mp hp with hp | hp
      · obtain ⟨o, ho⟩ := hown _ hb
        exact absurd (K.ab p hp _ (List.mem_append_right _ (List.mem_append_left _ ho))) (Nat.lt_irrefl _)
      · exact hnf p (List.mem_append_right _ hp) hb
theorem law_fin {n : Nat} (hP : LawP w B₀ A₀ loose mean mg mb kl a m₀ xi xc n g m news) (F : Fr g L h9 m') (N : News g L h9 news) :
    (∃ g', Turn [] B₀ g' ∧ ∀ b o, g'.get? b = some o → h9.get? b = some o) ∧ GrownAll [(90, 86), (83, 79)] h9 := by
  obtain ⟨base, st, rest, vi, vc, TB, BB, XB, TT, hc, hso, I, rfl, hK, ⟨tab, h79⟩, rfl⟩ := hP
  refine ⟨⟨base, TB, fun b o e => F.keep _ _ (BB.stays b o e)⟩, ?_, ?_, trivial⟩
  · exact ⟨_, (N (86, tabObj st.tab) (List.mem_append_left _ (.tail _ (.head _)))).1⟩
  · exact ⟨_, (N _ (List.mem_append_right _ h79)).1⟩
end
end

-- L_pr
section
set_option maxHeartbeats 4000000

/-- an enumerate over a list of ints has been made, beside the ledger -/
structure EnumAt (g : Heap) (L : Addr) (m : Str → Option Value) (news : List (Addr × Obj)) (e it l : Addr) (ws : List Value) (h : Heap) : Prop where
  he : IsEnum h e it 0 .none
  hi : h.IsListIter it l 0
  hl : h.IsList l ws.toArray
  F : Fr g L h m
  N : News g L h news
  new : ∀ b ∈ [e, it, l], g.get? b = none
  hL : L ∉ [e, it, l]
  off : ∀ p ∈ news, p.1 ∉ [e, it, l]
  ei : e ≠ it
  le : l ≠ e
  li : l ≠ it
noncomputable def IterAt (g : Heap) (L : Addr) (m : Str → Option Value) (news : List (Addr × Obj)) (s : Shared) (x : Value) (s₁ : Shared) : Prop :=
  ∃ (e it l : Addr) (ws : List Value) (ms : List Int) (h : Heap) (tk : Tok), x = .ref e ∧ s₁ = { s with heap := h, toks := tk } ∧ IntsAre ws ms ∧ ms.length ≤ 40 ∧ EnumAt g L m news e it l ws h
theorem news_drop2 {g h : Heap} {L : Addr} {p q : Addr × Obj} {r : List (Addr × Obj)} (N : News g L h (p :: q :: r)) : News g L h (p :: r) := fun x hx => N x ((List.mem_cons.mp hx).elim (fun e => e ▸ .head _) fun hx => .tail _ (.tail _ hx))
theorem map_start (m : Str → Option Value) (xi xc : Str) : m = fun y => if y = xc then m xc else if y = xi then m xi else m y := by
  funext y
  by_cases h1 : y = xc
  · subst h1; simp
  · by_cases h2 : y = xi
    · subst h2; simp [h1]
    · simp [h1, h2]
theorem map_over (m : Str → Option Value) (xi xc : Str) (vi vc : Option Value) (v0 v1 : Value) : (fun y => if y = xc then some v1 else if y = xi then some v0 else (fun y => if y = xc then vc else if y = xi then vi else m y) y) = fun y => if y = xc then some v1 else if y = xi then some v0 else m y := by
  funext y
  by_cases h1 : y = xc
  · simp [h1]
  · by_cases h2 : y = xi
    · subst h2; simp [h1]
    · simp [h1, h2]
section
variable {M : Model} {prog : Program} {w : World} {A : Around} {E : Value → Shared → Prop} {s : Shared}
theorem wpAny_iterAt {p : Sem Value} {Q : Value → Shared → Prop} {g : Heap} {L : Addr} {m : Str → Option Value} (_F : Fr g L s.heap m) (news : List (Addr × Obj)) (h : wpAny M A p (IterAt g L m news s) E s)
    (k : ∀ e it l ws ms h tk, IntsAre ws ms → ms.length ≤ 40 → EnumAt g L m news e it l ws h → Q (.ref e) { s with heap := h, toks := tk }) : wpAny M A p Q E s :=
  wpAny_mono h (fun x s₁ ⟨e, it, l, ws, ms, h, tk, hx, hs, hi, hz, hE⟩ => by
    subst hx hs
    exact k e it l ws ms h tk hi hz hE) fun _ _ e => e
theorem enum_made {g : Heap} {L l : Addr} {m : Str → Option Value} {news : List (Addr × Obj)} {ws : List Value} {ms : List Int} {n : Nat} {s₀ : Shared} (F : Fr g L s.heap m) (N : News g L s.heap ((l, W.listOf ws.toArray n) :: news)) (lt : ∀ p ∈ news, p.1 ≠ l) (hi : IntsAre ws ms) (hz : ms.length ≤ 40)
    (hs : ∀ h, ∃ tk, ({ s with heap := h } : Shared) = { s₀ with heap := h, toks := tk }) :
    wpAny (model prog w) A (call (.type "enumerate") [.ref l]) (IterAt g L m news s₀) E s := by
  have hm := N _ (.head _)
  have hls : s.heap.IsList l ws.toArray := ⟨_, hm.1, rfl, n, rfl⟩
  refine call_enumerate_list hls fun h' he hit _ hk => ?_
  have hLs : L < s.heap.objs.size := F.ns.lt
  have hgs : g.objs.size ≤ s.heap.objs.size := Nat.le_trans F.above (Nat.le_of_lt hLs)
  have hll : l < s.heap.objs.size := Heap.lt_size hm.1
  obtain ⟨tk, e⟩ := hs h'
  refine ⟨s.heap.objs.size + 1, s.heap.objs.size, l, ws, ms, h', tk, rfl, e, hi, hz, he, hit, hls.at fun o x => hk l o x, F.keeps hk, fun p hp => ⟨hk _ _ (N p (.tail _ hp)).1, (N p (.tail _ hp)).2⟩, fun b hb => ?_, fun hb => ?_, fun p hp hb => ?_, Nat.succ_ne_self _, Nat.ne_of_lt (Nat.lt_succ_of_lt hll), Nat.ne_of_lt hll⟩
  · simp only [List.mem_cons, List.not_mem_nil, or_false] at hb
    rcases hb with rfl | rfl | rfl
    · exact Heap.get?_none_of_le (Nat.le_succ_of_le hgs)
    · exact Heap.get?_none_of_le hgs
    · exact hm.2.2
  · simp only [List.mem_cons, List.not_mem_nil, or_false] at hb
    rcases hb with q | q | q
    · exact Nat.ne_of_lt (Nat.lt_succ_of_lt hLs) q
    · exact Nat.ne_of_lt hLs q
    · exact hm.2.1 q.symm
  · have hp1 : p.1 < s.heap.objs.size := Heap.lt_size (N p (.tail _ hp)).1
    simp only [List.mem_cons, List.not_mem_nil, or_false] at hb
    rcases hb with q | q | q
    · exact Nat.ne_of_lt (Nat.lt_succ_of_lt hp1) q
    · exact Nat.ne_of_lt hp1 q
    · exact lt p hp q
end
section
variable {w : World} {A A₀ : Around} {s : Shared} {env : Env} {B₀ : Heap} {loose : List Str} {mean : ExcName → Option Value} {mg mb m₀ : Str → Option Value} {news : List (Addr × Obj)} {a : Adr} {kl e it l : Addr} {st : St} {rest : List (Addr × Obj)} {tab : Array Value} {ws : List Value} {ms : List Int}
/-- the loop of the law, by its invariant -/
theorem loop_law {E : Value → Shared → Prop} {Q : Flow → Shared → Prop} {xi xc : Str} {pk pv pt : Pos} {x1 : Nat} {body : List Stmt} (K1 : Below A₀ B₀ [] B₀) (XB : (KS w.params).In B₀) (T1 : Top topProg loose mean mg mb B₀) (hc : CodeHd B₀ 90 86) (S0 : StatOk [] B₀)
    (I0 : Inv w a st rest 0) (hK : KindsAt w rest kl) (h79 : (79, tabObj tab) ∈ rest) (hsub : ∀ p ∈ st.chg a ++ rest, p ∈ news) (hE : EnumAt B₀ env.locals m₀ news e it l ws s.heap) (hIw : IntsAre ws ms)
    (hh : A.handled = none) (hxi : env.kindOf xi = some .local) (hxc : env.kindOf xc = some .local) (hp : (env.scope.kind == .class || (env.scope.kind == .module && env.locals != env.globals)) = false) (hPE : PassesOwn (model PySem.Challenge.rw_in0087_01.row.prog w) A env E)
    (turn : ∀ (i : Nat) (k : Int) (t u : Tok) (base : Heap) (st : St) (rest : List (Addr × Obj)) (g h : Heap) (tk : Tok) (own : List (Addr × Obj)), i < ms.length → Turn [] B₀ base → Below A₀ base [] g → (KS w.params).In base → Top topProg loose mean mg mb base → CodeHd base 90 86 → StatOk rest base → Inv w a st rest i → KindsAt w rest kl →
      (∀ p ∈ own, p.1 ∉ a.all) → Fr g env.locals h (fun y => if y = xc then some (.int k u) else if y = xi then some (.int i t) else m₀ y) → News g env.locals h (st.chg a ++ (own ++ rest)) →
      (∀ (base' g' h2 h9 : Heap) (own' : List (Addr × Obj)) (st' : St) (x : String) (t : Tok) (kk : Nat) (m' : Str → Option Value) (v0 v1 : Value), Back w A₀ base g env.locals m' loose mean mg mb [] (st.chg a ++ (own ++ rest)) base' g' h2 own' → Inv w a st' (own' ++ (own ++ rest)) (i + 1) → StatOk (own' ++ (own ++ rest)) base' → x ∈ typeNames →
        Fr g' env.locals h9 (fun y => if y = xc then some v1 else if y = xi then some v0 else m₀ y) → News g' env.locals h9 (St.chg a { st' with its := st.its.push (.str (Str.ofString x) t), nt := kk } ++ (own' ++ (own ++ rest))) →
        Stands (LawP w B₀ A₀ loose mean mg mb kl a m₀ xi xc (i + 1)) env.locals [e, it, l] own h9) →
      wpAny (model PySem.Challenge.rw_in0087_01.row.prog w) A (execs body env) (fun f s₃ => match f with
        | .ret v => Q (.ret v) s₃
        | .brk => Q .next s₃
        | _ => ∃ h' tk', s₃ = { s with heap := h', toks := tk' } ∧ Stands (LawP w B₀ A₀ loose mean mg mb kl a m₀ xi xc (i + 1)) env.locals [e, it, l] own h') E { s with heap := h, toks := tk })
    (done : ∀ h' tk n g m news, LawP w B₀ A₀ loose mean mg mb kl a m₀ xi xc n g m news → Fr g env.locals h' m → News g env.locals h' news → Q .next { s with heap := h', toks := tk }) :
    codeAny (model PySem.Challenge.rw_in0087_01.row.prog w) A (.forLoop (.Tuple [.Name xi pk, .Name xc pv] x1 pt) (.ref e) body [] env) (fun r s' => match r with | .ok f => Q f s' | .error e => cameBackBy (model PySem.Challenge.rw_in0087_01.row.prog w) A env E e s') s := by
  refine loop_pairs (P2 := fun i v0 v1 => ∃ t k u, v0 = Value.int i t ∧ v1 = Value.int k u) (LawP w B₀ A₀ loose mean mg mb kl a m₀ xi xc) hh (WalksT.enumerate hh e it l hE.ei hE.le hE.li ws.toArray) ?h2 hxi hxc hp hE.hL hPE ⟨⟨_, hE.he⟩, hE.hi, hE.hl⟩ ?h0 ?step (fun h' tk g m news hP F N => done h' tk _ g m news hP F N)
  case h2 =>
    rintro i vals ⟨t, x, hx, rfl⟩
    obtain ⟨k, u, rfl, _⟩ := hIw.at i x (by simpa using hx)
    exact ⟨_, _, rfl, t, k, u, rfl, rfl⟩
  case h0 =>
    exact ⟨_, _, st.chg a ++ rest, ⟨_, _, _, _, _, .refl, K1, XB, T1, hc, S0.mono (fun _ h => nomatch h), I0, rfl, hK, ⟨tab, h79⟩, map_start _ _ _⟩, hE.F, fun p hp => hE.N p (hsub p hp), fun p hp => hE.off p (hsub p hp), hE.new⟩
  case step =>
    rintro i v0 v1 g m news h tk own hi ⟨t, k, u, rfl, rfl⟩ ⟨base, st, rest, vi, vc, TB, BB, XB', TT, hc', hso, I, rfl, hK', ⟨tab', h79'⟩, rfl⟩ ⟨⟨old, he⟩, hit, hl⟩ hown hsub' hnf hgf F N
    have odd := own_odd he hit hl N hsub'
    have hex : ∀ b ∈ [e, it, l], ∃ o, (b, o) ∈ own := fun b hb => by
      have hb' := hb
      simp only [List.mem_cons, List.not_mem_nil, or_false] at hb'
      rcases hb' with rfl | rfl | rfl
      · exact ⟨_, hown _ hb _ he⟩
      · obtain ⟨o, ho, _⟩ := hit
        exact ⟨_, hown _ hb _ ho⟩
      · obtain ⟨o, ho, _⟩ := hl
        exact ⟨_, hown _ hb _ ho⟩
    refine turn i k t u base st rest g h tk own (by simpa [hIw.length] using hi) TB BB XB' TT hc' hso I hK' (fun p hp hm => ?_) (by rw [← map_over m₀ xi xc vi vc]; exact F) (fun p hp => N p ?_) fun base' g' h2 h9 own' st' x t kk m' v0 v1 K I' S' hx F9 N9 => law_turn TB TT hc' hK' h79' I odd hex hnf hgf K I' S' hx F9 N9
    · have hm' : p.1 ∈ (st.chg a).map (·.1) := hm
      obtain ⟨q, hq, e⟩ := List.mem_map.mp hm'
      exact hnf q (List.mem_append_left _ hq) (e ▸ hsub' p hp)
    · rcases List.mem_append.mp hp with hp | hp
      · exact List.mem_append_right _ (List.mem_append_left _ hp)
      · rcases List.mem_append.mp hp with hp | hp
        · exact List.mem_append_left _ hp
        · exact List.mem_append_right _ (List.mem_append_right _ hp)
end
end

-- L_s0
section
theorem K_stat0 (P : Params) : (Mine.hd.heap_39 P).lookup cStatics = some { cls := .none, data := .dict #[] } := rfl
section
variable {P : Params} {h : Heap}
theorem stat_cls (X : (Mine.hd.heap_39 P).In h) : ∀ o, h.get? cStatics = some o → o.cls = .none := fun o e => by
  rw [X _ _ (K_stat0 P)] at e
  cases e
  rfl
theorem stat_ns (X : (Mine.hd.heap_39 P).In h) : h.Ns cStatics fun _ => none :=
  ⟨_, #[], _, X _ _ (K_stat0 P), rfl, fun e he => by simp at he, fun _ => rfl⟩
theorem stat_start (X : (Mine.hd.heap_39 P).In h) : StatOk [] h := ⟨_, stat_ns X, fun _ _ => .inl rfl⟩
end
end

-- L_lw
section
theorem words_L_lw : True := by
  w_top off
  k_with_none
  (k_with "perm1" => first | exact List.forall_mem_nil _ | ((refine' allC ?_ ?_); (focus (k_mem; done)); walk_at "perm1") | ((refine' allA ?_ ?_); (focus (walk_at "perm1"; done)); walk_at "perm1") | (intro _ _; k_mem))
  (k_with "perm" => ((try simp only [St.chg, List.cons_append, List.nil_append]); walk_at "perm1"))
  (k_with "ne" => with_reducible first | exact Nat.ne_of_lt (‹@LT.lt _ _ _ _ ∧ _›).1 | exact Nat.ne_of_gt (‹@LT.lt _ _ _ _ ∧ _›).1 | exact Nat.ne_of_lt (‹_ ∧ @LT.lt _ _ _ _ ∧ _›).2.1 | exact Nat.ne_of_gt (‹_ ∧ @LT.lt _ _ _ _ ∧ _›).2.1 | exact Nat.ne_of_lt (‹_ ∧ _ ∧ @LT.lt _ _ _ _ ∧ _›).2.2.1 | exact Nat.ne_of_gt (‹_ ∧ _ ∧ @LT.lt _ _ _ _ ∧ _›).2.2.1 | exact Nat.ne_of_lt (‹_ ∧ _ ∧ _ ∧ @LT.lt _ _ _ _ ∧ _›).2.2.2.1 | exact Nat.ne_of_gt (‹_ ∧ _ ∧ _ ∧ @LT.lt _ _ _ _ ∧ _›).2.2.2.1 | exact Nat.ne_of_lt (‹_ ∧ _ ∧ _ ∧ _ ∧ @LT.lt _ _ _ _ ∧ _›).2.2.2.2.1 | exact Nat.ne_of_gt (‹_ ∧ _ ∧ _ ∧ _ ∧ @LT.lt _ _ _ _ ∧ _›).2.2.2.2.1 | exact Nat.ne_of_lt (‹_ ∧ _ ∧ _ ∧ _ ∧ _ ∧ @LT.lt _ _ _ _ ∧ _›).2.2.2.2.2.1 | exact Nat.ne_of_gt (‹_ ∧ _ ∧ _ ∧ _ ∧ _ ∧ @LT.lt _ _ _ _ ∧ _›).2.2.2.2.2.1 | exact Nat.ne_of_lt (‹_ ∧ _ ∧ _ ∧ _ ∧ _ ∧ _ ∧ @LT.lt _ _ _ _ ∧ _›).2.2.2.2.2.2.1 | exact Nat.ne_of_gt (‹_ ∧ _ ∧ _ ∧ _ ∧ _ ∧ _ ∧ @LT.lt _ _ _ _ ∧ _›).2.2.2.2.2.2.1 | exact Nat.ne_of_lt (‹_ ∧ _ ∧ _ ∧ _ ∧ _ ∧ _ ∧ _ ∧ @LT.lt _ _ _ _ ∧ _›).2.2.2.2.2.2.2.1 | exact Nat.ne_of_gt (‹_ ∧ _ ∧ _ ∧ _ ∧ _ ∧ _ ∧ _ ∧ @LT.lt _ _ _ _ ∧ _›).2.2.2.2.2.2.2.1 | exact Nat.ne_of_lt (‹_ ∧ _ ∧ _ ∧ _ ∧ _ ∧ _ ∧ _ ∧ _ ∧ @LT.lt _ _ _ _ ∧ _›).2.2.2.2.2.2.2.2.1 | exact Nat.ne_of_gt (‹_ ∧ _ ∧ _ ∧ _ ∧ _ ∧ _ ∧ _ ∧ _ ∧ @LT.lt _ _ _ _ ∧ _›).2.2.2.2.2.2.2.2.1 | exact Nat.ne_of_lt (‹_ ∧ _ ∧ _ ∧ _ ∧ _ ∧ _ ∧ _ ∧ _ ∧ _ ∧ @LT.lt _ _ _ _ ∧ _›).2.2.2.2.2.2.2.2.2.1 | exact Nat.ne_of_gt (‹_ ∧ _ ∧ _ ∧ _ ∧ _ ∧ _ ∧ _ ∧ _ ∧ _ ∧ @LT.lt _ _ _ _ ∧ _›).2.2.2.2.2.2.2.2.2.1 | exact Nat.ne_of_lt (‹_ ∧ _ ∧ _ ∧ _ ∧ _ ∧ _ ∧ _ ∧ _ ∧ _ ∧ _ ∧ @LT.lt _ _ _ _ ∧ _›).2.2.2.2.2.2.2.2.2.2.1 | exact Nat.ne_of_gt (‹_ ∧ _ ∧ _ ∧ _ ∧ _ ∧ _ ∧ _ ∧ _ ∧ _ ∧ _ ∧ @LT.lt _ _ _ _ ∧ _›).2.2.2.2.2.2.2.2.2.2.1 | exact Nat.ne_of_lt (‹_ ∧ _ ∧ _ ∧ _ ∧ _ ∧ _ ∧ _ ∧ _ ∧ _ ∧ _ ∧ _ ∧ @LT.lt _ _ _ _ ∧ _›).2.2.2.2.2.2.2.2.2.2.2.1 | exact Nat.ne_of_gt (‹_ ∧ _ ∧ _ ∧ _ ∧ _ ∧ _ ∧ _ ∧ _ ∧ _ ∧ _ ∧ _ ∧ @LT.lt _ _ _ _ ∧ _›).2.2.2.2.2.2.2.2.2.2.2.1 | exact Nat.ne_of_lt (‹_ ∧ _ ∧ _ ∧ _ ∧ _ ∧ _ ∧ _ ∧ _ ∧ _ ∧ _ ∧ _ ∧ _ ∧ @LT.lt _ _ _ _ ∧ _›).2.2.2.2.2.2.2.2.2.2.2.2.1 | exact Nat.ne_of_gt (‹_ ∧ _ ∧ _ ∧ _ ∧ _ ∧ _ ∧ _ ∧ _ ∧ _ ∧ _ ∧ _ ∧ _ ∧ @LT.lt _ _ _ _ ∧ _›).2.2.2.2.2.2.2.2.2.2.2.2.1 | exact Nat.ne_of_lt (‹_ ∧ _ ∧ _ ∧ _ ∧ _ ∧ _ ∧ _ ∧ _ ∧ _ ∧ _ ∧ _ ∧ _ ∧ _ ∧ @LT.lt _ _ _ _ ∧ _›).2.2.2.2.2.2.2.2.2.2.2.2.2.1 | exact Nat.ne_of_gt (‹_ ∧ _ ∧ _ ∧ _ ∧ _ ∧ _ ∧ _ ∧ _ ∧ _ ∧ _ ∧ _ ∧ _ ∧ _ ∧ @LT.lt _ _ _ _ ∧ _›).2.2.2.2.2.2.2.2.2.2.2.2.2.1)
  (k_with "adr" => (repeat (first | exact List.Mem.head _ | refine List.Mem.tail _ ?_)))
  (k_with "mine cx" => exact ⟨by assumption, by assumption, by assumption, by assumption, rfl, rfl, rfl, by (first | exact Nat.le_trans (Nat.succ_le_succ (show _ ≤ 330 by assumption)) (by decide) | exact Nat.le_trans (Nat.succ_le_succ (show _ ≤ 340 by assumption)) (by decide) | exact Nat.le_trans (Nat.succ_le_succ (show _ ≤ 345 by assumption)) (by decide) | exact Nat.le_trans (Nat.succ_le_succ (show _ ≤ 350 by assumption)) (by decide) | (simp only [depth_deeper]; omega)), by (first | exact Nat.le_trans (Nat.add_le_add_right (show _ ≤ 100 by assumption) 3) (by decide) | exact Nat.le_trans (Nat.add_le_add_right (show _ ≤ 130 by assumption) 3) (by decide) | exact Nat.le_trans (Nat.add_le_add_right (show _ ≤ 140 by assumption) 3) (by decide) | exact Nat.le_trans (Nat.add_le_add_right (show _ ≤ 150 by assumption) 3) (by decide) | (simp only [units_deeper]; omega)), rfl, by assumption, by assumption, by assumption⟩)
  (k_with "kind k_updF" => (with_reducible refine' updFapp ?w172a ?w172b; (case w172a => k_dflt (exact aboveNe (by with_reducible assumption) (by walk_at "adr"))); (case w172b => k_updF)))
  (k_with "kind k_ne" => ((try dsimp only); first | with_reducible assumption | exact Ne.symm (by with_reducible assumption) | walk_at "ne" | exact Nat.ne_of_gt (by omega)))
  (k_with "kind k_mem" => first | assumption | (refine List.mem_append_left _ ?_; k_mem) | (refine List.mem_append_right _ ?_; k_mem))
  (k_with "kind k_room" => (show _ < _; simp only [depth_under_make, depth_under_kw, depth_in1, depth_deeper, depth_caller, recursionLimit]; omega))
  (k_with "spliced" => (k_here; (with_reducible show wpAny _ _ (spliced (backTo _ (starEach (Expr.Constant (Const.str _) _ _ :: Expr.Constant (Const.str _) _ _ :: _) _))) _ _ _); (first | refine consts_display (.str (.str (.str (.str (.str (.str (.str (.str (.str .nil))))))))) (by decide) ?_ | refine consts_display (.str (.str (.str (.str (.str (.str (.str (.str (.str (.str .nil)))))))))) (by decide) ?_ | refine consts_display (.str (.str (.str (.str (.str (.str (.str (.str (.str (.str (.str (.str (.none (.str .nil)))))))))))))) (by decide) ?_); intro _ _ _ _))
  (k_with "exec For Tuple Call" => (refine Halt.to ?_))
  (k_with "call type:enumerate" => (refine Halt.to ?_))
  (k_with "pyIter ref" => (refine Halt.to ?_))
  (k_with "call ref" => (k_here; (with_reducible show wpAny _ _ (call (Value.ref 84) _ _) _ _ _); refine Halt.to ?_))
  (k_with "call ref" => (k_here; (with_reducible show wpAny _ _ (call (Value.ref 112) _ _) _ _ _); refine Halt.to ?_))
  (k_with "subscriptTail Name BinOp ref int" => ((have mk9 : Halt True := by with_reducible assumption); clear mk9; refine Halt.to ?_))
  trivial
set_option maxHeartbeats 4000000


theorem law_holds : PySem.Challenge.rw_in0087_01.Holds := Mine.hd (by
  k_fill
  intro w s₀ s₁ mg mb G Y fa o pm cd doc dV kV ho hd hcd hD hmg hg args vals as hpre hlay hrd hwl hlo
  have KX := km_in_of Y
  km_tabs Y
  have X := (Ground.X G).1
  have V := (Ground.X G).2
  refine Ground.open G ?_
  intro T B D TE TW
  try (refine guard_noD D (by decide +kernel) ?_; clear D)
  km_lay T hmg ho hd cd
  clear hmg
  wrow_args hpre hlay hrd hwl hlo
  all_goals (
    first | refine callC_kw (enter_call ?_) | refine enter_call ?_
    w_top on
    refine law_post hT9 ?hn ?hcl (fun _ => rfl) ?hp ?_
    case hn =>
      obtain ⟨mc, h1, _⟩ := T.nolimit
      exact ⟨mc, ghost_ns hT9 h1⟩
    case hcl => exact stat_cls KX
    case hp => first | with_unfolding_all rfl | kernel_rfl | decide +kernel
    w_call any ho hd hcd hD T F
    clear hd
    kn_ghosts F T
    k_drop
    (try k_fold)
    have hmk0 : Halt True := True.intro
    k_steps
    clear hmk0
    rename News _ _ _ _ => N1
    rename KeysAre _ _ _ => hks
    unfold Halt
    rename_i ns hs hlay0 hL1 hr1 hl2 w4 w3 S vs w0 hL ra w1 r0 hI hr hcond1 hcond h1' X1 T1 K1 lif1 cH1 l0 ksv tkv hzs kl h13 l15 h12 mgr dm h11 l14 l2 g' L' h10x B' X' T' tk1 dG h9 oG lo1 hs1 fs1 hi1 fi1 l13 h8 dS h7 oS lo hs0 fs hi fi l12 h6 F11 N11 Tc kX h5 told h4 l11 h3 F31 N31 h2 tk' tt F1a
    clear N31 F31 N11 F11 B' X' T' qk ek
    have hK0 : KindsAt w [(kl, W.listOf ksv.toArray 0)] kl := ⟨ksv, 0, .head _, hks⟩
    refine item_type (hs := by with_unfolding_all rfl) N1 ⟨ksv, 0, .tail _ (.tail _ (.tail _ (.tail _ (.tail _ (.head _))))), hks⟩ (Int.fmod_nonneg_of_pos _ (by decide)) (Int.fmod_lt_of_pos _ (by decide)) ?_
    intro x0 t0 hx0
    clear hks hzs
    k_steps
    rename Fr _ _ _ _ => F1
    rename News _ _ _ _ => N1b
    unfold Halt
    rename_i types h0a h10 h0b
    (try clear N1); (try clear F1a)
    refine law_pack N1b ?_
    clear N1b
    intro oM hM0 N2
    refine' message_ok ?C codeHd N2 ?h79 ?_
    case C => exact ⟨K1, F1, KS_in X1, T1, rfl, rfl, rfl, (by simp only [depth_deeper, depth_caller]; decide), (by simp only [units_deeper]; decide), rfl, cH1, KS_in X1, T1⟩
    case h79 => exact (allC (Nat.ne_of_gt (h10.2.2.2.2.2.2.2)) (allC (Nat.ne_of_gt (l11.2.2.2.2.2.2)) (allC (Nat.ne_of_gt (l12.2.2.2.2.2)) (allC (Nat.ne_of_gt (l13.2.2.2.2)) (allC (by decide : (86 : Addr) ≠ 79) (allC (Nat.ne_of_gt (Nat.lt_trans l14.2.2 l2)) (allC (Nat.ne_of_gt (l14.2.2)) (allC (Nat.ne_of_gt (l15.2)) (List.forall_mem_nil _)))))))))
    intro h2' tk own tab pg F2 N3 hP hA
    have aO : ∀ p ∈ own, @LT.lt Nat _ types p.1 ∧ @LT.lt Nat _ told p.1 ∧ @LT.lt Nat _ dS p.1 ∧ @LT.lt Nat _ dG p.1 ∧ @LT.lt Nat _ 86 p.1 := fun p hp =>
      ⟨hA p hp _ (.tail _ (.head _)), hA p hp _ (.tail _ (.tail _ (.head _))), hA p hp _ (.tail _ (.tail _ (.tail _ (.head _)))), hA p hp _ (.tail _ (.tail _ (.tail _ (.tail _ (.head _))))), hA p hp _ (.tail _ (.tail _ (.tail _ (.tail _ (.tail _ (.head _))))))⟩
    obtain ⟨R, hR⟩ : ∃ R, R = own ++ (79, tabObj tab) :: (mgr, instObj 66 dm) :: (dm, oM) :: (kl, W.listOf ksv.toArray 0) :: [] := ⟨_, rfl⟩
    have oR : ∀ p ∈ R, p.1 ≠ types ∧ p.1 ≠ told ∧ p.1 ≠ dS ∧ p.1 ≠ dG ∧ p.1 ≠ 86 := hR ▸ (allA (fun p hp => ⟨Nat.ne_of_gt (aO p hp).1, Nat.ne_of_gt (aO p hp).2.1, Nat.ne_of_gt (aO p hp).2.2.1, Nat.ne_of_gt (aO p hp).2.2.2.1, Nat.ne_of_gt (aO p hp).2.2.2.2⟩) (allC (⟨Nat.ne_of_lt (h10.2.2.2.2.2.2.2), Nat.ne_of_lt (l11.2.2.2.2.2.2), Nat.ne_of_lt (l12.2.2.2.2.2), Nat.ne_of_lt (l13.2.2.2.2), (by decide : (79 : Addr) ≠ 86)⟩) (allC (⟨Nat.ne_of_lt (h10.2.2.2.1), Nat.ne_of_lt (l11.2.2.1), Nat.ne_of_lt (l12.2.1), Nat.ne_of_lt (l13.1), Nat.ne_of_gt (Nat.lt_trans l14.2.1 l2)⟩) (allC (⟨Nat.ne_of_lt (h10.2.2.2.2.1), Nat.ne_of_lt (l11.2.2.2.1), Nat.ne_of_lt (l12.2.2.1), Nat.ne_of_lt (l13.2.1), Nat.ne_of_gt (l14.2.1)⟩) (allC (⟨Nat.ne_of_lt (h10.2.2.2.2.2.1), Nat.ne_of_lt (l11.2.2.2.2.1), Nat.ne_of_lt (l12.2.2.2.1), Nat.ne_of_lt (l13.2.2.1), Nat.ne_of_gt (l15.1)⟩) (List.forall_mem_nil _))))))
    have hM : MgrAt w R mgr dG dS := hM0.mono (hR ▸ (allC (List.mem_append_right _ (.tail _ (.head _))) (allC (List.mem_append_right _ (.tail _ (.tail _ (.head _)))) (List.forall_mem_nil _))))
    have hPg : PageAt w R pg told types := hP.mono (fun p hp => hR ▸ List.mem_append_left _ hp)
    have hK : KindsAt w R kl := hK0.mono (by
      intro p hp
      rw [hR]
      refine List.mem_append_right _ (.tail _ (.tail _ (.tail _ ?_)))
      exact hp)
    have h79 : (79, tabObj tab) ∈ R := hR ▸ List.mem_append_right _ (.head _)
    have N4 := news_pick N3
    rw [← hR] at N4
    clear N3 N2 hM0 hK0 hP hA aO F1
    have nds : (@LT.lt Nat _ 86 dG ∧ @LT.lt Nat _ 86 dS ∧ @LT.lt Nat _ 86 told ∧ @LT.lt Nat _ 86 types) ∧ (@LT.lt Nat _ dG dS ∧ @LT.lt Nat _ dG told ∧ @LT.lt Nat _ dG types) ∧ (@LT.lt Nat _ dS told ∧ @LT.lt Nat _ dS types) ∧ @LT.lt Nat _ told types :=
      ⟨⟨l13.2.2.2.1, l12.2.2.2.2.1, l11.2.2.2.2.2.1, h10.2.2.2.2.2.2.1⟩, ⟨l12.1, l11.2.1, h10.2.2.1⟩, ⟨l11.1, h10.2.1⟩, h10.1⟩
    clear l0 l15 l14 l2 l13 l12 l11 hR
    k_steps
    unfold Halt
    rename Fr _ _ _ _ => F5
    rename News _ _ _ _ => N5
    rename_i h23 tA h22 oA lA hsA fsA hiA fiA lA1 tB h21 oB lB hsB fsB hiB fiB lB1 tabs h20 lT1 h19
    refine wpAny_For (wpAny_iterAt F5 ((tabs, ({ cls := .type "tuple", data := .seq #[.ref tA, .ref tB] } : Obj)) :: (tB, oB) :: (tA, oA) :: (types, W.listOf #[Value.str (Str.ofString x0) t0] 0) :: (told, W.listOf #[] 0) :: (dS, oS) :: (dG, oG) :: (86, tabObj #[]) :: R) ?walk ?loop) (by intro _; with_unfolding_all rfl)
    case walk =>
      k_steps
      · rename_i D ws h24 F6 N6 hIw hC hL2 l6 hpos
        unfold Halt
        refine enum_made F6 N6 ?_ hIw (by omega) (fun h => ⟨_, rfl⟩)
        intro p hp
        exact Nat.ne_of_lt (allLt_get (l := (tabs, ({ cls := .type "tuple", data := .seq #[.ref tA, .ref tB] } : Obj)) :: (tB, oB) :: (tA, oA) :: (types, W.listOf #[Value.str (Str.ofString x0) t0] 0) :: (told, W.listOf #[] 0) :: (dS, oS) :: (dG, oG) :: (86, tabObj #[]) :: R) l6 p hp)
      · rename_i D ws h24 hIw hC hL2 l6 hpos l h25 F6 N6 l7
        unfold Halt
        refine enum_made (ws := [_, _, _, _, _]) (ms := [0, 4, 2, 6, 15]) F6 (news_drop2 N6) ?_ (.cons _ _ (.cons _ _ (.cons _ _ (.cons _ _ (.cons _ _ .nil))))) (by decide) (fun h => ⟨_, rfl⟩)
        intro p hp
        exact Nat.ne_of_lt (allLt_get (l := (tabs, ({ cls := .type "tuple", data := .seq #[.ref tA, .ref tB] } : Obj)) :: (tB, oB) :: (tA, oA) :: (types, W.listOf #[Value.str (Str.ofString x0) t0] 0) :: (told, W.listOf #[] 0) :: (dS, oS) :: (dG, oG) :: (86, tabObj #[]) :: R) l7.2 p hp)
    case loop =>
      intro e it l ws ms h30 tk30 hIw hz hE
      obtain ⟨⟨n1, n2, n3, n4⟩, ⟨n5, n6, n7⟩, ⟨n8, n9⟩, n10⟩ := nds
      have nd : (Adr.all ⟨told, dG, dS, tA, tB, types, mgr, pg, tabs⟩).Nodup := nodup7 ⟨⟨Nat.ne_of_gt n3, Nat.ne_of_gt n6, Nat.ne_of_gt n8, Nat.ne_of_lt lA1.2.1, Nat.ne_of_lt lB1.2.2.1, Nat.ne_of_lt n10⟩, ⟨Nat.ne_of_lt n1, Nat.ne_of_lt n2, Nat.ne_of_lt lA1.2.2.2.2.1, Nat.ne_of_lt lB1.2.2.2.2.2.1, Nat.ne_of_lt n4⟩,
        ⟨Nat.ne_of_lt n5, Nat.ne_of_lt lA1.2.2.2.1, Nat.ne_of_lt lB1.2.2.2.2.1, Nat.ne_of_lt n7⟩, ⟨Nat.ne_of_lt lA1.2.2.1, Nat.ne_of_lt lB1.2.2.2.1, Nat.ne_of_lt n9⟩, ⟨Nat.ne_of_lt lB1.1, Nat.ne_of_gt lA1.1⟩, Nat.ne_of_gt lB1.2.1⟩
      have off0 : ∀ p ∈ (tabs, ({ cls := .type "tuple", data := .seq #[.ref tA, .ref tB] } : Obj)) :: R, p.1 ∉ Adr.all ⟨told, dG, dS, tA, tB, types, mgr, pg, tabs⟩ :=
        (allC (off7 ⟨Nat.ne_of_gt lT1.2.2.2.1, Nat.ne_of_gt lT1.2.2.2.2.2.2.1, Nat.ne_of_gt lT1.2.2.2.2.2.1, Nat.ne_of_gt lT1.2.2.2.2.1, Nat.ne_of_gt lT1.2.1, Nat.ne_of_gt lT1.1, Nat.ne_of_gt lT1.2.2.1⟩) (fun p hp => off7 ⟨(oR p hp).2.1, (oR p hp).2.2.2.2, (oR p hp).2.2.2.1, (oR p hp).2.2.1, Nat.ne_of_lt (allLt_get lA1.2.2.2.2.2 p hp), Nat.ne_of_lt (allLt_get lB1.2.2.2.2.2.2 p hp), (oR p hp).1⟩))
      have sys0 : ∀ b ∈ Adr.all ⟨told, dG, dS, tA, tB, types, mgr, pg, tabs⟩, (b == sysModules) = false :=
        (allC (big_sys n3) (allC rfl (allC (big_sys n1) (allC (big_sys n2) (allC (big_sys lA1.2.2.2.2.1) (allC (big_sys lB1.2.2.2.2.2.1) (allC (big_sys n4) (List.forall_mem_nil _))))))))
      have I0 := inv_start (x := x0) (t := t0) nd off0 (hM.mono fun _ => List.mem_cons_of_mem _) (hPg.mono fun _ => List.mem_cons_of_mem _) (.head _) sys0 hs1 hs0 hsA hsB hx0
      refine wpAny_pyIter_enum hE.he ?_
      refine' loop_law (xi := Str.ofString "number") (xc := Str.ofString "v") K1 (KS_in X1) T1 cH1 (stat_start X1) I0 (hK.mono fun _ => List.mem_cons_of_mem _) (.tail _ h79) ?hsub hE hIw rfl rfl rfl rfl (by passes_own) ?turn ?done
      case hsub => exact sub_start
      case turn =>
        have hst1 := stat_ns X1
        clear F5 N5 I0 hE hK hPg hM oR h79; (try clear KX); (try clear Y); (try clear X); (try clear V); (try clear T); (try clear B); (try clear TE); (try clear TW); (try clear kX); (try clear Tc); (try clear X1); (try clear T1); (try clear K1); (try clear cH1); (try clear codeHd)
        clear nd off0 sys0 lA1 lB1 lT1 n1 n2 n3 n4 n5 n6 n7 n8 n9 n10 h10
        (try clear G)
        intro i k t u base st rest g h tk2 own hi TB BB XB TT hc hso I hK offO F N fin
        have X' := XB.keeps BB.stays
        have T' := TT.keeps BB.stays
        have hSc : S ≠ cStatics := by
          intro q
          obtain ⟨oS, hoS, hcS, nS, hdS⟩ := lif1
          obtain ⟨o2, es, ep, e2, hd2, _⟩ := hst1
          rw [q, e2] at hoS
          cases hoS
          rw [hdS] at hd2
          cases hd2
        have lif2 : g.IsList S vs.toArray := lif1.at fun o e => BB.stays _ _ (TB.other _ _ e hSc List.not_mem_nil)
        clear lif1 hst1 hIw
        have I1 := I.beside offO
        have N0 := N
        obtain ⟨tl, nn, tb, qG, qS, qA, qB, kG, kS, kA, kB, its, nt⟩ := st
        simp only [St.chg, List.cons_append, List.nil_append] at N
        replace F : Fr g s₁.heap.objs.size h _ := F
        replace N : News g s₁.heap.objs.size h _ := N
        revert X'
        k_fill
        intro X'
        k_steps
        unfold Halt
        have hTB := TB
        refine' deed_ok (a := ⟨told, dG, dS, tA, tB, types, mgr, pg, tabs⟩) (rest := own ++ rest) (n := i) ⟨BB, F, X', T', rfl, rfl, rfl, (by simp only [depth_deeper, depth_caller]; decide), (by simp only [units_deeper]; decide), rfl, hc, XB, TT⟩ ktsDicts_nil (hso.mono fun _ => List.mem_append_right _) N0 I1 (by omega) (by simp only [depth_deeper, depth_caller]; decide) (by simp only [units_deeper]; decide) (Int.fmod_nonneg_of_pos _ (by decide)) (Int.fmod_lt_of_pos _ (by decide)) ?_
        intro base' g2 h40 tk40 own' st' K N40 I40 S40 hits
        clear F N N0 X' T'
        have X' := K.XB.keeps K.B.stays
        have T' := K.TT.keeps K.B.stays
        have F := K.F
        have lif3 : g2.IsList S vs.toArray := lif2.at fun o e => K.T0.other _ _ e hSc List.not_mem_nil
        clear lif2 hSc
        obtain ⟨tl', nn', tb', rG, rS, rA, rB, jG, jS, jA, jB, its', nt'⟩ := st'
        dsimp only at hits
        subst hits
        obtain ⟨il, rfl⟩ : ∃ il : List Value, its' = il.toArray := ⟨its'.toList, by simp⟩
        simp only [St.chg, List.cons_append, List.nil_append] at N40
        have hmk : Halt True := True.intro
        k_steps
        unfold Halt
        rename News g2 _ _ _ => N41
        have hKb : KindsAt w ((told, W.listOf tl'.toArray nn') :: (86, tabObj tb') :: (dG, rG) :: (dS, rS) :: (tA, rA) :: (tB, rB) :: (types, W.listOf il.toArray nt') :: (own' ++ (own ++ rest))) kl := hK.mono fun p hp => .tail _ (.tail _ (.tail _ (.tail _ (.tail _ (.tail _ (.tail _ (List.mem_append_right _ (List.mem_append_right _ hp))))))))
        refine item_type (hs := by with_unfolding_all rfl) N41 hKb (Int.fmod_nonneg_of_pos _ (by decide)) (Int.fmod_lt_of_pos _ (by decide)) ?_
        intro x1 t1' hx1
        have hzt : il.toArray.size ≤ sizeLine := by
          have := I40.lt
          dsimp only at this
          rw [sizeLine_eq]
          omega
        obtain ⟨R2, hR2⟩ : ∃ R2, R2 = (told, W.listOf tl'.toArray nn') :: (86, tabObj tb') :: (dG, rG) :: (dS, rS) :: (tA, rA) :: (tB, rB) :: (own' ++ (own ++ rest)) := ⟨_, rfl⟩
        have oR2 : ∀ p ∈ R2, p.1 ≠ types := by
          obtain ⟨⟨-, -, -, -, -, n1⟩, ⟨-, -, -, -, n2⟩, ⟨-, -, -, n3⟩, ⟨-, -, n4⟩, ⟨-, n5⟩, n6⟩ := I40.nds
          rw [hR2]
          exact (allC n1 (allC n2 (allC n3 (allC n4 (allC n5 (allC n6 (fun p hp q => I40.off p hp (q ▸ (.tail _ (.tail _ (.tail _ (.tail _ (.tail _ (.tail _ (.head _)))))))))))))))
        have N42 := news_last7 N41
        rw [← hR2] at N42
        clear N41 N40 hKb
        k_steps
        show wpAny _ _ (call (Value.builtin "list.append") [Value.ref types, Value.str (Str.ofString x1) t1']) _ _ _
        k_steps
        rename Fr g2 _ _ _ => F43
        rename News g2 _ _ _ => N43
        rw [hR2] at N43
        exact fin base' g2 h40 _ own' ⟨tl', nn', tb', rG, rS, rA, rB, jG, jS, jA, jB, il.toArray, nt'⟩ x1 t1' (nt' + 1) _ _ _ K I40 S40 hx1 F43 (news_first7 N43)
      case done =>
        clear F5 N5 I0 hE hK hPg hM oR h79 hIw nd off0 sys0 lA1 lB1 lT1 h10
        intro h50 tk50 n g m news hP F N
        obtain ⟨hE1, hE2⟩ := law_fin hP F N
        obtain ⟨base, st, rest, vi, vc, TB, BB, XB, TT, hc, hso, I, rfl, hK, h79, rfl⟩ := hP
        have X' := XB.keeps BB.stays
        have T' := TT.keeps BB.stays
        dsimp only
        k_steps
        exact ⟨rfl, hE1, hE2, rfl, hg⟩))
end

end Mine
end

theorem PySem.Challenge.cw_in0087_01_holds : PySem.Challenge.rw_in0087_01.Holds :=
  Mine.law_holds
