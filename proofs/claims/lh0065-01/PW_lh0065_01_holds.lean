import PyProof.Rows.All
import Wide.All
import OpenK.AllK
import Wide.FinOn
import PySem.Challenge.RW_lh0065_01
open PySem PySem.W PyProof.Rows
set_option Elab.async false
set_option maxRecDepth 100000
set_option maxHeartbeats 0
set_option pp.deepTerms false
set_option linter.all false
set_option compiler.extract_closed false
namespace Mine
section
theorem said : OpenLaw.wellSaid PySem.Challenge.rw_lh0065_01 = true := by
  delta OpenLaw.wellSaid
  repeat' (with_reducible refine look_both ?_ ?_)
  all_goals try (delta OpenRow.wellSaid; repeat' (with_reducible refine look_both ?_ ?_))
  all_goals try (delta OpenRow.partSaid; repeat' (with_reducible refine look_both ?_ ?_))
  all_goals try (delta looksOpen; repeat' (with_reducible refine look_both ?_ ?_))
  all_goals decide +kernel
/-- the top's statements that do not assign -/
noncomputable def view : Program := { PySem.Challenge.rw_lh0065_01.row.toRowW.prog with main := { PySem.Challenge.rw_lh0065_01.row.toRowW.prog.main with body := [PySem.Challenge.rw_lh0065_01.row.toRowW.prog.main.body[0]!, PySem.Challenge.rw_lh0065_01.row.toRowW.prog.main.body[2]!, PySem.Challenge.rw_lh0065_01.row.toRowW.prog.main.body[3]!, PySem.Challenge.rw_lh0065_01.row.toRowW.prog.main.body[4]!, PySem.Challenge.rw_lh0065_01.row.toRowW.prog.main.body[5]!, PySem.Challenge.rw_lh0065_01.row.toRowW.prog.main.body[7]!, PySem.Challenge.rw_lh0065_01.row.toRowW.prog.main.body[9]!, PySem.Challenge.rw_lh0065_01.row.toRowW.prog.main.body[10]!, PySem.Challenge.rw_lh0065_01.row.toRowW.prog.main.body[12]!, PySem.Challenge.rw_lh0065_01.row.toRowW.prog.main.body[13]!, PySem.Challenge.rw_lh0065_01.row.toRowW.prog.main.body[14]!, PySem.Challenge.rw_lh0065_01.row.toRowW.prog.main.body[16]!, PySem.Challenge.rw_lh0065_01.row.toRowW.prog.main.body[17]!, PySem.Challenge.rw_lh0065_01.row.toRowW.prog.main.body[18]!, PySem.Challenge.rw_lh0065_01.row.toRowW.prog.main.body[19]!, PySem.Challenge.rw_lh0065_01.row.toRowW.prog.main.body[20]!] } }
set_option hygiene false in
local macro_rules | `(tactic| o_head $H) => `(tactic| (refine holds_open (q := Mine.view) (loose := [Str.ofString "SparseMerkleProof", Str.ofString "SparseMerkleTree", Str.ofString "_law_values"]) (Xt := fun s => xlAt Mine.view [] s && recOk (RowW.records PySem.Challenge.rw_lh0065_01.row.toRowW) s) (XP := XL Mine.view []) (Yf := Hook.obs $H) (Ya := Hook.val $H) (YP := Hook.says $H) (N := 4140) ?hl (Hook.of $H) (Hook.keeps $H) (fun s e => xl_of s (Bool.and_eq_true_iff.mp e).1) XL.keeps (by rfl) (by rfl) (by rfl) (fun s e => recFacts_of (Bool.and_eq_true_iff.mp e).2) (by rfl) (by first | assumption | decide +kernel) (by decide +kernel) ⟨rfl, rfl, rfl, rfl, rfl, by decide +kernel⟩ ?hw ?hc; (case hl => exact fun w => by kernel_rfl)))
local macro_rules | `(tactic| o_law) => `(tactic| refine holds_law Mine.said fun said => ?_)
open_top hd for PySem.Challenge.rw_lh0065_01
end
theorem top_off : True := by
  w_top off
  trivial
end Mine
open PySem.Calls PySem.Spec
set_option maxHeartbeats 8000000
namespace Mine
section
/-- the goal as one name, while things are taken apart -/
theorem hideG {G : Prop} (h : (G → False) → False) : G := Classical.byContradiction h
theorem rm0 {d k K : Nat} (h : d + k < K) : d < K := Nat.lt_of_le_of_lt (Nat.le_add_right d k) h
theorem rm1 {d k K a : Nat} (h : d + k < K) (e : Nat.ble a k = true) : d + a < K := Nat.lt_of_le_of_lt (Nat.add_le_add_left (Nat.le_of_ble_eq_true e) d) h
theorem rm2 {d k K a b : Nat} (h : d + k < K) (e : Nat.ble (a + b) k = true) : d + a + b < K := by rw [Nat.add_assoc]; exact rm1 h e
theorem rm3 {d k K a b c : Nat} (h : d + k < K) (e : Nat.ble (a + b + c) k = true) : d + a + b + c < K := by rw [Nat.add_assoc d a b]; exact rm2 h e
theorem rm4 {d k K a b c f : Nat} (h : d + k < K) (e : Nat.ble (a + b + c + f) k = true) : d + a + b + c + f < K := by rw [Nat.add_assoc d a b]; exact rm3 h e
theorem rm5 {d k K a b c f g : Nat} (h : d + k < K) (e : Nat.ble (a + b + c + f + g) k = true) : d + a + b + c + f + g < K := by rw [Nat.add_assoc d a b]; exact rm4 h e
theorem nle {x n m : Nat} (h : x ≤ n) (e : Nat.ble n m = true) : x ≤ m := Nat.le_trans h (Nat.le_of_ble_eq_true e)
theorem nle_eq {x n m : Nat} (h : x = n) (e : Nat.ble n m = true) : x ≤ m := Nat.le_trans (Nat.le_of_eq h) (Nat.le_of_ble_eq_true e)
theorem nle_lt {x n m : Nat} (h : x < n) (e : Nat.ble n (m + 1) = true) : x ≤ m := Nat.le_of_lt_succ (Nat.lt_of_lt_of_le h (Nat.le_of_ble_eq_true e))
theorem nlt {x n m : Nat} (h : x < n) (e : Nat.ble n m = true) : x < m := Nat.lt_of_lt_of_le h (Nat.le_of_ble_eq_true e)
theorem nlt_le {x n m : Nat} (h : x ≤ n) (e : Nat.ble (n + 1) m = true) : x < m := Nat.lt_of_le_of_lt h (Nat.le_of_ble_eq_true e)
theorem nle_k8 {ks m : Nat} (h : ks = 1 ∨ ks = 2) (e : Nat.ble 16 m = true) : 8 * ks ≤ m := Nat.le_trans (by rcases h with rfl | rfl <;> decide) (Nat.le_of_ble_eq_true e)
theorem nle_k {ks m : Nat} (h : ks = 1 ∨ ks = 2) (e : Nat.ble 2 m = true) : ks ≤ m := Nat.le_trans (by rcases h with rfl | rfl <;> decide) (Nat.le_of_ble_eq_true e)
theorem nle_x8 {x ks m : Nat} (hx : x = 8 * ks) (h : ks = 1 ∨ ks = 2) (e : Nat.ble 16 m = true) : x ≤ m := by rw [hx]; exact nle_k8 h e
theorem nle_xk {x ks m : Nat} (hx : x = ks) (h : ks = 1 ∨ ks = 2) (e : Nat.ble 2 m = true) : x ≤ m := by rw [hx]; exact nle_k h e
theorem nle_i8 {i ks m : Nat} (hx : i < 8 * ks) (h : ks = 1 ∨ ks = 2) (e : Nat.ble 16 m = true) : i ≤ m := Nat.le_of_lt (Nat.lt_of_lt_of_le hx (nle_k8 h e))
theorem cl0 { b c : Prop} (h : b ∧ c) : b := h.1
theorem cl1 {a0 b c : Prop} (h : a0 ∧ b ∧ c) : b := h.2.1
theorem cl2 {a0 a1 b c : Prop} (h : a0 ∧ a1 ∧ b ∧ c) : b := h.2.2.1
theorem cl3 {a0 a1 a2 b c : Prop} (h : a0 ∧ a1 ∧ a2 ∧ b ∧ c) : b := h.2.2.2.1
theorem cl4 {a0 a1 a2 a3 b c : Prop} (h : a0 ∧ a1 ∧ a2 ∧ a3 ∧ b ∧ c) : b := h.2.2.2.2.1
theorem cl5 {a0 a1 a2 a3 a4 b c : Prop} (h : a0 ∧ a1 ∧ a2 ∧ a3 ∧ a4 ∧ b ∧ c) : b := h.2.2.2.2.2.1
theorem cl6 {a0 a1 a2 a3 a4 a5 b c : Prop} (h : a0 ∧ a1 ∧ a2 ∧ a3 ∧ a4 ∧ a5 ∧ b ∧ c) : b := h.2.2.2.2.2.2.1
theorem cl7 {a0 a1 a2 a3 a4 a5 a6 b c : Prop} (h : a0 ∧ a1 ∧ a2 ∧ a3 ∧ a4 ∧ a5 ∧ a6 ∧ b ∧ c) : b := h.2.2.2.2.2.2.2.1
theorem cl8 {a0 a1 a2 a3 a4 a5 a6 a7 b c : Prop} (h : a0 ∧ a1 ∧ a2 ∧ a3 ∧ a4 ∧ a5 ∧ a6 ∧ a7 ∧ b ∧ c) : b := h.2.2.2.2.2.2.2.2.1
theorem cq1 {a0 b : Prop} (h : a0 ∧ b) : b := h.2
theorem cq2 {a0 a1 b : Prop} (h : a0 ∧ a1 ∧ b) : b := h.2.2
end
local macro_rules | `(tactic| walk_at "MY cj") => do
  let z : Lean.TSyntax `tactic ← `(tactic| with_reducible assumption)
  let r ← ["cq1", "cq2", "cl0", "cl1", "cl2", "cl3", "cl4", "cl5", "cl6", "cl7", "cl8"].foldlM (fun (b : Lean.TSyntax `tactic) n => `(tactic| first | $b:tactic | exact $(Lean.mkIdent (.mkSimple n)) (by with_reducible assumption))) z
  return r
local macro_rules | `(tactic| walk_at "MY om2") => do
  let one (b : Lean.TSyntax `tactic) (x : String × Bool) : Lean.MacroM (Lean.TSyntax `tactic) := do
    let i := Lean.mkIdent (.mkSimple x.1)
    if x.2 then `(tactic| first | $b:tactic | exact $i (by with_reducible assumption) (by with_reducible assumption) rfl) else `(tactic| first | $b:tactic | exact $i (by with_reducible assumption) rfl)
  let z : Lean.TSyntax `tactic ← `(tactic| fail)
  let a ← [("rm1", false), ("rm2", false), ("rm3", false)].foldlM one z
  let b ← [("rm4", false), ("rm5", false)].foldlM one z
  let c ← [("nle", false), ("nle_eq", false), ("nle_lt", false), ("nle_k8", false), ("nle_x8", true), ("nle_k", false), ("nle_xk", true), ("nle_i8", true)].foldlM one z
  `(tactic| first | ((with_reducible show @Ne _ _ _); first | exact Nat.ne_of_lt (by walk_at "MY cj") | exact Nat.ne_of_gt (by walk_at "MY cj") | exact Nat.ne_of_lt (Nat.lt_trans (by with_reducible assumption) (by walk_at "MY cj")) | exact Nat.ne_of_gt (Nat.lt_trans (by with_reducible assumption) (by walk_at "MY cj"))) | ((with_reducible show @LT.lt _ _ _ _); first | $a:tactic | exact rm0 (by with_reducible assumption) | $b:tactic | walk_at "MY cj") | ((with_reducible show @LE.le _ _ _ _); $c:tactic))
local macro_rules | `(tactic| walk_at "MY om") => `(tactic| first | walk_at "MY om2" | ((with_reducible show @LT.lt _ _ _ _); first | exact Nat.le_of_ble_eq_true rfl | exact nlt (by with_reducible assumption) rfl | exact nlt_le (by with_reducible assumption) rfl) | ((with_reducible show @LE.le _ _ _ _); exact Nat.le_of_ble_eq_true rfl))
section
local macro_rules | `(tactic| omega) => `(tactic| first | walk_at "MY om" | omega +splitDisjunctions)
theorem rv_slot_next : Slot "reversed" "__next__" "reversed.__next__" :=
  .of (owner := "reversed") (n := "__next__") (by rw [typeLookup_type, builtinLookup_eq_fast]; kernel_rfl) (by decide +kernel) (by decide +kernel) (by decide +kernel)
    (by first | exact .inl (by decide +kernel) | exact .inr (by decide +kernel)) (by rw [isSubtype_type]; kernel_rfl)
theorem rv_entry_next : entryFor table "reversed.__next__" = some Builtin.«reversed.__next__» := entryFor_of_tree (by kernel_rfl)
theorem rv_args_next (a : Value) : argsOk "reversed.__next__" ⟨[a], []⟩ := by unfold argsOk; kernel_rfl
theorem rv_slot_iter : Slot "reversed" "__iter__" "reversed.__iter__" :=
  .of (owner := "reversed") (n := "__iter__") (by rw [typeLookup_type, builtinLookup_eq_fast]; kernel_rfl) (by decide +kernel) (by decide +kernel) (by decide +kernel)
    (by first | exact .inl (by decide +kernel) | exact .inr (by decide +kernel)) (by rw [isSubtype_type]; kernel_rfl)
theorem rv_args_iter (a : Value) : argsOk "reversed.__iter__" ⟨[a], []⟩ := by unfold argsOk; kernel_rfl
theorem rv_entry_iter : entryFor table "reversed.__iter__" = some Builtin.«dict_keyiterator.__iter__» :=
  entryFor_alias (id' := "dict_keyiterator.__iter__") (by kernel_rfl) (by first | rfl | decide +kernel | (unfold String.splitOn; simp +decide [String.splitOnAux])) (by decide +kernel) (by kernel_rfl)
theorem rv_slot_init : Slot "reversed" "__init__" "object.__init__" :=
  .of (owner := "object") (n := "__init__") (by rw [typeLookup_type, builtinLookup_eq_fast]; kernel_rfl) (by decide +kernel) (by decide +kernel) (by decide +kernel)
    (by first | exact .inl (by decide +kernel) | exact .inr (by decide +kernel)) (by rw [isSubtype_type]; kernel_rfl)
theorem rv_called : TypeCalled "reversed" "reversed.__new__" "object.__init__" :=
  ⟨by decide +kernel, PySem.F.create_reversed, ⟨_, _, PySem.F.mro_reversed⟩, PySem.F.made_reversed, PySem.F.plain_reversed_new, PySem.F.sub_reversed_self, rv_slot_init⟩

theorem rv_no_own : typeLookup (.type "tuple") "__reversed__" = pure none := by rw [typeLookup_type, builtinLookup_eq_fast]; kernel_rfl
theorem rv_nodict : isSubtype (.type "tuple") (.type "dict") = pure false := by rw [isSubtype_type]; kernel_rfl

def revT (l : Addr) (i : Int) : Obj := { cls := .type "reversed", data := .fields #[.ref l, rawInt i] }
def IsRevT (h : Heap) (a l : Addr) (i : Int) : Prop := ∃ o, h.get? a = some o ∧ o.cls = .type "reversed" ∧ o.data = .fields #[.ref l, rawInt i]
section
variable {prog : Program} {w : World} {A : Around} {E : Value → Shared → Prop} {s : Shared}
theorem IsRevT.typeIs {a l : Addr} {i : Int} (x : IsRevT s.heap a l i) : s.TypeIs (.ref a) "reversed" := let ⟨o, ho, hc, _⟩ := x; ⟨o, ho, hc⟩
theorem IsRevT.at {h h' : Heap} {a l : Addr} {i : Int} (x : IsRevT h a l i) (e : ∀ o, h.get? a = some o → h'.get? a = some o) : IsRevT h' a l i := let ⟨o, ho, r⟩ := x; ⟨o, e _ ho, r⟩
theorem IsTup.typeIs' {a : Addr} {items : Array Value} (x : IsTup s.heap a items) : s.TypeIs (.ref a) "tuple" := let ⟨o, ho, hc, _⟩ := x; ⟨o, ho, hc⟩
theorem rv_hasItem {l : Addr} {items : Array Value} {Q : Bool → Shared → Prop} (hl : IsTup s.heap l items) (h : Q true s) {t : Sem Bool} (ht : t = (do
  if ← isInstance (.ref l) (.type "dict") then return false
  match ← specialOf (.ref l) "__getitem__" with
  | none => return false
  | some (.builtin id) =>
    if ["tuple.__getitem__", "str.__getitem__", "bytes.__getitem__", "bytearray.__getitem__", "memoryview.__getitem__", "numpy.ndarray.__getitem__", "sqlite3.Row.__getitem__"].contains id then return true
    if id == "sqlite3.Blob.__getitem__" then return false
    unsupported "reversed.__new__:is-it-a-sequence"
  | some _ => return true)) : wpAny (model prog w) A t Q E s := by
  subst ht
  refine wpAny_bind (wpAny_isInstance (IsTup.typeIs' hl) rv_nodict ?_)
  simp only [Bool.false_eq_true, if_false]
  refine wpAny_bind (wpAny_specialOf (IsTup.typeIs' hl) PySem.F.slot_tuple_getitem.lookup ?_)
  exact wpAny_pure h

theorem code_reversed_tuple {l : Addr} {items : Array Value} {Q₁ : Value → Shared → Prop} (hl : IsTup s.heap l items) (hfit : (items.size : Int) < 2 ^ 63)
    (h : ∀ tk, Q₁ (.ref s.heap.objs.size) { s with heap := s.heap.push (revT l ((items.size : Int) - 1)), toks := tk }) :
    codeAny (model prog w) A (.call (.builtin "reversed.__new__") ⟨[.type "reversed", .ref l], []⟩) (wants Q₁ E) s := by
  refine codeAny_of_tree ?_
  show wpAny _ A.in1 (do checkBuiltinCall "reversed.__new__" ⟨[.type "reversed", .ref l], []⟩; again (.builtin "reversed.__new__" ⟨[.type "reversed", .ref l], []⟩)) _ _ s
  refine wpAny_bind (wpAny_of_eq (PySem.F.newCall_reversed_1 _) (wpAny_pure ⟨plainId_quiet PySem.F.plain_reversed_new _, codeAny_builtin PySem.F.entry_reversed_new ?_⟩))
  rw [Around.under_plainId PySem.F.plain_reversed_new _]
  unfold Builtin.«reversed.__new__»
  refine wpAny_bind (wpAny_of_eq (newClass_reversed _) ?_)
  try dsimp only
  refine wpAny_bind (wpAny_of_eq (a := ()) (by first | rfl | kernel_rfl) ?_)
  refine wpAny_bind (wpAny_of_eq (a := ()) (by first | rfl | kernel_rfl) ?_)
  try dsimp only
  refine wpAny_bind (wpAny_specialOf (IsTup.typeIs' hl) rv_no_own ?_)
  try dsimp only
  refine wpAny_bind (rv_hasItem hl ?_ rfl)
  simp only [Bool.not_true, Bool.false_eq_true, if_false]
  refine wpAny_bind (m := call (.builtin "len") [.ref l]) (PyProof.Rows.len_tuple hl hfit ?_)
  refine wpAny_bind (wpAny_of_eq (a := some (items.size : Int)) rfl ?_)
  try dsimp only
  refine wpAny_bind (m := newObj (.type "reversed") (.fields [Value.ref l, rawInt ((items.size : Int) - 1)].toArray)) (wpAny_newObj_type ?_ (by first | size_fits | exact True.intro))
  exact wpAny_pure (h _)

theorem call_reversed_tuple {l : Addr} {items : Array Value} {Q : Value → Shared → Prop} (hl : IsTup s.heap l items) (hfit : (items.size : Int) < 2 ^ 63)
    (h : ∀ tk, Q (.ref s.heap.objs.size) { s with heap := s.heap.push (revT l ((items.size : Int) - 1)), toks := tk }) : wpAny (model prog w) A (call (.type "reversed") [.ref l]) Q E s := by
  refine callType_codes (Q₁ := fun obj s₁ => s₁.TypeIs obj "reversed" ∧ Q obj s₁) rv_called (PySem.F.typeCall_reversed_1 _) PySem.F.entry_object_init
    (code_reversed_tuple hl hfit fun tk => ⟨⟨_, Heap.get?_push_size _ rfl, rfl⟩, h tk⟩) fun obj s₁ h₁ => ?_
  exact ⟨h₁.1, PySem.F.args_object_init_2 obj _, object_init_meets rv_called.init.lookup rv_called.made (by decide) prog w A.in1 _ s₁ ⟨h₁.1, rfl, h₁.2⟩⟩

theorem rv_next_item {it l : Addr} {i : Nat} {items : Array Value} {x : Value} {Q : Option Value → Shared → Prop} (hit : IsRevT s.heap it l (i : Int)) (hl : IsTup s.heap l items) (hx : items[i]? = some x) (hfit : (i : Int) < 2 ^ 63)
    (hQ : ∀ h' tk, IsRevT h' it l ((i : Int) - 1) → Heap.SameBut it s.heap h' → Q (some x) { s with heap := h', toks := tk }) : wpAny (model prog w) A (pyNext (.ref it)) Q E s := by
  obtain ⟨o, ho, hc, hd⟩ := id hit
  have hi : i < items.size := by
    rcases Nat.lt_or_ge i items.size with h | h
    · exact h
    · rw [Array.getElem?_eq_none h] at hx; cases hx
  unfold pyNext
  refine wpAny_bind (wpAny_attempt (wpAny_callSpecial?_slot (name := Str.ofString "__next__") hit.typeIs rv_slot_next
    (wpAny_call_entry rv_slot_next hit.typeIs rv_entry_next ?_ (rv_args_next _))))
  unfold Builtin.«reversed.__next__»
  refine wpAny_bind (wpAny_of_eq (a := (Value.ref it, [])) rfl ?_)
  try dsimp only
  refine wpAny_bind (wpAny_field ho hd (x := .ref l) rfl ?_)
  refine wpAny_bind (wpAny_field ho hd (x := rawInt (i : Int)) rfl ?_)
  show wpAny _ _ (if (i : Int) < 0 then _ else _) _ _ s
  rw [if_neg (by omega)]
  refine wpAny_bind (wpAny_specialOf (IsTup.typeIs' hl) PySem.F.slot_tuple_getitem.lookup ?_)
  simp only [Option.isNone_some, Bool.false_eq_true, if_false]
  refine wpAny_bind (wpAny_mkInt ?_)
  refine wpAny_bind (wpAny_attempt (PyProof.Rows.getItem_tuple (s := { s with toks := s.toks + 1 }) hl (by omega) hfit (j := i) (by unfold seqIndex?; simp; omega) hx ?_))
  try dsimp only
  refine wpAny_bind (wpAny_field (s := { s with toks := s.toks + 1 }) ho hd (x := rawInt (i : Int)) rfl ?_)
  show wpAny _ _ (setField (.ref it) 1 (rawInt ((i : Int) - 1)) >>= _) _ _ _
  refine wpAny_bind (wpAny_setField (s := { s with toks := s.toks + 1 }) ho hd (by simp) ?_)
  refine wpAny_pure ⟨x, rfl, wpAny_pure (hQ _ _ ?_ (Heap.SameBut.update ..))⟩
  exact ⟨_, Heap.get?_update_self _ ho (Obj.isFreed_of_fields (Obj.data_mapFields hd _)), (Obj.cls_mapFields ..).trans hc, by
    rw [Obj.data_mapFields hd]; simp⟩

theorem rv_next_end {it l : Addr} {Q : Option Value → Shared → Prop} (hh : A.handled = none) (hit : IsRevT s.heap it l (-1))
    (hQ : ∀ h' tk, Heap.ExtBut it s.heap h' → Q none { s with heap := h', toks := tk }) : wpAny (model prog w) A (pyNext (.ref it)) Q E s := by
  obtain ⟨o, ho, hc, hd⟩ := id hit
  unfold pyNext
  refine wpAny_bind (wpAny_attempt (wpAny_callSpecial?_slot (name := Str.ofString "__next__") hit.typeIs rv_slot_next
    (wpAny_call_entry rv_slot_next hit.typeIs rv_entry_next ?_ (rv_args_next _))))
  unfold Builtin.«reversed.__next__»
  refine wpAny_bind (wpAny_of_eq (a := (Value.ref it, [])) rfl ?_)
  try dsimp only
  refine wpAny_bind (wpAny_field ho hd (x := .ref l) rfl ?_)
  refine wpAny_bind (wpAny_field ho hd (x := rawInt (-1)) rfl ?_)
  show wpAny _ _ (if (-1 : Int) < 0 then _ else _) _ _ s
  rw [if_pos (by decide)]
  refine wpAny_bind (wpAny_rule ?_)
  refine wpAny_bind (m := (do setField (.ref it) 1 (rawInt (-1)); setField (.ref it) 0 .none)) (wpAny_bind (wpAny_setField ho hd (by simp) ?_))
  have e1 : (s.heap.update it (Obj.mapFields fun vs => vs.set! 1 (rawInt (-1)))).get? it = some (Obj.mapFields (fun vs => vs.set! 1 (rawInt (-1))) o) := Heap.get?_update_self _ ho (Obj.isFreed_of_fields (Obj.data_mapFields hd _))
  refine wpAny_setField (s := { s with heap := _ }) e1 (Obj.data_mapFields hd _) (by simp) ?_
  refine wpAny_bind (m := Builtin.SmallTypes.stopIteration) ?_
  show wpAny _ _ (newExc (.type "StopIteration") [] >>= _) _ _ _
  refine wpAny_bind ?_
  simp only [newExc, newTuple]
  refine wpAny_bind (wpAny_newObj_type ?_ (by size_fits))
  refine wpAny_bind (m := firstArgMember _ _) (wpAny_of_eq (a := Value.none) (by first | rfl | (simp only [firstArgMember]; rfl)) ?_)
  refine wpAny_newObj_type ?_ (by size_fits)
  simp only [raiseNew]
  refine wpAny_bind (wpAny_handled ?_)
  first | rw [show A.in1.handled = none from hh] | rw [hh]
  refine wpAny_bind (wpAny_pure (wpAny_throw ?_))
  refine wpAny_bind (wpAny_isInstance (T := "StopIteration") (b := true) ⟨_, Heap.get?_push_size _ rfl, rfl⟩ isSubtype_stop ?_)
  refine wpAny_pure (hQ _ _ ?_)
  exact ((((Heap.SameBut.update ..).extBut).trans ((Heap.SameBut.update ..).extBut)).push _).push _

theorem rv_iter_self {it l : Addr} {i : Int} {Q : Value → Shared → Prop} (hit : IsRevT s.heap it l i) (h : Q (.ref it) s) : wpAny (model prog w) A (pyIter (.ref it)) Q E s := by
  refine wpAny_pyIter_slot hit.typeIs rv_slot_iter (wpAny_call_entry rv_slot_iter hit.typeIs rv_entry_iter ?_ (rv_args_iter _))
  show wpAny _ _ (ret (.ref it)) _ _ s
  exact wpAny_pure ⟨_, rfl, "reversed", _, hit.typeIs, rv_slot_next.lookup, h⟩
end
theorem walks_tupRev {prog : Program} {w : World} {A : Around} (hh : A.handled = none) (I l : Addr) (hne : l ≠ I) (items : Array Value) (hfit : (items.size : Int) < 2 ^ 63) :
    Walks prog w A I [I, l] [I] items.size (fun i v => items[items.size - 1 - i]? = some v) (fun i h => i ≤ items.size ∧ IsRevT h I l ((items.size : Int) - 1 - (i : Int)) ∧ IsTup h l items) where
  sub := fun b hb => by simp at hb; simp [hb]
  frame := fun _ _ _ x hk => ⟨x.1, x.2.1.at fun o e => hk I (by simp) o e, let ⟨o, ho, r⟩ := x.2.2; ⟨o, hk l (by simp) o ho, r⟩⟩
  item := fun i s Q E hi x hQ => by
    have e : (items.size : Int) - 1 - (i : Int) = ((items.size - 1 - i : Nat) : Int) := by omega
    have hit := x.2.1
    rw [e] at hit
    have hx : items[items.size - 1 - i]? = some (items[items.size - 1 - i]'(by omega)) := Array.getElem?_eq_getElem (by omega)
    refine rv_next_item hit x.2.2 hx (by omega) fun h' tk hit' hs' => ?_
    have e2 : ((items.size - 1 - i : Nat) : Int) - 1 = (items.size : Int) - 1 - ((i + 1 : Nat) : Int) := by omega
    rw [e2] at hit'
    exact hQ _ h' tk hx ⟨hi, hit', let ⟨o, ho, r⟩ := x.2.2; ⟨o, (hs'.2 l hne).trans ho, r⟩⟩ fun b o hb eo => hs'.extBut b o (fun h => hb (by simp [h])) eo
  done := fun s Q E x hQ => by
    have e : (items.size : Int) - 1 - (items.size : Int) = -1 := by omega
    have hit := x.2.1
    rw [e] at hit
    exact rv_next_end hh hit fun h' tk he' => hQ h' tk fun b o hb eo => he' b o (fun h => hb (by simp [h])) eo
  self := fun _ _ _ _ x hQ => rv_iter_self x.2.1 hQ
end
section
local macro_rules | `(tactic| omega) => `(tactic| first | walk_at "MY om" | omega +splitDisjunctions)
section
variable {prog : Program} {w : World} {A : Around} {E : Value → Shared → Prop} {s : Shared} {env : Env} {h₀ : Heap} {x : Str} {body : List Stmt} {Q : Flow → Shared → Prop}
abbrev Led := List (Addr × Obj)
abbrev Loc := Str → Option Value
def TurnEnd (h₀ : Heap) (L : Addr) (J : Loc → Led → Prop) (own : Led) (adr : List Addr) (s₁ s₂ : Shared) : Prop :=
  ∃ h' tk m' news' nx, s₂ = { s₁ with heap := h', toks := tk } ∧ Fr h₀ L h' m' ∧ News h₀ L h' news' ∧ (∀ p ∈ nx, p ∈ news') ∧ (∀ p ∈ own, p ∈ news') ∧ nx.map (·.1) = adr ∧ J m' nx
def TurnPost (h₀ : Heap) (L : Addr) (J : Loc → Led → Prop) (own : Led) (adr : List Addr) (s₁ : Shared) (Q : Flow → Shared → Prop) (f : Flow) (s₂ : Shared) : Prop :=
  match f with
  | .ret v => Q (.ret v) s₂
  | .brk => Q .next s₂
  | _ => TurnEnd h₀ L J own adr s₁ s₂
theorem TurnEnd.intro {L : Addr} {J : Loc → Led → Prop} {m' : Loc} {own news' nx : Led} {adr : List Addr} {s₁ : Shared} {h' : Heap} {tk : Nat} (F : Fr h₀ L h' m') (N : News h₀ L h' news')
    (hj : J m' nx) (ha : nx.map (·.1) = adr) (hn : ∀ p ∈ nx, p ∈ news') (ho : ∀ p ∈ own, p ∈ news') : TurnEnd h₀ L J own adr s₁ { s₁ with heap := h', toks := tk } := ⟨h', tk, m', news', nx, rfl, F, N, hn, ho, ha, hj⟩

/-- a loop over anything that walks -/
theorem loop_walk {I : Addr} {fp wr : List Addr} {n : Nat} {P : Nat → Value → Prop} {St : Nat → Heap → Prop} {m : Loc} {news : Led} (J : Nat → Loc → Led → Prop)
    (W : Walks prog w A I fp wr n P St) (hLf : env.locals ∉ fp) (hwr : ∀ b ∈ wr, h₀.get? b = none) (hnw : ∀ p ∈ news, p.1 ∉ wr) (hst : St 0 s.heap) (F : Fr h₀ env.locals s.heap m) (N : News h₀ env.locals s.heap news) (h0 : J 0 m news)
    (turn : ∀ i v m₁ news₁ h tk own, i < n → P i v → J i m₁ news₁ → news₁.map (·.1) = news.map (·.1) → (∀ p ∈ own, p.1 ∈ fp) → Fr h₀ env.locals h (fun y => if y = x then some v else m₁ y) → News h₀ env.locals h (news₁ ++ own) →
      wpAny (model prog w) A (execs body env) (TurnPost h₀ env.locals (J (i + 1)) own (news.map (·.1)) { s with heap := h, toks := tk } Q) E { s with heap := h, toks := tk })
    (done : ∀ m₁ news₁ h tk, J n m₁ news₁ → news₁.map (·.1) = news.map (·.1) → Fr h₀ env.locals h m₁ → News h₀ env.locals h news₁ → Q .next { s with heap := h, toks := tk }) :
    LoopAtV prog w A h₀ env x body Q E (.ref I) s := by
  let J' : Nat → Loc → Led → Prop := fun i m₁ news₁ => news₁.map (·.1) = news.map (·.1) ∧ J i m₁ news₁
  have off : ∀ nx : Led, nx.map (·.1) = news.map (·.1) → ∀ p ∈ nx, p.1 ∉ wr := fun nx e p hp => by
    have : p.1 ∈ news.map (·.1) := e ▸ List.mem_map_of_mem hp
    obtain ⟨q, hq, e2⟩ := List.mem_map.mp this
    rw [← e2]; exact hnw q hq
  refine ⟨I, fp, wr, n, P, St, m, news, J', rfl, W, hLf, hwr, hnw, hst, F, N, ⟨rfl, h0⟩, ?_, ?_⟩
  · rintro i v m₁ news₁ s₁ own ⟨hh', tk', rfl⟩ hin hP ⟨hadr, hJ⟩ hoff hown _ _ _ F₁ N₁
    have N₂ : News h₀ env.locals hh' (news₁ ++ own) := fun p hp => N₁ p ((List.mem_append.mp hp).elim (fun h => List.mem_append.mpr (.inr h)) fun h => List.mem_append.mpr (.inl h))
    refine wpAny_mono (turn i v m₁ news₁ hh' tk' own hin hP hJ hadr hown F₁ N₂) (fun f s₂ p => ?_) fun _ _ e => e
    have fin : TurnEnd h₀ env.locals (J (i + 1)) own (news.map (·.1)) { s with heap := hh', toks := tk' } s₂ → LoopStepU h₀ env.locals wr own (J' (i + 1)) { s with heap := hh', toks := tk' } .next s₂ := by
      rintro ⟨h', tk, m', news', nx, e, F', N', hn, ho, ha, hm⟩
      exact ⟨rfl, h', tk, m', nx, e, F', fun p hp => N' p ((List.mem_append.mp hp).elim (ho p) (hn p)), off nx ha, ha, hm⟩
    cases f with
    | ret v => exact .ret p
    | brk => exact .brk p
    | next => exact .next (fin p)
    | cont => exact .cont (fin p)
  · rintro h' tk m' news' F' N' _ ⟨ha, hJ⟩
    exact done m' news' h' tk hJ ha F' N'

/-- the frame's names: what the loop stores, and the rest -/
theorem loc2 {m m₀ : Loc} {a b : Str} {va vb : Value} (ha : m a = some va) (hb : m b = some vb) (c : Str) (hm : ∀ z, z ≠ a → z ≠ b → z ≠ c → m z = m₀ z) :
    m = fun y => if y = a then some va else if y = b then some vb else if y = c then m y else m₀ y := by
  funext y
  by_cases h1 : y = a
  · simp [h1, ha]
  · by_cases h2 : y = b
    · subst h2; simp [hb, h1]
    · by_cases h3 : y = c
      · subst h3; simp [h1, h2]
      · simp [h1, h2, h3]; exact hm y h1 h2 h3

/-- the frame behind a turn: the named values, the loop's own names as they are, the rest as ahead of the loop -/
def frOf (vals : List (Str × Value)) (S : List Str) (u m₀ : Loc) : Loc := fun y => match vals.lookup y with
  | some v => some v
  | none => if S.contains y then u y else m₀ y
def Agree (S : List Str) (m m₀ : Loc) : Prop := ∀ z, S.contains z = false → m z = m₀ z
theorem Agree.refl {S : List Str} {m : Loc} : Agree S m m := fun _ _ => rfl
theorem Agree.set {S : List Str} {m m₀ : Loc} {a : Str} {v : Option Value} (h : Agree S m m₀) (ha : S.contains a = true) : Agree S (fun y => if y = a then v else m y) m₀ := fun z hz => by
  have : z ≠ a := fun e => by rw [e, ha] at hz; cases hz
  show (if z = a then v else m z) = m₀ z
  rw [if_neg this]; exact h z hz
theorem lookup_mem {vals : List (Str × Value)} {z : Str} {v : Value} (h : vals.lookup z = some v) : (z, v) ∈ vals := by
  induction vals with
  | nil => cases h
  | cons p r ih =>
    obtain ⟨a, b⟩ := p
    rw [List.lookup_cons] at h
    by_cases e : z = a
    · subst e
      rw [beq_self_eq_true] at h
      cases h; exact .head _
    · rw [beq_false_of_ne e] at h
      exact .tail _ (ih h)
theorem Agree.fr {vals : List (Str × Value)} {S : List Str} {u m₀ : Loc} (hs : vals.all (fun p => S.contains p.1) = true) : Agree S (frOf vals S u m₀) m₀ := fun z hz => by
  unfold frOf
  cases h : vals.lookup z with
  | some v =>
    have := List.all_eq_true.mp hs _ (lookup_mem h)
    rw [hz] at this; cases this
  | none => show (if S.contains z = true then u z else m₀ z) = m₀ z; rw [hz]; rfl
theorem frOf_eq {vals : List (Str × Value)} {S : List Str} {m m₀ : Loc} (hv : ∀ p ∈ vals, m p.1 = some p.2) (ha : Agree S m m₀) : m = frOf vals S m m₀ := by
  funext y
  unfold frOf
  cases h : vals.lookup y with
  | some v => exact hv _ (lookup_mem h)
  | none =>
    cases hc : S.contains y with
    | true => rfl
    | false => exact ha y hc

theorem loop_R {I : Addr} {fp wr : List Addr} {n : Nat} {P : Nat → Value → Prop} {St : Nat → Heap → Prop} {m : Loc} {news : Led} (S : List Str) (vals₀ : List (Str × Value)) (R : Nat → List (Str × Value) → Led → Prop)
    (W : Walks prog w A I fp wr n P St) (hLf : env.locals ∉ fp) (hwr : ∀ b ∈ wr, h₀.get? b = none) (hnw : ∀ p ∈ news, p.1 ∉ wr) (hst : St 0 s.heap) (F : Fr h₀ env.locals s.heap m) (N : News h₀ env.locals s.heap news)
    (hv₀ : ∀ p ∈ vals₀, m p.1 = some p.2) (h0 : R 0 vals₀ news)
    (turn : ∀ i v vals u news₁ h tk own, i < n → P i v → R i vals news₁ → news₁.map (·.1) = news.map (·.1) → (∀ p ∈ own, p.1 ∈ fp) → Fr h₀ env.locals h (fun y => if y = x then some v else frOf vals S u m y) → News h₀ env.locals h (news₁ ++ own) →
      wpAny (model prog w) A (execs body env) (TurnPost h₀ env.locals (fun m' nx => ∃ vals', R (i + 1) vals' nx ∧ (∀ p ∈ vals', m' p.1 = some p.2) ∧ Agree S m' m) own (news.map (·.1)) { s with heap := h, toks := tk } Q) E { s with heap := h, toks := tk })
    (done : ∀ vals u news₁ h tk, R n vals news₁ → news₁.map (·.1) = news.map (·.1) → Fr h₀ env.locals h (frOf vals S u m) → News h₀ env.locals h news₁ → Q .next { s with heap := h, toks := tk }) :
    LoopAtV prog w A h₀ env x body Q E (.ref I) s := by
  refine loop_walk (fun i m' nx => ∃ vals', R i vals' nx ∧ (∀ p ∈ vals', m' p.1 = some p.2) ∧ Agree S m' m) W hLf hwr hnw hst F N ⟨vals₀, h0, hv₀, Agree.refl⟩ ?_ ?_
  · rintro i v m₁ news₁ h tk own hi hP ⟨vals, hR, hv, ha⟩ hm ho F₁ N₁
    rw [frOf_eq hv ha] at F₁
    exact turn i v vals m₁ news₁ h tk own hi hP hR hm ho F₁ N₁
  · rintro m₁ news₁ h tk ⟨vals, hR, hv, ha⟩ hm F₁ N₁
    rw [frOf_eq hv ha] at F₁
    exact done vals m₁ news₁ h tk hR hm F₁ N₁

theorem loop_revT {D br : Addr} {vs : List Value} {m : Loc} {news : Led} (S : List Str) (vals₀ : List (Str × Value)) (R : Nat → List (Str × Value) → Led → Prop)
    (hh : A.handled = none) (hz : vs.length ≤ 16384) (F : Fr h₀ env.locals s.heap m) (N : News h₀ env.locals s.heap ((D, revT br ((vs.length : Int) - 1)) :: news)) (hm : (br, ({ cls := .type "tuple", data := .seq vs.toArray } : Obj)) ∈ news) (hD : ∀ p ∈ news, p.1 ≠ D)
    (hv₀ : ∀ p ∈ vals₀, m p.1 = some p.2) (h0 : R 0 vals₀ news)
    (turn : ∀ i v vals u news₁ h tk own, i < vs.length → vs[vs.length - 1 - i]? = some v → R i vals news₁ → news₁.map (·.1) = news.map (·.1) → (∀ p ∈ own, p.1 = D ∨ p.1 = br) → Fr h₀ env.locals h (fun y => if y = x then some v else frOf vals S u m y) → News h₀ env.locals h (news₁ ++ own) →
      wpAny (model prog w) A (execs body env) (TurnPost h₀ env.locals (fun m' nx => ∃ vals', R (i + 1) vals' nx ∧ (∀ p ∈ vals', m' p.1 = some p.2) ∧ Agree S m' m) own (news.map (·.1)) { s with heap := h, toks := tk } Q) E { s with heap := h, toks := tk })
    (done : ∀ vals u news₁ h tk, R vs.length vals news₁ → news₁.map (·.1) = news.map (·.1) → Fr h₀ env.locals h (frOf vals S u m) → News h₀ env.locals h news₁ → Q .next { s with heap := h, toks := tk }) :
    wpAny (model prog w) A (pyIter (.ref D)) (fun it s₂ => LoopAtV prog w A h₀ env x body Q E it s₂) E s := by
  have e1 : ((vs.length : Nat) : Int) - 1 = ((vs.toArray.size : Nat) : Int) - 1 - ((0 : Nat) : Int) := by simp
  have hI : IsRevT s.heap D br ((vs.length : Int) - 1) := ⟨_, (N _ (.head _)).1, rfl, rfl⟩
  have hT : IsTup s.heap br vs.toArray := ⟨_, (N _ (.tail _ hm)).1, rfl, _, rfl⟩
  have hne : br ≠ D := hD _ hm
  refine rv_iter_self hI ?_
  refine loop_R (n := vs.length) S vals₀ R (by have := walks_tupRev (prog := prog) (w := w) hh D br hne vs.toArray (by simp; omega); simpa using this) ?_ ?_ ?_ ?_ F (fun p hp => N p (.tail _ hp)) hv₀ h0 ?_ done
  · intro hq
    simp only [List.mem_cons, List.not_mem_nil, or_false] at hq
    rcases hq with hq | hq
    · exact (N _ (.head _)).2.1 hq.symm
    · exact (N _ (.tail _ hm)).2.1 hq.symm
  · intro b hb
    simp only [List.mem_cons, List.not_mem_nil, or_false] at hb
    subst hb; exact (N _ (.head _)).2.2
  · intro p hp hq
    simp only [List.mem_cons, List.not_mem_nil, or_false] at hq
    exact hD p hp hq
  · refine ⟨Nat.zero_le _, ?_, hT⟩
    simpa using hI
  · intro i v vals u news₁ h tk own hi hP hR hma ho F₁ N₁
    exact turn i v vals u news₁ h tk own hi hP hR hma (fun p hp => by simpa using ho p hp) F₁ N₁

theorem loop_range {r : Addr} {n : Nat} {B : Int} {t₀ u₀ v₀ : Tok} {m : Loc} {news : Led} (S : List Str) (vals₀ : List (Str × Value)) (R : Nat → List (Str × Value) → Led → Prop)
    (hh : A.handled = none) (hr : IsRange s.heap r 0 B 1 t₀ u₀ v₀) (hB : B = n) (hn : n ≤ 100000) (F : Fr h₀ env.locals s.heap m) (N : News h₀ env.locals s.heap news)
    (hv₀ : ∀ p ∈ vals₀, m p.1 = some p.2) (h0 : R 0 vals₀ news)
    (turn : ∀ (i : Nat) tv vals u news₁ h tk own, i < n → R i vals news₁ → news₁.map (·.1) = news.map (·.1) → (∀ p ∈ own, ∀ q ∈ news, p.1 ≠ q.1) → Fr h₀ env.locals h (fun y => if y = x then some (.int (i : Int) tv) else frOf vals S u m y) → News h₀ env.locals h (news₁ ++ own) →
      wpAny (model prog w) A (execs body env) (TurnPost h₀ env.locals (fun m' nx => ∃ vals', R (i + 1) vals' nx ∧ (∀ p ∈ vals', m' p.1 = some p.2) ∧ Agree S m' m) own (news.map (·.1)) { s with heap := h, toks := tk } Q) E { s with heap := h, toks := tk })
    (done : ∀ vals u news₁ h tk, R n vals news₁ → news₁.map (·.1) = news.map (·.1) → Fr h₀ env.locals h (frOf vals S u m) → News h₀ env.locals h news₁ → Q .next { s with heap := h, toks := tk }) :
    wpAny (model prog w) A (pyIter (.ref r)) (fun it s₂ => LoopAtV prog w A h₀ env x body Q E it s₂) E s := by
  subst hB
  have hsm : Builtin.Range.small 0 (n : Int) 1 = true := small_one (by decide) (by decide) (by omega) (by omega)
  have hsz : Builtin.Range.rangeSize 0 (n : Int) 1 = n := by
    unfold Builtin.Range.rangeSize
    rw [if_pos (by decide)]
    by_cases h : (0 : Int) < n
    · rw [if_pos h, Int.ediv_one]; omega
    · rw [if_neg h]; omega
  refine wpAny_pyIter_range hr hsm ?_
  have F2 := F.push (o := ({ cls := .type "range_iterator", data := .fields #[rawInt 0, rawInt (Builtin.Range.rangeSize 0 (n : Int) 1), rawInt 1] } : Obj))
  have lt : ∀ p ∈ news, p.1 < s.heap.objs.size := fun p hp => Heap.lt_size (N p hp).1
  have hL : env.locals < s.heap.objs.size := F.ns.lt
  refine loop_R (n := n) S vals₀ R (Walks.range (prog := prog) (w := w) hh s.heap.objs.size 0 1 n) ?_ ?_ ?_ ?_ F2 (fun p hp => ⟨Heap.get?_push_of_some _ (N p hp).1, (N p hp).2⟩) hv₀ h0 ?_ ?_
  · intro hq
    rw [List.mem_singleton] at hq
    exact absurd hL (by rw [hq]; exact Nat.lt_irrefl _)
  · intro b hb
    rw [List.mem_singleton] at hb
    subst hb
    exact next_is_new F
  · intro p hp hq
    rw [List.mem_singleton] at hq
    exact absurd (lt p hp) (by rw [hq]; exact Nat.lt_irrefl _)
  · rw [hsz]
    show IsRangeIter _ _ _ _ _
    simpa using Heap.get?_push_size _ rfl
  · intro i v vals u news₁ h tk own hi hP hR hma ho F₁ N₁
    obtain ⟨tv, rfl⟩ := hP
    have e : (0 : Int) + (i : Int) * 1 = i := by omega
    rw [e] at F₁
    exact turn i tv vals u news₁ h tk own hi hR hma (fun p hp q hq => by
      have := ho p hp
      rw [List.mem_singleton] at this
      exact fun e => absurd (lt q hq) (by rw [← e, this]; exact Nat.lt_irrefl _)) F₁ N₁
  · exact done
end
end
section
local macro_rules | `(tactic| omega) => `(tactic| first | walk_at "MY om" | omega +splitDisjunctions)
def rngIt (x n c : Int) : Obj := { cls := .type "range_iterator", data := .fields #[rawInt x, rawInt n, rawInt c] }
section
variable {prog : Program} {w : World} {A : Around} {E : Value → Shared → Prop} {s : Shared}
theorem rr_sub : isSubtype (.type "range_iterator") (.type "reversed") = pure false := by rw [isSubtype_type]; kernel_rfl
theorem call_range_reversed0 {r : Addr} {a b c n : Int} {t u v : Tok} {Q : Value → Shared → Prop} (hr : IsRange s.heap r a b c t u v) (hn : Builtin.Range.rangeSize a b c = n)
    (hs : (Builtin.Range.rangeFitsLong a && Builtin.Range.rangeFitsLong b && Builtin.Range.rangeFitsLong c && Builtin.Range.rangeFitsLong (-c) && Builtin.Range.rangeFitsLong (a - c) && Builtin.Range.rangeFitsLong n) = true)
    (h : Q (.ref s.heap.objs.size) { s with heap := s.heap.push (rngIt (a + (n - 1) * c) n (-c)) }) : wpAny (model prog w) A (call (.builtin "range.__reversed__") [.ref r]) Q E s := by
  have hT : s.TypeIs (.ref r) "range" := ⟨_, hr, rfl⟩
  refine wpAny_call_entry PySem.F.slot_range_reversed hT PySem.F.entry_range_reversed ?_ (PySem.F.args_range_reversed_1 _)
  obtain ⟨hp, g, d, tk, os⟩ := s
  subst hn
  have hc0 : ¬ (!(Builtin.Range.rangeFitsLong a && Builtin.Range.rangeFitsLong b && Builtin.Range.rangeFitsLong c && Builtin.Range.rangeFitsLong (-c) && Builtin.Range.rangeFitsLong (a - c) && Builtin.Range.rangeFitsLong (Builtin.Range.rangeSize a b c))) = true := by rw [hs]; decide
  wp_walk using wpAny_loadPart' hr
  rw [if_pos hs]
  exact ⟨_, rfl, h⟩
theorem code_reversed_range {r : Addr} {a b c n : Int} {t u v : Tok} {Q₁ : Value → Shared → Prop} (hr : IsRange s.heap r a b c t u v) (hn : Builtin.Range.rangeSize a b c = n)
    (hs : (Builtin.Range.rangeFitsLong a && Builtin.Range.rangeFitsLong b && Builtin.Range.rangeFitsLong c && Builtin.Range.rangeFitsLong (-c) && Builtin.Range.rangeFitsLong (a - c) && Builtin.Range.rangeFitsLong n) = true)
    (h : Q₁ (.ref s.heap.objs.size) { s with heap := s.heap.push (rngIt (a + (n - 1) * c) n (-c)) }) :
    codeAny (model prog w) A (.call (.builtin "reversed.__new__") ⟨[.type "reversed", .ref r], []⟩) (wants Q₁ E) s := by
  have hT : s.TypeIs (.ref r) "range" := ⟨_, hr, rfl⟩
  refine codeAny_of_tree ?_
  show wpAny _ A.in1 (do checkBuiltinCall "reversed.__new__" ⟨[.type "reversed", .ref r], []⟩; again (.builtin "reversed.__new__" ⟨[.type "reversed", .ref r], []⟩)) _ _ s
  refine wpAny_bind (wpAny_of_eq (PySem.F.newCall_reversed_1 _) (wpAny_pure ⟨plainId_quiet PySem.F.plain_reversed_new _, codeAny_builtin PySem.F.entry_reversed_new ?_⟩))
  rw [Around.under_plainId PySem.F.plain_reversed_new _]
  unfold Builtin.«reversed.__new__»
  refine wpAny_bind (wpAny_of_eq (newClass_reversed _) ?_)
  try dsimp only
  refine wpAny_bind (wpAny_of_eq (a := ()) (by first | rfl | kernel_rfl) ?_)
  refine wpAny_bind (wpAny_of_eq (a := ()) (by first | rfl | kernel_rfl) ?_)
  try dsimp only
  refine wpAny_bind (wpAny_specialOf hT PySem.F.slot_range_reversed.lookup ?_)
  try dsimp only
  refine wpAny_bind (wpAny_of_eq (PySem.F.slot_range_reversed.bind _) ?_)
  try dsimp only
  first
  | rw [if_neg (show ¬ ((Value.builtin "range.__reversed__" == Value.none) = true) from Bool.false_ne_true)]
  | (show wpAny _ _ (if (Value.builtin "range.__reversed__" == Value.none) = true then _ else _) _ _ _; rw [if_neg (show ¬ ((Value.builtin "range.__reversed__" == Value.none) = true) from Bool.false_ne_true)])
  refine wpAny_bind (wpAny_rule ?_)
  refine wpAny_bind (m := runValue (.call (.builtin "range.__reversed__") ⟨[.ref r], []⟩)) (show wpAny _ _ (call (.builtin "range.__reversed__") [.ref r]) _ _ _ from call_range_reversed0 hr hn hs ?_)
  first
  | exact wpAny_pure h
  | exact wpAny_bind (wpAny_pure (wpAny_pure h))
theorem call_reversed_range {r : Addr} {a b c n : Int} {t u v : Tok} {Q : Value → Shared → Prop} (hr : IsRange s.heap r a b c t u v) (hn : Builtin.Range.rangeSize a b c = n)
    (hs : (Builtin.Range.rangeFitsLong a && Builtin.Range.rangeFitsLong b && Builtin.Range.rangeFitsLong c && Builtin.Range.rangeFitsLong (-c) && Builtin.Range.rangeFitsLong (a - c) && Builtin.Range.rangeFitsLong n) = true)
    (h : Q (.ref s.heap.objs.size) { s with heap := s.heap.push (rngIt (a + (n - 1) * c) n (-c)) }) : wpAny (model prog w) A (call (.type "reversed") [.ref r]) Q E s := by
  refine callType_other (U := "range_iterator") (Q₁ := fun obj s₁ => obj = .ref s.heap.objs.size ∧ s₁ = { s with heap := s.heap.push (rngIt (a + (n - 1) * c) n (-c)) }) (by decide +kernel) PySem.F.create_reversed ⟨_, _, PySem.F.mro_reversed⟩ PySem.F.made_reversed rr_sub (PySem.F.typeCall_reversed_1 _) (code_reversed_range hr hn hs ⟨rfl, rfl⟩) ?_
  rintro obj s₁ ⟨rfl, rfl⟩
  exact ⟨⟨_, Heap.get?_push_size _ rfl, rfl⟩, h⟩
variable {h₀ : Heap} {L : Addr} {m : Loc} {news : Led}
theorem rev_rng {r : Addr} {n : Nat} {B : Int} {t u v : Tok} {Q : Value → Shared → Prop} (F : Fr h₀ L s.heap m) (N : News h₀ L s.heap news) (hr : IsRange s.heap r 0 B 1 t u v) (hB : B = (n : Int)) (hn : n ≤ 1000)
    (h : ∀ D h', Fr h₀ L h' m → News h₀ L h' ((D, rngIt ((n : Int) - 1) n (-1)) :: news) → (∀ p ∈ news, p.1 < D) → Q (.ref D) { s with heap := h' }) : wpAny (model prog w) A (call (.type "reversed") [.ref r]) Q E s := by
  subst hB
  have hsz : Builtin.Range.rangeSize 0 (n : Int) 1 = n := by
    unfold Builtin.Range.rangeSize
    rw [if_pos (by decide)]
    by_cases h : (0 : Int) < n
    · rw [if_pos h, Int.ediv_one]; omega
    · rw [if_neg h]; omega
  refine call_reversed_range hr hsz (by
    have : Builtin.Range.rangeFitsLong (n : Int) = true := by unfold Builtin.Range.rangeFitsLong; simp; omega
    rw [this]; decide) ?_
  have e : (0 : Int) + ((n : Int) - 1) * 1 = (n : Int) - 1 := by omega
  rw [e]
  exact h _ _ (F.push _) (News.push F N _) fun p hp => Heap.lt_size (N p hp).1
end
section
variable {prog : Program} {w : World} {A : Around} {s : Shared} {env : Env} {h₀ : Heap} {x : Str} {body : List Stmt}
/-- a loop down from n - 1 that breaks at turn k -/
def BrkAt (prog : Program) (w : World) (A : Around) (h₀ : Heap) (env : Env) (x : Str) (body : List Stmt) (Q : Flow → Shared → Prop) (E : Value → Shared → Prop) (it : Value) (s : Shared) : Prop :=
  ∃ (I : Addr) (n k : Nat) (m : Loc) (news : Led), it = .ref I ∧ k < n ∧ Fr h₀ env.locals s.heap m ∧ News h₀ env.locals s.heap ((I, rngIt ((n : Int) - 1) n (-1)) :: news) ∧ (∀ p ∈ news, p.1 ≠ I) ∧
    ∀ (i : Nat) h tk tv, i ≤ k → Fr h₀ env.locals h (fun y => if y = x then some (.int ((n : Int) - 1 - i) tv) else m y) → News h₀ env.locals h ((I, rngIt ((n : Int) - 1 - (i + 1 : Nat)) (n - (i + 1 : Nat)) (-1)) :: news) →
      wpAny (model prog w) A (execs body env) (fun f s' => if i = k then f = .brk ∧ Q .next s' else
        f = .next ∧ ∃ h' tk' tv', s' = { s with heap := h', toks := tk' } ∧ Fr h₀ env.locals h' (fun y => if y = x then some (.int ((n : Int) - 1 - i) tv') else m y) ∧ News h₀ env.locals h' ((I, rngIt ((n : Int) - 1 - (i + 1 : Nat)) (n - (i + 1 : Nat)) (-1)) :: news)) E { s with heap := h, toks := tk }
theorem for_brk {E : Value → Shared → Prop} {Q : Flow → Shared → Prop} {px pos : Pos} {iter : PySem.Expr} (h₀ : Heap) (hx : env.kindOf x = some .local)
    (hp : (env.scope.kind == .class || (env.scope.kind == .module && env.locals != env.globals)) = false)
    (h : wpAny (model prog w) A (eval iter env) (fun xv s₁ => wpAny (model prog w) A (pyIter xv) (fun it s₂ => BrkAt prog w A h₀ env x body Q E it s₂) E s₁) E s)
    (hs : ∀ x, foldedSetIterable iter env x = pure x := by intro _; rfl)
    (hE : PassesOwn (model prog w) A env E := by passes_own) :
    wpAny (model prog w) A (exec (.For (.Name x px) iter body [] pos) env) Q E s := by
  refine wpAny_For (wpAny_mono h (fun xv s₁ h₁ => wpAny_mono h₁ (fun it s₂ h₂ => ?_) fun _ _ e => e) fun _ _ e => e) hs
  refine hideG fun hG => ?_
  obtain ⟨I, n, k, m, news, rfl, hk, F, N, hI, step⟩ := h₂
  refine hG ?_
  clear hG
  refine codeAny_forLoop (fun j s' => ∃ (i : Nat) (h' : Heap) (tk : Nat) (m' : Loc), j = k + 1 - i ∧ i ≤ k ∧ s' = { s₂ with heap := h', toks := tk } ∧ Fr h₀ env.locals h' m' ∧ (∀ y, y ≠ x → m' y = m y) ∧
    News h₀ env.locals h' ((I, rngIt ((n : Int) - 1 - (i : Nat)) (n - (i : Nat)) (-1)) :: news)) ?_ (k + 1) ⟨0, s₂.heap, s₂.toks, m, by omega, by omega, rfl, F, fun _ _ => rfl, by simpa using N⟩
  intro j s' hJ
  refine hideG fun hG => ?_
  obtain ⟨i, h', tk, m', rfl, hi, rfl, F', hm, N'⟩ := hJ
  refine hG ?_
  clear hG
  have hit : IsRangeIter h' I ((n : Int) - 1 - (i : Nat)) (n - (i : Nat)) (-1) := (N' _ (.head _)).1
  refine wpAny_pyNext_range_item (s := { s₂ with heap := h', toks := tk }) hit (by omega) fun h₁ hit₁ hs₁ => ?_
  have hIL : I ≠ env.locals := (N' _ (.head _)).2.1
  have hI0 : h₀.get? I = none := (N' _ (.head _)).2.2
  have F₁ : Fr h₀ env.locals h₁ m' := F'.change hs₁ hIL hI0
  have e1 : (n : Int) - 1 - (i : Nat) + -1 = (n : Int) - 1 - (i + 1 : Nat) := by omega
  have e2 : (n : Int) - (i : Nat) - 1 = n - (i + 1 : Nat) := by omega
  rw [e1, e2] at hit₁
  have N₁ : News h₀ env.locals h₁ ((I, rngIt ((n : Int) - 1 - (i + 1 : Nat)) (n - (i + 1 : Nat)) (-1)) :: news) := by
    intro p hq
    cases hq with
    | head => exact ⟨hit₁, hIL, hI0⟩
    | tail _ hq => exact ⟨(hs₁.2 p.1 (hI p hq)).trans (N' p (.tail _ hq)).1, (N' p (.tail _ hq)).2⟩
  refine wpAny_assign_Name (wpAny_storeName_local hx F₁.ns (fun h₂ hn₂ hs₂ => ?_) hp)
  have F₂ := F₁.set hn₂ hs₂
  have N₂ := N₁.set hs₂
  have em : (fun y => if y = x then some (Value.int ((n : Int) - 1 - (i : Nat)) tk) else m' y) = fun y => if y = x then some (Value.int ((n : Int) - 1 - (i : Nat)) tk) else m y := by
    funext y
    by_cases hy : y = x
    · rw [if_pos hy, if_pos hy]
    · rw [if_neg hy, if_neg hy, hm y hy]
  try dsimp only at F₂
  rw [em] at F₂
  refine wpAny_mono (wpAny_passesOwn hE (step i h₂ (tk + 1 + 1) tk hi F₂ N₂)) (fun f s₃ h₃ => ?_) fun _ _ e => e
  by_cases hik : i = k
  · rw [if_pos hik] at h₃
    obtain ⟨rfl, h₃⟩ := h₃
    exact h₃
  · rw [if_neg hik] at h₃
    obtain ⟨rfl, h', tk', tv', rfl, F₃, N₃⟩ := h₃
    exact ⟨k + 1 - (i + 1), by omega, i + 1, h', tk', _, rfl, by omega, rfl, F₃, fun y hy => if_neg hy, N₃⟩
end
theorem for_brkF {prog : Program} {w : World} {A : Around} {s : Shared} {env : Env} {h₀ : Heap} {m : Loc} {x : Str} {body : List Stmt} {E : Value → Shared → Prop} {Q : Flow → Shared → Prop} {px pos : Pos} {iter : PySem.Expr} (_F : Fr h₀ env.locals s.heap m) (hx : env.kindOf x = some .local)
    (hp : (env.scope.kind == .class || (env.scope.kind == .module && env.locals != env.globals)) = false)
    (h : wpAny (model prog w) A (eval iter env) (fun xv s₁ => wpAny (model prog w) A (pyIter xv) (fun it s₂ => BrkAt prog w A h₀ env x body Q E it s₂) E s₁) E s)
    (hs : ∀ x, foldedSetIterable iter env x = pure x := by intro _; rfl)
    (hE : PassesOwn (model prog w) A env E := by passes_own) :
    wpAny (model prog w) A (exec (.For (.Name x px) iter body [] pos) env) Q E s := for_brk h₀ hx hp h hs hE
end
section
local macro_rules | `(tactic| omega) => `(tactic| first | walk_at "MY om" | omega +splitDisjunctions)
abbrev Txt := List UInt8
abbrev PR : Program := PySem.Challenge.rw_lh0065_01.row.prog
/-- big endian, k octets -/
def be : Nat → Nat → Txt
  | 0, _ => []
  | k + 1, n => be k (n / 256) ++ [(n % 256).toUInt8]
def addT (T : List Txt) (x : Txt) : List Txt := if x ∈ T then T else T ++ [x]
def hT (T : List Txt) (x : Txt) : Txt := be 32 (T.idxOf x + 1)
def TabRel (kvs : List (Txt × Value)) (T : List Txt) : Prop :=
  kvs.map (·.1) = T ∧ ∀ i x v, kvs[i]? = some (x, v) → ∃ t, v = Value.bytes (be 32 (i + 1)).toArray t

abbrev top5 (hd : Option Value) (dp un : Nat) (gd : Option (List Code)) (cn : Str) (cs : Scope) (L a : Addr) (ccd : Value) (cl : List (Str × Addr)) (outer : List Env) : Around :=
  { handled := hd, depth := dp, frames := some (envX cn cs L a ccd cl :: outer), guards := gd, units := un }

/-- what a call of the hash does, in any frame, over any ledger that holds the table in front -/
def HashSpec (w : World) (p : Program) (loose : List Str) (mean : ExcName → Option Value) (mg mb : Str → Option Value) (f tab : Addr) (H : List (Addr × Obj)) : Prop :=
  (∀ (h₀ h : Heap) (L : Addr) (l : List (Addr × Obj)), News h₀ L h l → (∀ q ∈ H, q ∈ l) → FnAt f h) ∧
  ∀ (hd : Option Value) (dp un : Nat) (gd : Option (List Code)) (cn : Str) (cs : Scope) (a : Addr) (ccd : Value) (cl : List (Str × Addr)) (outer : List Env) (A₀ : Around) (base h₀ : Heap) (L : Addr) (m : Str → Option Value) (own : List (Addr × Obj)) (s : Shared)
    (x : Txt) (t : Tok) (T : List Txt) (kvs : List (Txt × Value)) (o : Obj) (Q E : Value → Shared → Prop),
    Below A₀ base outer h₀ → Fr h₀ L s.heap m → (Mine.hd.heap_1 w.params).In h₀ → News h₀ L s.heap ((tab, o) :: own) → Top p loose mean mg mb h₀ → cs.kind = .function →
    (∀ q ∈ own, q.1 ≠ tab) → (∀ q ∈ H, q ∈ own) → o.IsDictOf (bytesKind PySem.Challenge.rw_lh0065_01.row.prog w) kvs → TabRel kvs T → T.length < 100000 → x.length ≤ 1000 → dp + 5 < recursionLimit → un + 50 < cLine →
    (∀ o' kvs' h' tk' t', o'.IsDictOf (bytesKind PySem.Challenge.rw_lh0065_01.row.prog w) kvs' → TabRel kvs' (addT T x) → Fr h₀ L h' m → News h₀ L h' ((tab, o') :: own) → Q (Value.bytes (hT (addT T x) x).toArray t') { s with heap := h', toks := tk' }) →
    wpAny (model PySem.Challenge.rw_lh0065_01.row.prog w) (top5 hd dp un gd cn cs L a ccd cl outer) (call (.ref f) [.bytes x.toArray t]) Q E s
end
theorem fill_state : ∀ (w : World) (h : Heap), (Mine.hd.heap_1 w.params).In h → PySem.Challenge.rw_lh0065_01 = PySem.Challenge.rw_lh0065_01 := by
  k_fill
  intro _ _ _; rfl
section
local macro_rules | `(tactic| omega) => `(tactic| first | walk_at "MY om" | omega +splitDisjunctions)
/-- the walk stands still here -/
def Stop (P : Prop) : Prop := P
theorem stop_ {P : Prop} (h : Stop P) : P := h
theorem go_ {P : Prop} (h : P) : Stop P := h
theorem ne_allLt {d : Addr} {l : Led} : AllLt d l → ∀ p ∈ l, p.1 ≠ d := by
  induction l with
  | nil => intro _ p hp; cases hp
  | cons a r ih =>
    rintro ⟨h, h2⟩ p hp
    cases hp with
    | head => exact Nat.ne_of_lt h
    | tail _ hp => exact ih h2 p hp
theorem ne_nil {d : Addr} : ∀ p ∈ ([] : Led), p.1 ≠ d := fun _ h => nomatch h
theorem ne_cons {d a : Addr} {o : Obj} {l : Led} (h : @Ne Nat a d) (r : ∀ p ∈ l, p.1 ≠ d) : ∀ p ∈ (a, o) :: l, p.1 ≠ d := by
  intro p hp
  cases hp with
  | head => exact h
  | tail _ hp => exact r p hp
theorem mems_nil {r : Led} : ∀ q ∈ ([] : Led), q ∈ r := fun _ h => nomatch h
theorem mems_cons {p : Addr × Obj} {l r : Led} (h : p ∈ r) (t : ∀ q ∈ l, q ∈ r) : ∀ q ∈ p :: l, q ∈ r := by
  intro q hq
  cases hq with
  | head => exact h
  | tail _ hq => exact t q hq
theorem vals_nil {m : Loc} : ∀ p ∈ ([] : List (Str × Value)), m p.1 = some p.2 := fun _ h => nomatch h
theorem vals_cons {m : Loc} {a : Str} {v : Value} {l : List (Str × Value)} (h : m a = some v) (t : ∀ p ∈ l, m p.1 = some p.2) : ∀ p ∈ (a, v) :: l, m p.1 = some p.2 := by
  intro q hq
  cases hq with
  | head => exact h
  | tail _ hq => exact t q hq
theorem ne_app {d : Addr} {l r : Led} (h1 : ∀ p ∈ l, p.1 ≠ d) (h2 : ∀ p ∈ r, p.1 ≠ d) : ∀ p ∈ l ++ r, p.1 ≠ d := fun p hp => (List.mem_append.mp hp).elim (h1 p) (h2 p)
theorem news_sub {h₀ h : Heap} {L : Addr} {l r : Led} (N : News h₀ L h l) (hs : ∀ p ∈ r, p ∈ l) : News h₀ L h r := fun p hp => N p (hs p hp)
/-- the values of a tuple or list of texts -/
def TxtsAre (vs : List Value) (bs : List Txt) : Prop := vs.length = bs.length ∧ ∀ (i : Nat) (v : Value), vs[i]? = some v → ∃ t, v = Value.bytes (List.toArray (bs.getD i [])) t
theorem name1 {h₀ h : Heap} {L a : Addr} {o : Obj} {r : Led} (_N : News h₀ L h ((a, o) :: r)) : ∃ z : Addr, z = a := ⟨a, rfl⟩
theorem name3 {h₀ h : Heap} {L a : Addr} {o : Obj} {q1 q2 : Addr × Obj} {r : Led} (_N : News h₀ L h (q1 :: q2 :: (a, o) :: r)) : ∃ z : Addr, z = a := ⟨a, rfl⟩
theorem nameO3 {h₀ h : Heap} {L a : Addr} {o : Obj} {q1 q2 : Addr × Obj} {r : Led} (_N : News h₀ L h (q1 :: q2 :: (a, o) :: r)) : ∃ z : Obj, z = o := ⟨o, rfl⟩
theorem nameO1 {h₀ h : Heap} {L a : Addr} {o : Obj} {r : Led} (_N : News h₀ L h ((a, o) :: r)) : ∃ z : Obj, z = o := ⟨o, rfl⟩
theorem name4 {h₀ h : Heap} {L a : Addr} {o : Obj} {q1 q2 q3 : Addr × Obj} {r : Led} (_N : News h₀ L h (q1 :: q2 :: q3 :: (a, o) :: r)) : ∃ z : Addr, z = a := ⟨a, rfl⟩
theorem nameV {vs : List Value} {l : List Txt} (_h : TxtsAre vs l) : ∃ z : List Value, z = vs := ⟨vs, rfl⟩
theorem name2 {h₀ h : Heap} {L a : Addr} {o : Obj} {q : Addr × Obj} {r : Led} (_N : News h₀ L h (q :: (a, o) :: r)) : ∃ z : Addr, z = a := ⟨a, rfl⟩
/-- an entry taken out of the ledger -/
inductive Pick (a : Addr) (o : Obj) : Led → Led → Prop
  | head {r} : Pick a o ((a, o) :: r) r
  | tail {p r r'} : Pick a o r r' → Pick a o (p :: r) (p :: r')
theorem Pick.news {a : Addr} {o : Obj} {l r : Led} (P : Pick a o l r) : ∀ {h₀ h : Heap} {L : Addr}, News h₀ L h l → News h₀ L h ((a, o) :: r) := by
  induction P with
  | head => exact fun N => N
  | @tail p r r' _ ih =>
    intro h₀ h L N
    have N1 := ih (fun q hq => N q (.tail _ hq))
    intro q hq
    cases hq with
    | head => exact N1 _ (.head _)
    | tail _ hq =>
      cases hq with
      | head => exact N _ (.head _)
      | tail _ hq => exact N1 _ (.tail _ hq)
theorem Pick.sub {a : Addr} {o : Obj} {l r : Led} (P : Pick a o l r) : ∀ q ∈ (a, o) :: r, q ∈ l := by
  induction P with
  | head => exact fun q h => h
  | @tail p r r' _ ih =>
    intro q hq
    cases hq with
    | head => exact .tail _ (ih _ (.head _))
    | tail _ hq =>
      cases hq with
      | head => exact .head _
      | tail _ hq => exact .tail _ (ih _ (.tail _ hq))
theorem Pick.mem {a : Addr} {o : Obj} {l r : Led} (P : Pick a o l r) : ∀ q ∈ l, q ∈ (a, o) :: r := by
  induction P with
  | head => exact fun q h => h
  | @tail p r r' _ ih =>
    intro q hq
    cases hq with
    | head => exact .tail _ (.head _)
    | tail _ hq =>
      cases ih q hq with
      | head => exact .head _
      | tail _ hq => exact .tail _ (.tail _ hq)
theorem of_allLt {d : Addr} {l : Led} : AllLt d l → ∀ p ∈ l, p.1 < d := by
  induction l with
  | nil => intro _ p hp; cases hp
  | cons a r ih =>
    rintro ⟨h, h2⟩ p hp
    cases hp with
    | head => exact h
    | tail _ hp => exact ih h2 p hp
theorem sub_cons {H l : Led} {p : Addr × Obj} (h : ∀ q ∈ H, q ∈ l) : ∀ q ∈ H, q ∈ p :: l := fun q hq => .tail _ (h q hq)
theorem sub_app {H l r : Led} (h : ∀ q ∈ H, q ∈ l) : ∀ q ∈ H, q ∈ l ++ r := fun q hq => List.mem_append_left _ (h q hq)

theorem be_length : ∀ k n, (be k n).length = k
  | 0, _ => rfl
  | k + 1, n => by simp [be, be_length k]
theorem hT_length (T : List Txt) (x : Txt) : (hT T x).length = 32 := be_length _ _
theorem addT_len (T : List Txt) (x : Txt) : T.length ≤ (addT T x).length ∧ (addT T x).length ≤ T.length + 1 := by
  unfold addT; split <;> simp <;> omega

def tupObj (vs : List Value) : Obj := { cls := .type "tuple", data := .seq vs.toArray }
def lstObj (vs : List Value) (n : Nat) : Obj := { cls := .type "list", data := .seq vs.toArray n }

section
variable {w : World} {p : Program} {loose : List Str} {mean : ExcName → Option Value} {mg mb : Str → Option Value} {f tab : Addr} {H : Led}
variable {hd : Option Value} {dp un : Nat} {gd : Option (List Code)} {cn : Str} {cs : Scope} {a : Addr} {ccd : Value} {cl : List (Str × Addr)} {outer : List Env} {A₀ : Around} {base h₀ : Heap} {L : Addr} {m : Loc} {news own : Led} {s : Shared}
    {x : Txt} {t : Tok} {T : List Txt} {kvs : List (Txt × Value)} {o : Obj} {Q E : Value → Shared → Prop}
theorem hash_fn (hash : HashSpec w p loose mean mg mb f tab H) {h : Heap} (N : News h₀ L h news) (hH : ∀ q ∈ H, q ∈ news) : FnAt f h := hash.1 _ _ _ _ N hH
theorem hash_use (hash : HashSpec w p loose mean mg mb f tab H) (B : Below A₀ base outer h₀) (F : Fr h₀ L s.heap m) (X : (Mine.hd.heap_1 w.params).In h₀) (N : News h₀ L s.heap news) (TT : Top p loose mean mg mb h₀) (hk : cs.kind = .function)
    (P : Pick tab o news own) (ho : o.IsDictOf (bytesKind PySem.Challenge.rw_lh0065_01.row.prog w) kvs) (hTR : TabRel kvs T) (hoff : ∀ q ∈ own, q.1 ≠ tab) (hH : ∀ q ∈ H, q ∈ own) (hl : T.length < 100000) (hx : x.length ≤ 1000) (hdp : dp + 5 < recursionLimit) (hun : un + 50 < cLine)
    (ret : ∀ o' kvs' h' tk' t', o'.IsDictOf (bytesKind PySem.Challenge.rw_lh0065_01.row.prog w) kvs' → TabRel kvs' (addT T x) → T.length ≤ (addT T x).length ∧ (addT T x).length ≤ T.length + 1 → (hT (addT T x) x).length = 32 → Fr h₀ L h' m → News h₀ L h' ((tab, o') :: own) → Q (.bytes (hT (addT T x) x).toArray t') { s with heap := h', toks := tk' }) :
    wpAny (model PySem.Challenge.rw_lh0065_01.row.prog w) (top5 hd dp un gd cn cs L a ccd cl outer) (call (.ref f) [.bytes x.toArray t]) Q E s :=
  hash.2 _ _ _ _ _ _ _ _ _ _ _ _ _ _ _ _ _ _ _ _ _ _ _ _ B F X (P.news N) TT hk hoff hH ho hTR hl hx hdp hun fun o' kvs' h' tk' t' a b c d => ret o' kvs' h' tk' t' a b (addT_len _ _) (hT_length _ _) c d
end
section
variable {prog : Program} {w : World} {A : Around} {E : Value → Shared → Prop} {s : Shared} {h₀ : Heap} {L : Addr} {m : Loc} {news own : Led}
theorem len_tup {br : Addr} {vs : List Value} {n : Nat} {Q : Value → Shared → Prop} (N : News h₀ L s.heap news) (hm : (br, tupObj vs) ∈ news) (hn : vs.length = n) (hz : n ≤ 16384)
    (h : Q (.int n (s.toks + 1)) { s with toks := s.toks + 1 + 1 }) : wpAny (model prog w) A (call (.builtin "len") [.ref br]) Q E s :=
  kun_lenT (k := n) (News.isTup N hm) (by simp [hn]) (by omega) h
theorem len_lst {br : Addr} {vs : List Value} {n e : Nat} {Q : Value → Shared → Prop} (N : News h₀ L s.heap news) (hm : (br, lstObj vs e) ∈ news) (hn : vs.length = n) (hz : n ≤ 16384)
    (h : Q (.int n (s.toks + 1)) { s with toks := s.toks + 1 + 1 }) : wpAny (model prog w) A (call (.builtin "len") [.ref br]) Q E s :=
  kun_lenL (k := n) (News.isList N hm) (by simp [hn]) (by omega) h
theorem len_txt {a : Txt} {t : Tok} {Q : Value → Shared → Prop} (hsz : a.length ≤ 16777216) (h : Q (.int a.length (s.toks + 1)) { s with toks := s.toks + 1 + 1 }) :
    wpAny (model prog w) A (call (.builtin "len") [.bytes a.toArray t]) Q E s :=
  len_bytes (by simpa using (by omega)) (by simpa using h)
theorem add_txt {a b : Txt} {t u : Tok} {Q : Value → Shared → Prop} (hsz : a.length + b.length ≤ 16777216) (h : ∀ t' k, Q (.bytes (a ++ b).toArray t') { s with toks := k }) :
    wpAny (model prog w) A (binaryOp .Add (.bytes a.toArray t) (.bytes b.toArray u)) Q E s :=
  KBy.add_bytes (by simpa using hsz) fun t' k => by simpa using h t' k
theorem rev_tup {br : Addr} {vs : List Value} {Q : Value → Shared → Prop} (F : Fr h₀ L s.heap m) (N : News h₀ L s.heap news) (hm : (br, tupObj vs) ∈ news) (hz : vs.length ≤ 16384)
    (h : ∀ D h' tk, Fr h₀ L h' m → News h₀ L h' ((D, revT br ((vs.length : Int) - 1)) :: news) → (∀ p ∈ news, p.1 < D) → Q (.ref D) { s with heap := h', toks := tk }) : wpAny (model prog w) A (call (.type "reversed") [.ref br]) Q E s := by
  refine call_reversed_tuple (News.isTup N hm) (by simp; omega) fun tk => ?_
  have e : ((vs.toArray.size : Nat) : Int) - 1 = (vs.length : Int) - 1 := by simp
  rw [e]
  exact h _ _ _ (F.push _) (News.push F N _) fun p hp => Heap.lt_size (N p hp).1
end
section
variable {prog : Program} {w : World} {A : Around} {E : Value → Shared → Prop} {s : Shared} {Q : Value → Shared → Prop}
theorem pow_lt64 {i : Nat} (h : i ≤ 40) : (((2 ^ i : Nat) : Int)).natAbs < 2 ^ 64 := by
  rw [Int.natAbs_natCast]; exact Nat.lt_of_le_of_lt (Nat.pow_le_pow_right (by decide) h) (by decide)
theorem shl_bit {i : Nat} {t u : Tok} (hi : i ≤ 40) (h : Q (.int ((2 ^ (i + 1) : Nat) : Int) s.toks) { s with toks := s.toks + 1 }) :
    wpAny (model prog w) A (inplaceOp .LShift (.int ((2 ^ i : Nat) : Int) t) (.int 1 u)) Q E s :=
  ilshift_int_small (by decide) (by decide) (pow_lt64 hi) (by
    have e : ((2 ^ i : Nat) : Int) * 2 ^ (1 : Int).toNat = ((2 ^ (i + 1) : Nat) : Int) := by
      rw [Nat.pow_succ]; simp
    rw [e]; exact h)
theorem bitAnd_nat (x y : Nat) : Builtin.bitAnd (x : Int) (y : Int) = ((x &&& y : Nat) : Int) := by
  unfold Builtin.bitAnd; simp
theorem nat_and_pow (x i : Nat) : x &&& 2 ^ i = if x.testBit i then 2 ^ i else 0 := by
  apply Nat.eq_of_testBit_eq
  intro j
  rw [Nat.testBit_and, Nat.testBit_two_pow]
  by_cases hij : i = j
  · subst hij
    cases x.testBit i <;> simp
  · cases x.testBit i <;> simp [hij, Nat.testBit_two_pow]
theorem and_bit {i x : Nat} {b : Bool} {t u : Tok} (hb : x.testBit i = b) (h : Q (.int (if b then ((2 ^ i : Nat) : Int) else 0) s.toks) { s with toks := s.toks + 1 }) :
    wpAny (model prog w) A (binaryOp .BitAnd (.int (x : Int) t) (.int ((2 ^ i : Nat) : Int) u)) Q E s :=
  and_int (by
    have e : Builtin.bitAnd (x : Int) ((2 ^ i : Nat) : Int) = if b then ((2 ^ i : Nat) : Int) else 0 := by
      rw [bitAnd_nat, nat_and_pow, hb]; cases b <;> simp
    rw [e]; exact h)
end
/-- the number that octets spell -/
def num (k : Txt) : Nat := k.foldl (fun a b => a * 256 + b.toNat) 0
section
variable {prog : Program} {w : World} {A : Around} {E : Value → Shared → Prop} {s : Shared} {Q : Value → Shared → Prop} {x : Addr} {h₀ : Heap} {L : Addr} {news : Led}
theorem value_num (k : Txt) : KFB.value (KBw.bInts k.toArray) = (num k : Int) := by
  unfold num KFB.value
  have := (KFB.fold_cast k 0).symm
  simpa [KBw.bInts] using this
theorem from_big {k : Txt} {t u : Tok} (N : News h₀ L s.heap news) (hm : (x, KFB.bound) ∈ news) (hl : k.length ≤ 8) (h : ∀ t' k', Q (.int (num k : Int) t') { s with toks := k' }) :
    wpAny (model prog w) A (call (.ref x) [.bytes k.toArray t, .str (Str.ofString "big") u]) Q E s :=
  KFB.call_big N hm rfl (by simpa [KBw.bInts] using hl) (by intro t' k'; rw [value_num]; exact h t' k')
end
end
section
section
open PySem.W
theorem vs_ne {K : Type} [DecidableEq K] {k k' : K} {v : Value} (hk : k' ≠ k) : ∀ kvs : List (K × Value), ((kvs.map fun kv => if kv.1 = k then (kv.1, v) else kv).find? fun kv => decide (kv.1 = k')).map (·.2) = (kvs.find? fun kv => decide (kv.1 = k')).map (·.2)
  | [] => rfl
  | (x, y) :: r => by
    have ih := vs_ne (v := v) hk r
    rw [List.map_cons, List.find?_cons, List.find?_cons]
    by_cases hx : x = k
    · have hn : ¬ x = k' := fun e => hk (e ▸ hx)
      simp only [hx, if_true]
      rw [hx] at hn
      simp only [hn, decide_false]
      exact ih
    · simp only [hx, if_false]
      by_cases h2 : x = k'
      · simp only [h2, decide_true]
      · simp only [h2, decide_false]; exact ih
theorem vs_eq {K : Type} [DecidableEq K] {k : K} {v : Value} : ∀ kvs : List (K × Value), kvs.any (fun kv => decide (kv.1 = k)) = true → ((kvs.map fun kv => if kv.1 = k then (kv.1, v) else kv).find? fun kv => decide (kv.1 = k)).map (·.2) = some v
  | [], h => by cases h
  | (x, y) :: r, h => by
    rw [List.map_cons, List.find?_cons]
    by_cases hx : x = k
    · simp only [hx, if_true, decide_true, Option.map_some]
    · simp only [hx, if_false, decide_false]
      exact vs_eq r (by simpa [hx] using h)
theorem valueAt_stored {K : Type} [DecidableEq K] (kvs : List (K × Value)) (k k' : K) (v : Value) : valueAt (stored kvs k v) k' = if k' = k then some v else valueAt kvs k' := by
  unfold valueAt stored
  by_cases h : kvs.any (fun kv => decide (kv.1 = k)) = true
  · rw [if_pos h]
    by_cases hk : k' = k
    · rw [if_pos hk, hk]; exact vs_eq kvs h
    · rw [if_neg hk]; exact vs_ne hk kvs
  · rw [if_neg h, List.find?_append]
    have hn : kvs.find? (fun kv => decide (kv.1 = k)) = none := by
      rw [List.find?_eq_none]; intro p hp e; exact h (List.any_eq_true.mpr ⟨p, hp, e⟩)
    by_cases hk : k' = k
    · rw [if_pos hk, hk, hn]; simp
    · have hk2 : ¬ k = k' := fun e => hk e.symm
      rw [if_neg hk]
      cases hf : kvs.find? (fun kv => decide (kv.1 = k')) <;> simp [hk2]
theorem stored_len {K : Type} [DecidableEq K] (kvs : List (K × Value)) (k : K) (v : Value) : (stored kvs k v).length ≤ kvs.length + 1 := by
  unfold stored; split <;> simp
end
theorem be_mod : ∀ k m n, be k m = be k n → m % 256 ^ k = n % 256 ^ k
  | 0, _, _, _ => by simp [Nat.mod_one]
  | k + 1, m, n, h => by
    unfold be at h
    obtain ⟨h1, h2⟩ := List.append_inj' h rfl
    have ih := be_mod k _ _ h1
    have h3 : m % 256 = n % 256 := by
      have h4 := (List.cons.inj h2).1
      have h5 : ((m % 256).toUInt8).toNat = ((n % 256).toUInt8).toNat := by rw [h4]
      have e8 (x : Nat) : (x.toUInt8).toNat = x % 256 := by simp [Nat.toUInt8_eq]
      rw [e8, e8] at h5
      omega +splitDisjunctions
    have e (x : Nat) : x % 256 ^ (k + 1) = x % 256 + 256 * (x / 256 % 256 ^ k) := by
      rw [Nat.pow_succ, Nat.mul_comm, Nat.mod_mul]
    rw [e, e, ih, h3]
theorem be_inj {k m n : Nat} (hm : m < 256 ^ k) (hn : n < 256 ^ k) (h : be k m = be k n) : m = n := by
  have := be_mod k m n h
  rwa [Nat.mod_eq_of_lt hm, Nat.mod_eq_of_lt hn] at this
theorem addT_pre (T : List Txt) (x : Txt) : T <+: addT T x := by
  unfold addT; split
  · exact List.prefix_refl _
  · exact List.prefix_append _ _
theorem mem_addT (T : List Txt) (x : Txt) : x ∈ addT T x := by
  unfold addT; split
  · assumption
  · simp
theorem addT_of_mem {T : List Txt} {x : Txt} (h : x ∈ T) : addT T x = T := by unfold addT; rw [if_pos h]
theorem pre_mem {T T' : List Txt} (h : T <+: T') {x : Txt} (hx : x ∈ T) : x ∈ T' := h.subset hx
theorem hT_pre {T T' : List Txt} (h : T <+: T') {x : Txt} (hx : x ∈ T) : hT T' x = hT T x := by
  obtain ⟨r, rfl⟩ := h
  unfold hT; rw [List.idxOf_append, if_pos hx]
theorem hT_inj {T : List Txt} (hl : T.length < 2 ^ 200) {x y : Txt} (hx : x ∈ T) (hy : y ∈ T) (h : hT T x = hT T y) : x = y := by
  unfold hT at h
  have h1 := List.idxOf_lt_length_of_mem hx
  have h2 := List.idxOf_lt_length_of_mem hy
  have e : T.idxOf x + 1 = T.idxOf y + 1 := be_inj (k := 32) (Nat.lt_of_lt_of_le (m := 2 ^ 200) (by omega +splitDisjunctions) (by decide)) (Nat.lt_of_lt_of_le (m := 2 ^ 200) (by omega +splitDisjunctions) (by decide)) h
  have e2 : T.idxOf x = T.idxOf y := by omega +splitDisjunctions
  have g1 := List.getElem_idxOf h1
  have g2 := List.getElem_idxOf h2
  rw [← g1, ← g2]
  congr 1
section
open PySem.W
theorem tabRel_has {kvs : List (Txt × Value)} {T : List Txt} (h : TabRel kvs T) (x : Txt) : (valueAt kvs x).isSome = decide (x ∈ T) := by
  rw [← h.1]
  unfold valueAt
  rw [Option.isSome_map]
  by_cases hx : x ∈ kvs.map (·.1)
  · rw [decide_eq_true hx]
    obtain ⟨p, hp, e⟩ := List.mem_map.mp hx
    rw [List.find?_isSome]; exact ⟨p, hp, by simp [e]⟩
  · rw [decide_eq_false hx]
    rw [Bool.eq_false_iff]
    intro hs
    rw [List.find?_isSome] at hs
    obtain ⟨p, hp, e⟩ := hs
    exact hx (List.mem_map.mpr ⟨p, hp, by simpa using e⟩)
theorem find_idx {kvs : List (Txt × Value)} {x : Txt} {p : Txt × Value} (h : kvs.find? (fun kv => decide (kv.1 = x)) = some p) : ∃ i, (kvs.map (·.1)).idxOf x = i ∧ kvs[i]? = some p ∧ p.1 = x := by
  induction kvs with
  | nil => simp at h
  | cons a r ih =>
    by_cases ha : a.1 = x
    · simp [ha] at h
      subst h; exact ⟨0, by simp [List.idxOf_cons, ha], rfl, ha⟩
    · simp [ha] at h
      obtain ⟨i, h1, h2, h3⟩ := ih h
      refine ⟨i + 1, ?_, by simpa using h2, h3⟩
      have : (a.1 == x) = false := by simpa using ha
      simp [List.idxOf_cons, this, h1]
theorem tabRel_get {kvs : List (Txt × Value)} {T : List Txt} (h : TabRel kvs T) {x : Txt} (hx : x ∈ T) : ∃ t, valueAt kvs x = some (Value.bytes (List.toArray (hT T x)) t) := by
  have hs := tabRel_has h x
  rw [decide_eq_true hx] at hs
  unfold valueAt at hs ⊢
  rw [Option.isSome_map] at hs
  obtain ⟨p, hp⟩ := Option.isSome_iff_exists.mp hs
  obtain ⟨i, h1, h2, h3⟩ := find_idx hp
  obtain ⟨t, ht⟩ := h.2 i p.1 p.2 (by rw [h2])
  refine ⟨t, ?_⟩
  rw [hp, Option.map_some, ht]
  unfold hT
  rw [← h.1, h1]
theorem tabRel_add {kvs : List (Txt × Value)} {T : List Txt} (h : TabRel kvs T) {x : Txt} (hx : x ∉ T) (t : Tok) : TabRel (stored kvs x (Value.bytes (List.toArray (be 32 (kvs.length + 1))) t)) (addT T x) := by
  have hn : ¬ kvs.any (fun kv => decide (kv.1 = x)) = true := by
    intro e
    obtain ⟨p, hp, e⟩ := List.any_eq_true.mp e
    exact hx (h.1 ▸ List.mem_map.mpr ⟨p, hp, by simpa using e⟩)
  unfold stored addT
  rw [if_neg hn, if_neg hx]
  refine ⟨by simp [h.1], ?_⟩
  intro i y v hy
  rw [List.getElem?_append] at hy
  split at hy
  · exact h.2 i y v hy
  · rename_i hi
    have : i - kvs.length = 0 := by
      rcases Nat.eq_zero_or_pos (i - kvs.length) with e | e
      · exact e
      · rw [List.getElem?_eq_none (by show ([_] : List (Txt × Value)).length ≤ _; exact e)] at hy; cases hy
    rw [this] at hy
    simp at hy
    have e : i = kvs.length := by omega +splitDisjunctions
    exact ⟨t, by rw [← hy.2, e]⟩
end
end
section
section
open PySem.W
/-- the tree's node of that height and place, as text -/
def node (T : List Txt) (leaf : Nat → Txt) : Nat → Nat → Txt
  | 0, p => leaf p
  | k + 1, p => hT T (node T leaf k (2 * p)) ++ hT T (node T leaf k (2 * p + 1))
def DbHas (kvs : List (Txt × Value)) (T : List Txt) (x : Txt) : Prop := x ∈ T ∧ ∃ t, valueAt kvs (hT T x) = some (Value.bytes (List.toArray x) t)
def TreeOk (kvs : List (Txt × Value)) (T : List Txt) (leaf : Nat → Txt) (d : Nat) : Prop := ∀ k, k ≤ d → ∀ p, p < 2 ^ (d - k) → DbHas kvs T (node T leaf k p)
def flip1 (q : Nat) : Nat := if q % 2 = 1 then q - 1 else q + 1
/-- the siblings of a key, the root's first -/
def sibs (T : List Txt) (leaf : Nat → Txt) (d key : Nat) : List Txt := (List.range d).map fun i => hT T (node T leaf (d - 1 - i) (flip1 (key / 2 ^ (d - 1 - i))))
theorem sibs_length (T : List Txt) (leaf : Nat → Txt) (d key : Nat) : (sibs T leaf d key).length = d := by simp [sibs]
theorem sibs_get {T : List Txt} {leaf : Nat → Txt} {d key i : Nat} (h : i < d) : (sibs T leaf d key).getD i [] = hT T (node T leaf (d - 1 - i) (flip1 (key / 2 ^ (d - 1 - i)))) := by
  rw [List.getD_eq_getElem?_getD]; simp [sibs, h]
theorem sibs_len32 {T : List Txt} {leaf : Nat → Txt} {d key : Nat} : ∀ b ∈ sibs T leaf d key, b.length = 32 := by
  intro b hb
  obtain ⟨i, _, rfl⟩ := List.mem_map.mp hb
  exact hT_length _ _
theorem DbHas.grow {kvs : List (Txt × Value)} {T T' : List Txt} {x : Txt} (h : DbHas kvs T x) (hp : T <+: T') : DbHas kvs T' x := ⟨pre_mem hp h.1, by rw [hT_pre hp h.1]; exact h.2⟩
theorem DbHas.put {kvs : List (Txt × Value)} {T : List Txt} {x y : Txt} {t : Tok} (hl : T.length < 2 ^ 200) (h : DbHas kvs T x) (hy : y ∈ T) : DbHas (stored kvs (hT T y) (Value.bytes (List.toArray y) t)) T x := by
  refine ⟨h.1, ?_⟩
  rw [valueAt_stored]
  by_cases e : hT T x = hT T y
  · rw [if_pos e, hT_inj hl h.1 hy e]; exact ⟨t, rfl⟩
  · rw [if_neg e]; exact h.2
theorem DbHas.new {kvs : List (Txt × Value)} {T : List Txt} {y : Txt} {t : Tok} (hy : y ∈ T) : DbHas (stored kvs (hT T y) (Value.bytes (List.toArray y) t)) T y :=
  ⟨hy, by rw [valueAt_stored, if_pos rfl]; exact ⟨t, rfl⟩⟩
theorem testBit_div (q j : Nat) : q.testBit j = decide (q / 2 ^ j % 2 = 1) := by
  rw [Nat.testBit_eq_decide_div_mod_eq]
theorem div_step (q : Nat) {d i : Nat} (h : i < d) : q / 2 ^ (d - i) = q / 2 ^ (d - 1 - i) / 2 := by
  have e : d - i = (d - 1 - i) + 1 := by omega +splitDisjunctions
  rw [e, Nat.pow_succ, Nat.div_div_eq_div_mul]
/-- one step down: the node's text, its two halves -/
theorem node_step {T : List Txt} {leaf : Nat → Txt} {d key i : Nat} (h : i < d) :
    ∃ A B : Txt, A.length = 32 ∧ B.length = 32 ∧ node T leaf (d - i) (key / 2 ^ (d - i)) = A ++ B ∧
      (key.testBit (d - 1 - i) = true → B = hT T (node T leaf (d - 1 - i) (key / 2 ^ (d - 1 - i))) ∧ A = hT T (node T leaf (d - 1 - i) (flip1 (key / 2 ^ (d - 1 - i))))) ∧
      (key.testBit (d - 1 - i) = false → A = hT T (node T leaf (d - 1 - i) (key / 2 ^ (d - 1 - i))) ∧ B = hT T (node T leaf (d - 1 - i) (flip1 (key / 2 ^ (d - 1 - i))))) := by
  have e : d - i = (d - 1 - i) + 1 := by omega +splitDisjunctions
  rw [div_step key h]
  have ht := testBit_div key (d - 1 - i)
  generalize key / 2 ^ (d - 1 - i) = q at ht ⊢
  rw [e]
  refine ⟨hT T (node T leaf (d - 1 - i) (2 * (q / 2))), hT T (node T leaf (d - 1 - i) (2 * (q / 2) + 1)), hT_length _ _, hT_length _ _, rfl, ?_, ?_⟩
  · intro hb
    rw [hb] at ht
    have h1 : q % 2 = 1 := of_decide_eq_true ht.symm
    have e1 : 2 * (q / 2) + 1 = q := by omega +splitDisjunctions
    have e2 : flip1 q = 2 * (q / 2) := by unfold flip1; rw [if_pos h1]; omega +splitDisjunctions
    rw [e2, e1]; exact ⟨rfl, rfl⟩
  · intro hb
    rw [hb] at ht
    have h1 : ¬ q % 2 = 1 := of_decide_eq_false ht.symm
    have e1 : 2 * (q / 2) = q := by omega +splitDisjunctions
    have e2 : flip1 q = q + 1 := by unfold flip1; rw [if_neg h1]
    rw [e2, e1]; exact ⟨rfl, rfl⟩
theorem key_div_lt {key d i : Nat} (hk : key < 2 ^ d) (h : i ≤ d) : key / 2 ^ (d - i) < 2 ^ (d - (d - i)) := by
  have e : d - (d - i) = i := by omega +splitDisjunctions
  rw [e, Nat.div_lt_iff_lt_mul (Nat.pos_of_ne_zero (by simp)), ← Nat.pow_add]
  have e2 : i + (d - i) = d := by omega +splitDisjunctions
  rw [e2]; exact hk
theorem TxtsAre.snoc {vs : List Value} {l : List Txt} {i : Nat} {b : Txt} {t : Tok} (h : TxtsAre vs (l.take i)) (hi : i < l.length) (e : l.getD i [] = b) : TxtsAre (vs ++ [Value.bytes (List.toArray b) t]) (l.take (i + 1)) := by
  have hl : vs.length = i := by rw [h.1, List.length_take]; omega +splitDisjunctions
  refine ⟨by simp [hl]; omega +splitDisjunctions, ?_⟩
  intro j v hj
  rw [List.getElem?_append] at hj
  split at hj
  · rename_i hlt
    obtain ⟨t', ht'⟩ := h.2 j v hj
    refine ⟨t', ?_⟩
    rw [ht', List.getD_eq_getElem?_getD, List.getD_eq_getElem?_getD, List.getElem?_take_of_lt (by omega +splitDisjunctions), List.getElem?_take_of_lt (by omega +splitDisjunctions)]
  · rename_i hge
    have hj0 : j - vs.length = 0 := by
      rcases Nat.eq_zero_or_pos (j - vs.length) with e0 | e0
      · exact e0
      · rw [List.getElem?_eq_none (by show ([_] : List Value).length ≤ _; exact e0)] at hj; cases hj
    have hji : j = i := by omega +splitDisjunctions
    subst hji
    rw [hj0] at hj
    refine ⟨t, ?_⟩
    rw [List.getD_eq_getElem?_getD, List.getElem?_take_of_lt (by omega +splitDisjunctions), ← List.getD_eq_getElem?_getD, e]
    exact (Option.some.inj hj).symm
theorem TxtsAre.reverse {vs : List Value} {l : List Txt} (h : TxtsAre vs l) : TxtsAre vs.reverse l.reverse := by
  refine ⟨by simp [h.1], ?_⟩
  intro i v hi
  have hlt : i < vs.length := by
    rcases Nat.lt_or_ge i vs.length with h1 | h1
    · exact h1
    · rw [List.getElem?_eq_none (by simpa using h1)] at hi; cases hi
  rw [List.getElem?_reverse hlt] at hi
  obtain ⟨t, ht⟩ := h.2 _ _ hi
  refine ⟨t, ?_⟩
  rw [ht, List.getD_eq_getElem?_getD, List.getD_eq_getElem?_getD, List.getElem?_reverse (by rw [← h.1]; exact hlt), h.1]
end
end
section
section
open PySem.W
def comb (path j : Nat) (b g : Txt) : Txt := if path.testBit j then b ++ g else g ++ b
/-- the table and the text that is hashed next, a step up at a time; the siblings written from the root down -/
def pst (path : Nat) (bs : List Txt) (T : List Txt) (v : Txt) : Nat → List Txt × Txt
  | 0 => (T, v)
  | j + 1 => (addT (pst path bs T v j).1 (pst path bs T v j).2, comb path j (bs.getD (bs.length - 1 - j) []) (hT (addT (pst path bs T v j).1 (pst path bs T v j).2) (pst path bs T v j).2))
/-- the hash of that step -/
def pg (path : Nat) (bs : List Txt) (T : List Txt) (v : Txt) (j : Nat) : Txt := hT (addT (pst path bs T v j).1 (pst path bs T v j).2) (pst path bs T v j).2
theorem pg_length (path : Nat) (bs : List Txt) (T : List Txt) (v : Txt) (j : Nat) : (pg path bs T v j).length = 32 := hT_length _ _
theorem pst_succ (path : Nat) (bs : List Txt) (T : List Txt) (v : Txt) (j : Nat) : pst path bs T v (j + 1) = (addT (pst path bs T v j).1 (pst path bs T v j).2, comb path j (bs.getD (bs.length - 1 - j) []) (pg path bs T v j)) := rfl
theorem pst_pre (path : Nat) (bs : List Txt) (T : List Txt) (v : Txt) (i : Nat) : ∀ k, (pst path bs T v i).1 <+: (pst path bs T v (i + k)).1
  | 0 => List.prefix_refl _
  | k + 1 => (pst_pre path bs T v i k).trans (addT_pre _ _)
theorem pst_len (path : Nat) (bs : List Txt) (T : List Txt) (v : Txt) : ∀ i, (pst path bs T v i).1.length ≤ T.length + i
  | 0 => Nat.le_refl _
  | i + 1 => Nat.le_trans (addT_len _ _).2 (by have := pst_len path bs T v i; omega +splitDisjunctions)
theorem pst_txt_len {n : Nat} (path : Nat) {bs : List Txt} (hb : ∀ b ∈ bs, b.length ≤ n) (T : List Txt) {v : Txt} (hv : v.length ≤ n + 32) : ∀ i, (pst path bs T v i).2.length ≤ n + 32
  | 0 => hv
  | i + 1 => by
    rw [pst_succ]
    have h1 := pg_length path bs T v i
    have h2 : (bs.getD (bs.length - 1 - i) []).length ≤ n := by
      rw [List.getD_eq_getElem?_getD]
      cases hi : bs[bs.length - 1 - i]? with
      | none => simp
      | some b => exact hb b (List.mem_of_getElem? hi)
    show (comb path i _ _).length ≤ _
    unfold comb
    split <;> rw [List.length_append] <;> omega +splitDisjunctions
/-- the store behind i steps: what it had, and each text so far -/
def DbGrown (kvs : List (Txt × Value)) (T : List Txt) (path : Nat) (bs : List Txt) (v : Txt) (i : Nat) (kvs' : List (Txt × Value)) : Prop :=
  (∀ x, DbHas kvs T x → DbHas kvs' (pst path bs T v i).1 x) ∧ (∀ j, j < i → DbHas kvs' (pst path bs T v i).1 (pst path bs T v j).2) ∧ kvs'.length ≤ kvs.length + i
theorem DbGrown.zero (kvs : List (Txt × Value)) (T : List Txt) (path : Nat) (bs : List Txt) (v : Txt) : DbGrown kvs T path bs v 0 kvs := ⟨fun _ h => h, fun _ h => absurd h (Nat.not_lt_zero _), Nat.le_refl _⟩
theorem DbGrown.succ {kvs : List (Txt × Value)} {T : List Txt} {path : Nat} {bs : List Txt} {v : Txt} {i : Nat} {kvs' : List (Txt × Value)} (h : DbGrown kvs T path bs v i kvs') (hl : T.length + i < 2 ^ 199) (t : Tok) :
    DbGrown kvs T path bs v (i + 1) (stored kvs' (pg path bs T v i) (Value.bytes (List.toArray (pst path bs T v i).2) t)) := by
  have hp := addT_pre (pst path bs T v i).1 (pst path bs T v i).2
  have hm := mem_addT (pst path bs T v i).1 (pst path bs T v i).2
  have hlen : (addT (pst path bs T v i).1 (pst path bs T v i).2).length < 2 ^ 200 := by
    have h1 := pst_len path bs T v i
    have h2 := (addT_len (pst path bs T v i).1 (pst path bs T v i).2).2
    omega +splitDisjunctions
  refine ⟨fun x hx => ((h.1 x hx).grow hp).put hlen hm, fun j hj => ?_, ?_⟩
  · rcases Nat.lt_succ_iff_lt_or_eq.mp hj with hj | rfl
    · exact ((h.2.1 j hj).grow hp).put hlen hm
    · exact DbHas.new hm
  · have := stored_len kvs' (pg path bs T v i) (Value.bytes (List.toArray (pst path bs T v i).2) t)
    have := h.2.2
    omega +splitDisjunctions
end
end
section
local macro_rules | `(tactic| omega) => `(tactic| first | walk_at "MY om" | omega +splitDisjunctions)
section
open PySem.W
variable {prog : Program} {w : World} {A : Around} {E : Value → Shared → Prop} {s : Shared} {h₀ : Heap} {L : Addr} {m : Loc} {news news' : Led} {Q : Value → Shared → Prop}
theorem bytes_is (k : Txt) (t : Tok) : (bytesKind prog w).is k (Value.bytes k.toArray t) = true := by show (k.toArray.toList == k) = true; simp
theorem app_lst {D : Addr} {vs : List Value} {n : Nat} {x : Value} (F : Fr h₀ L s.heap m) (N : News h₀ L s.heap news) (U : Upd D (lstObj vs n) (lstObj (vs ++ [x]) (n + 1)) news news') (hz : vs.length ≤ 10000)
    (h : ∀ h', Fr h₀ L h' m → News h₀ L h' news' → Q .none { s with heap := h' }) : wpAny (model prog w) A (call (.builtin "list.append") [.ref D, x]) Q E s :=
  append_K (its := vs.toArray) (n := n) F N (by
    have e : (vs.toArray.push x) = (vs ++ [x]).toArray := by simp
    rw [e]; exact U) h (by rw [List.size_toArray, sizeLine_eq]; omega)
theorem shr_one {z : Nat} {t u : Tok} (h : Q (.int ((z / 2 : Nat) : Int) s.toks) { s with toks := s.toks + 1 }) : wpAny (model prog w) A (inplaceOp .RShift (.int (z : Int) t) (.int 1 u)) Q E s :=
  irshift_int (by decide) (by
    have e : Int.fdiv (z : Int) (2 ^ (1 : Int).toNat) = ((z / 2 : Nat) : Int) := by
      rw [Int.fdiv_eq_ediv_of_nonneg _ (by decide)]; simp
    rw [e]; exact h)
theorem tup_of_lst {l : Addr} {vs : List Value} {n : Nat} (F : Fr h₀ L s.heap m) (N : News h₀ L s.heap news) (hm : (l, lstObj vs n) ∈ news) (hz : vs.length ≤ 10000)
    (h : ∀ D h' tk, Fr h₀ L h' m → News h₀ L h' ((D, tupObj vs) :: news) → (∀ p ∈ news, p.1 < D) → Q (.ref D) { s with heap := h', toks := tk }) : wpAny (model prog w) A (call (.type "tuple") [.ref l]) Q E s := by
  refine call_tuple_list (News.isList N hm) (fun h' keep => ?_) (by rw [List.size_toArray, sizeLine_eq]; omega)
  have F2 := F.keeps keep
  have N2 := N.grown keep
  exact h _ _ _ (F2.push _) (News.push F2 N2 _) fun p hp => Heap.lt_size (N2 p hp).1
theorem picked_lo {a b : Txt} (ha : a.length = 32) : KBy.picked (a ++ b).toArray none (some 32) = a.toArray := by
  rw [KBc.picked_eq]
  have : clipAt (a ++ b).toArray.size 32 = 32 := by rw [KBc.clip_lit]; simp; omega
  simp only [Option.elim, this]
  simp [← ha]
theorem picked_hi {a b : Txt} (ha : a.length = 32) : KBy.picked (a ++ b).toArray (some 32) none = b.toArray := by
  rw [KBc.picked_eq]
  have : clipAt (a ++ b).toArray.size 32 = 32 := by rw [KBc.clip_lit]; simp; omega
  simp only [Option.elim, this]
  simp [← ha]
theorem cut_lo {a b : Txt} {t u : Tok} {value slice : PySem.Expr} (hF : Fr h₀ L s.heap m) (hN : News h₀ L s.heap news) (ha : a.length = 32) (hb : b.length = 32)
    (h : ∀ h' t' k, Fr h₀ L h' m → News h₀ L h' news → Q (.bytes a.toArray t') { s with heap := h', toks := k })
    (hs : subscripted slice false (.bytes (a ++ b).toArray t) (.ref s.heap.objs.size) = operate [.ref s.heap.objs.size, .bytes (a ++ b).toArray t] (getItem (.bytes (a ++ b).toArray t) (.ref s.heap.objs.size)) := by with_unfolding_all rfl)
    (ht : ∀ r, letTemporaryGo value (.bytes (a ++ b).toArray t) r = pure () := by intro _; with_unfolding_all rfl) :
    wpAny (model prog w) A (subscriptTail value slice (.bytes (a ++ b).toArray t) (.ref s.heap.objs.size)) Q E { s with heap := s.heap.push { cls := .type "slice", data := .fields #[.none, .int 32 u, .none] } } :=
  KBc.slice_K hF hN rfl (lo := none) (hi := some 32) (by constructor) (by constructor) (by simp [KBw.bInts, ha, hb]) (fun h' t' k F' N' _ => by rw [picked_lo ha]; exact h h' t' k F' N') hs ht
theorem cut_hi {a b : Txt} {t u : Tok} {value slice : PySem.Expr} (hF : Fr h₀ L s.heap m) (hN : News h₀ L s.heap news) (ha : a.length = 32) (hb : b.length = 32)
    (h : ∀ h' t' k, Fr h₀ L h' m → News h₀ L h' news → Q (.bytes b.toArray t') { s with heap := h', toks := k })
    (hs : subscripted slice false (.bytes (a ++ b).toArray t) (.ref s.heap.objs.size) = operate [.ref s.heap.objs.size, .bytes (a ++ b).toArray t] (getItem (.bytes (a ++ b).toArray t) (.ref s.heap.objs.size)) := by with_unfolding_all rfl)
    (ht : ∀ r, letTemporaryGo value (.bytes (a ++ b).toArray t) r = pure () := by intro _; with_unfolding_all rfl) :
    wpAny (model prog w) A (subscriptTail value slice (.bytes (a ++ b).toArray t) (.ref s.heap.objs.size)) Q E { s with heap := s.heap.push { cls := .type "slice", data := .fields #[.int 32 u, .none, .none] } } :=
  KBc.slice_K hF hN rfl (lo := some 32) (hi := none) (by constructor) (by constructor) (by simp [KBw.bInts, ha, hb]) (fun h' t' k F' N' _ => by rw [picked_hi ha]; exact h h' t' k F' N') hs ht
theorem dict_empty {K K' : Type} [DecidableEq K] [DecidableEq K'] {knd : KeyKind prog w K} {knd' : KeyKind prog w K'} {o : Obj} (h : o.IsDictOf knd []) : o.IsDictOf knd' [] := by
  obtain ⟨es, ep, h1, h2, h3, h4, h5⟩ := h
  have e : es = #[] := by
    have : es.toList = [] := by
      revert h4
      cases es.toList with
      | nil => intro _; rfl
      | cons a r => intro h4; cases h4
    exact Array.toList_eq_nil_iff.mp this
  subst e
  exact ⟨#[], ep, h1, h2, (fun _ he => by simp at he), Pairs.nil, List.nodup_nil⟩
end
end
section
local macro_rules | `(tactic| omega) => `(tactic| first | walk_at "MY om" | omega +splitDisjunctions)
section
theorem nolen_lri : typeLookup (.type "list_reverseiterator") "__len__" = pure none := by rw [typeLookup_type, builtinLookup_eq_fast]; kernel_rfl
theorem hint_lri : typeLookup (.type "list_reverseiterator") "__length_hint__" = pure (some (.builtin "list_reverseiterator.__length_hint__")) := by rw [typeLookup_type, builtinLookup_eq_fast]; kernel_rfl
theorem split_lri : splitId "list_reverseiterator.__length_hint__" = some ("list_reverseiterator", "__length_hint__") := by decide +kernel
theorem sub_lri_self : isSubtype (.type "list_reverseiterator") (.type "list_reverseiterator") = pure true := by rw [isSubtype_type]; kernel_rfl
variable {prog : Program} {w : World} {A : Around} {E : Value → Shared → Prop} {s : Shared} {I : Addr} {fp wr : List Addr} {G : Array GenState → Array GenState → Prop} {n : Nat} {P : Nat → Value → Prop} {St : Nat → Shared → Prop}
theorem collect_lri {Q : List Value → Shared → Prop} (W : WalksS prog w A.in1 I fp wr G n P St) (hT : ∀ i s, St i s → s.TypeIs (.ref I) "list_reverseiterator") (hst : St 0 s) (hfp : ∀ b ∈ fp, b < s.heap.objs.size) (hI : I ∈ fp)
    (hQ : ∀ s' acc, Moved wr G s s' → ItemsOf P acc n → Q acc.toList s') (hn : n ≤ sizeLine) : wpAny (model prog w) A (collect (.ref I)) Q E s := by
  have hSf : s.heap.objs.size ∉ fp := fun hm => Nat.lt_irrefl _ (hfp _ hm)
  have hSI : s.heap.objs.size ≠ I := fun e => hSf (e ▸ hI)
  unfold collect
  refine wpAny_bind (wpAny_runValue (codeAny_builtin PySem.F.entry_proto_collect ?_))
  rw [Around.under_plainId PySem.F.plain_proto_collect _]
  show wpAny _ A.in1 (newList [] >>= fun l => again (.builtin "list.__iadd__" ⟨[l, .ref I], []⟩)) _ _ s
  refine wpAny_bind (wpAny_newObj_type ?_)
  refine wpAny_pure ⟨plainId_quiet PySem.F.plain_list_iadd _, codeAny_builtin PySem.F.entry_list_iadd ?_⟩
  rw [Around.under_plainId PySem.F.plain_list_iadd _]
  have hst₁ := W.frame 0 s (s.heap.push { cls := .type "list", data := .seq ([] : List Value).toArray }) s.toks hst (Nat.le_refl _) fun b _ o e => Heap.get?_push_of_some _ e
  have hS₁ : (s.heap.push { cls := .type "list", data := .seq ([] : List Value).toArray }).get? s.heap.objs.size = some { cls := .type "list", data := .seq ([] : List Value).toArray } := Heap.get?_push_size _ rfl
  have h1 : Builtin.List.listSameRef (.ref s.heap.objs.size) (.ref I) = false := by simp [Builtin.List.listSameRef, hSI]
  show wpAny _ A.in1 (Builtin.List.listExtendWith (.ref s.heap.objs.size) (.ref I) (.ref s.heap.objs.size)) _ _ _
  unfold Builtin.List.listExtendWith
  refine wpAny_bind (wpAny_typeOf (hT 0 _ hst₁) ?_)
  rw [if_neg (by rw [h1]; decide)]
  refine wpAny_bind (W.self 0 _ _ _ hst₁ ?_)
  refine wpAny_bind (wpAny_holding ?_)
  unfold Builtin.List.listLengthHint
  refine wpAny_bind (wpAny_specialOf (hT 0 _ hst₁) nolen_lri ?_)
  show wpAny _ A.in1 (specialOf (Value.ref I) (Str.ofString "__length_hint__") >>= _) _ _ _
  refine wpAny_bind (wpAny_specialOf (hT 0 _ hst₁) hint_lri ?_)
  generalize hid : ("list_reverseiterator.__length_hint__" : String) = id0
  wp_delta
  rw [show splitId id0 = some ("list_reverseiterator", "__length_hint__") from by subst hid; decide +kernel]
  subst hid
  refine wpAny_bind (wpAny_isInstance (b := true) (hT 0 _ hst₁) (by rw [isSubtype_type]; kernel_rfl) ?_)
  refine wpAny_pure ?_
  rw [if_neg (by decide)]
  refine wpAny_pure ⟨plainId_quiet PySem.F.plain_extend_loop _, codeAny_extend_loopS W hn _ hSf _ n 0 _ _ _ rfl (Nat.zero_le _) hst₁ hS₁ (ItemsOf.nil P) fun s' acc' c' hm hS' hacc => ?_⟩
  show wpAny _ A (load s.heap.objs.size >>= _) _ _ s'
  refine wpAny_bind (wpAny_load hS' ?_)
  exact wpAny_pure (hQ s' acc' (Moved.drop_new (o := { cls := .type "list", data := .seq ([] : List Value).toArray }) (tk := s.toks) hm (Nat.le_refl _)) hacc)
theorem code_tuple_lri {Q₁ : Value → Shared → Prop} (W : WalksS prog w A.in1.in1 I fp wr G n P St) (hT : ∀ i s, St i s → s.TypeIs (.ref I) "list_reverseiterator") (hst : St 0 s) (hfp : ∀ b ∈ fp, b < s.heap.objs.size) (hI : I ∈ fp)
    (h : ∀ s' acc, Moved wr G s s' → ItemsOf P acc n → Q₁ (.ref s'.heap.objs.size) { s' with heap := s'.heap.push { cls := .type "tuple", data := .seq acc } }) (hsz : n ≤ sizeLine) :
    codeAny (model prog w) A (.call (.builtin "tuple.__new__") ⟨[.type "tuple", .ref I], []⟩) (wants Q₁ E) s := by
  refine codeAny_of_tree ?_
  show wpAny _ A.in1 (do checkBuiltinCall "tuple.__new__" ⟨[.type "tuple", .ref I], []⟩; again (.builtin "tuple.__new__" ⟨[.type "tuple", .ref I], []⟩)) _ _ s
  refine wpAny_bind (wpAny_of_eq (PySem.F.newCall_tuple_1 _) (wpAny_pure ⟨plainId_quiet PySem.F.plain_tuple_new _, codeAny_builtin PySem.F.entry_tuple_new ?_⟩))
  rw [Around.under_plainId PySem.F.plain_tuple_new _]
  have hsub := sub_tuple_self
  have hinit := init_tuple_lookup
  have hmh := madeHere_tuple
  have hTI := hT 0 s hst
  wp_walk using wpAny_typeOf hTI, collect_lri (hn := hsz) W hT hst hfp hI
  intro s' acc hm hacc
  show wpAny _ _ (Builtin.Tuple.tupleExact acc.toList.toArray >>= fun v => ret v) _ _ _
  unfold Builtin.Tuple.tupleExact
  refine wpAny_bind (wpAny_newObj_type ?_ (by show acc.toList.toArray.size ≤ sizeLine; simp only [Array.toArray_toList]; rw [hacc.1]; exact hsz))
  refine wpAny_pure ?_
  have e : acc.toList.toArray = acc := by simp
  rw [e]
  exact h s' acc hm hacc
theorem call_tuple_lri {Q : Value → Shared → Prop} (W : WalksS prog w A.in1.in1.in1 I fp wr G n P St) (hT : ∀ i s, St i s → s.TypeIs (.ref I) "list_reverseiterator") (hst : St 0 s) (hfp : ∀ b ∈ fp, b < s.heap.objs.size) (hI : I ∈ fp)
    (hQ : ∀ s' acc, Moved wr G s s' → ItemsOf P acc n → Q (.ref s'.heap.objs.size) { s' with heap := s'.heap.push { cls := .type "tuple", data := .seq acc } }) (hsz : n ≤ sizeLine) :
    wpAny (model prog w) A (call (.type "tuple") [.ref I]) Q E s := by
  refine callType_codes (Q₁ := fun obj s₁ => s₁.TypeIs obj "tuple" ∧ Q obj s₁) PySem.F.called_tuple (PySem.F.typeCall_tuple_1 _) PySem.F.entry_object_init
    (code_tuple_lri (hsz := hsz) W hT hst hfp hI fun s' acc hm hacc => ⟨⟨_, Heap.get?_push_size _ rfl, rfl⟩, hQ s' acc hm hacc⟩) fun obj s₁ h₁ => ?_
  exact ⟨h₁.1, PySem.F.args_object_init_2 obj _, object_init_meets PySem.F.called_tuple.init.lookup PySem.F.called_tuple.made (by decide) prog w A.in1 _ s₁ ⟨h₁.1, rfl, h₁.2⟩⟩
end
section
open PySem.W
variable {prog : Program} {w : World} {A : Around} {E : Value → Shared → Prop} {s : Shared} {h₀ : Heap} {L : Addr} {m : Loc} {news news' : Led} {Q : Value → Shared → Prop}
theorem items_rev {vs : List Value} {acc : Array Value} (h : ItemsOf (fun i v => vs.toArray[vs.toArray.size - 1 - i]? = some v) acc vs.toArray.size) : acc = vs.reverse.toArray := by
  obtain ⟨h1, h2⟩ := h
  apply Array.ext
  · rw [h1]; simp
  · intro i hi hj
    have := h2 i acc[i] (Array.getElem?_eq_getElem hi)
    rw [h1] at hi
    rw [List.size_toArray] at hi this
    rw [List.getElem?_toArray, List.getElem?_eq_getElem (by omega)] at this
    have e := Option.some.inj this
    rw [← e]
    simp [List.getElem_reverse]
/-- tuple(reversed(list)) -/
theorem tup_of_rev {D l : Addr} {vs : List Value} {n : Nat} (hh : A.handled = none) (F : Fr h₀ L s.heap m) (N : News h₀ L s.heap ((D, revObj l ((vs.length : Int) - 1)) :: news)) (hm : (l, lstObj vs n) ∈ news) (hD : ∀ p ∈ news, p.1 ≠ D) (hz : vs.length ≤ 10000)
    (h : ∀ R h' tk, Fr h₀ L h' m → News h₀ L h' ((R, tupObj vs.reverse) :: news) → (∀ p ∈ news, p.1 < R) → Q (.ref R) { s with heap := h', toks := tk }) : wpAny (model prog w) A (call (.type "tuple") [.ref D]) Q E s := by
  have hIo := (N _ (.head _)).1
  have hl := (N _ (.tail _ hm))
  have hne : l ≠ D := hD _ hm
  have W := (Walks.listRev (prog := prog) (w := w) (A := A.in1.in1.in1) hh D l hne vs.toArray).toS
  refine call_tuple_lri W (fun i s x => x.2.1.typeIs) ⟨Nat.zero_le _, ⟨_, hIo, rfl, by simp [revObj]⟩, ⟨_, hl.1, rfl, _, rfl⟩⟩ ?_ (.head _) ?_ (by rw [List.size_toArray, sizeLine_eq]; omega)
  · intro b hb
    simp only [List.mem_cons, List.not_mem_nil, or_false] at hb
    rcases hb with rfl | rfl
    · exact Heap.lt_size hIo
    · exact Heap.lt_size hl.1
  · intro s' acc hm' hacc
    obtain ⟨h', g', d', tk', os'⟩ := s'
    have e1 : g' = s.gens := hm'.gens
    have e2 : d' = s.drawn := hm'.drawn
    have e3 : os' = s.os := hm'.os
    subst e1 e2 e3
    rw [items_rev hacc]
    have keep : ∀ b o, b ≠ D → s.heap.get? b = some o → h'.get? b = some o := fun b o hb e => hm'.heap b o (by simpa using hb) e
    have F2 : Fr h₀ L h' m := by
      refine ⟨?_, fun b o e => keep b o ?_ (F.keep b o e), F.above⟩
      · obtain ⟨oL, a1, a2, hL, a3⟩ := F.ns
        exact ⟨oL, a1, a2, keep _ _ (fun e => (N _ (.head _)).2.1 e.symm) hL, a3⟩
      · intro e2
        have := (N _ (.head _)).2.2
        rw [← e2, e] at this; cases this
    have N2 : News h₀ L h' news := fun p hp => ⟨keep _ _ (hD p hp) (N p (.tail _ hp)).1, (N p (.tail _ hp)).2⟩
    exact h _ _ _ (F2.push _) (News.push F2 N2 _) fun p hp => Heap.lt_size (N2 p hp).1
end
end
section
local macro_rules | `(tactic| omega) => `(tactic| first | walk_at "MY om" | omega +splitDisjunctions)
section
open PySem.W
theorem be_low : ∀ k n, ((be k n).reverse.map fun c : UInt8 => ((c.toNat : Nat) : Int)) = KTBy.little k (n : Int)
  | 0, _ => rfl
  | k + 1, n => by
    have e : be (k + 1) n = be k (n / 256) ++ [(n % 256).toUInt8] := rfl
    rw [e, List.reverse_append, List.reverse_cons, List.reverse_nil, List.nil_append, List.cons_append, List.nil_append, List.map_cons, be_low k (n / 256)]
    have e1 : (((n % 256).toUInt8).toNat : Nat) = n % 256 := by
      show (UInt8.ofNat (n % 256)).toNat = n % 256
      rw [UInt8.toNat_ofNat']; omega
    show _ :: _ = (n : Int) % 256 :: KTBy.little k ((n : Int) / 256)
    rw [e1]
    rfl
theorem map_toNat_inj : ∀ {a b : List UInt8}, a.map (fun c => ((c.toNat : Nat) : Int)) = b.map (fun c => ((c.toNat : Nat) : Int)) → a = b
  | [], [], _ => rfl
  | [], _ :: _, h => by cases h
  | _ :: _, [], h => by cases h
  | x :: a, y :: b, h => by
    rw [List.map_cons, List.map_cons] at h
    injection h with h1 h2
    rw [map_toNat_inj h2, UInt8.toNat_inj.mp (Int.ofNat.inj h1)]
variable {prog : Program} {w : World} {A : Around} {E : Value → Shared → Prop} {s : Shared}
theorem to_be {n k : Nat} {t u v : Tok} {Q : Value → Shared → Prop} (hk : k ≤ 64) (hn : n < 256 ^ k) (h : ∀ t' k', Q (.bytes (be k n).toArray t') { s with toks := k' }) :
    wpAny (model prog w) A (call (.builtin "int.to_bytes") [.int (n : Int) t, .int (k : Int) u, .str (PySem.Str.ofString "big") v]) Q E s := by
  have h1 : ((n : Nat) : Int) < 256 ^ k := by rw [KTBy.p256]; exact Int.ofNat_lt.mpr hn
  have hb : Builtin.Int.intBits (n : Int) ≤ 8 * k := KTBy.bits_le rfl (by omega) h1
  have hz : (List.reverse (KTBy.low (n : Int) (Int.toNat (k : Int)))) = be k n := by
    rw [Int.toNat_natCast]
    have := map_toNat_inj ((KTBy.low_ints (by omega) h1).trans ((KTBy.little_eq _ _).symm.trans (be_low k n).symm))
    rw [this, List.reverse_reverse]
  refine wpAny_call_entry KTBy.slot (typeIs_int s (n : Int) t) KTBy.entry ?_ (KTBy.args _ _ _)
  show wpAny _ _ (Builtin.Int.intOfSelf (.int (n : Int) t) >>= fun y => _) _ _ s
  refine wpAny_bind (wpAny_of_eq (a := (n : Int)) rfl ?_)
  show wpAny _ _ (Builtin.Int.intBindNamed "to_bytes" ["length", "byteorder", "signed"] 0 2 [.int (k : Int) u, .str (PySem.Str.ofString "big") v] [] >>= fun l => _) _ _ s
  refine wpAny_bind (wpAny_of_eq (a := [some (.int (k : Int) u), some (.str (PySem.Str.ofString "big") v), none]) (by kernel_rfl) ?_)
  show wpAny _ _ (Builtin.Int.intIndex "int.to_bytes" (.int (k : Int) u) >>= fun n => _) _ _ s
  refine wpAny_bind (wpAny_of_eq (a := (k : Int)) rfl ?_)
  refine KTBy.if_not (by show (decide ((k : Int) < -(2 ^ 63 : Int)) || decide ((k : Int) ≥ 2 ^ 63)) = false; rw [decide_eq_false (by omega), decide_eq_false (by omega)]; rfl) ?_
  refine wpAny_bind (wpAny_of_eq (a := PySem.Str.ofString "big") (by kernel_rfl) ?_)
  refine wpAny_bind (wpAny_of_eq (a := false) rfl ?_)
  refine wpAny_bind (wpAny_of_eq (a := false) (by kernel_rfl) ?_)
  refine wpAny_ite_false (decide_eq_false (by omega)) ?_
  refine wpAny_ite_false (decide_eq_false (by omega)) ?_
  refine wpAny_ite_false (decide_eq_false (show ¬ ((k : Int) > (sizeLine : Int)) by rw [sizeLine_eq]; omega)) ?_
  refine KTBy.if_not (by show (decide ((n : Int) < 0) && !false) = false; rw [decide_eq_false (by omega)]; rfl) ?_
  refine KTBy.if_not (by show (_ && decide ((Builtin.Int.intBits (n : Int) : Int) > 8 * (k : Int))) = false; rw [decide_eq_false (by omega), Bool.and_false]) ?_
  refine wpAny_bind (wpAny_mkBytes (wpAny_pure ⟨_, rfl, ?_⟩) (by show (List.reverse (KTBy.low (n : Int) (Int.toNat (k : Int)))).length ≤ sizeLine; rw [List.length_reverse, KTBy.low_length, Int.toNat_natCast, sizeLine_eq]; omega))
  show Q (.bytes (List.toArray (List.reverse (KTBy.low (n : Int) (Int.toNat (k : Int))))) _) _
  rw [hz]
  exact h _ _
theorem to_be_int {z kk : Int} {n k : Nat} {t u v : Tok} {Q : Value → Shared → Prop} (hz : z = (n : Int)) (hkk : kk = (k : Int)) (hk : k ≤ 64) (hn : n < 256 ^ k) (h : ∀ t' k', Q (.bytes (be k n).toArray t') { s with toks := k' }) :
    wpAny (model prog w) A (call (.builtin "int.to_bytes") [.int z t, .int kk u, .str (PySem.Str.ofString "big") v]) Q E s := by
  subst hz hkk; exact to_be hk hn h
end
end
section
local macro_rules | `(tactic| omega) => `(tactic| first | walk_at "MY om" | omega +splitDisjunctions)
theorem add_xor : ∀ (n a b : Nat), a < n → a + b = (a ^^^ b) + 2 * (a &&& b)
  | 0, _, _, h => absurd h (Nat.not_lt_zero _)
  | n + 1, a, b, h => by
    by_cases ha : a = 0
    · subst ha; simp
    have ih := add_xor n (a / 2) (b / 2) (by omega)
    have x1 := Nat.xor_div_two (a := a) (b := b)
    have x2 := Nat.and_div_two (a := a) (b := b)
    have x3 := @Nat.xor_mod_two_eq_one a b
    have x4 := @Nat.and_mod_two_eq_one a b
    have e1 := Nat.div_add_mod (a ^^^ b) 2
    have e2 := Nat.div_add_mod (a &&& b) 2
    have e3 := Nat.div_add_mod a 2
    have e4 := Nat.div_add_mod b 2
    rw [← x1, ← x2] at ih
    have x5 : (a &&& b) % 2 < 2 := Nat.mod_lt _ (by decide)
    have x6 : (a ^^^ b) % 2 < 2 := Nat.mod_lt _ (by decide)
    generalize (a ^^^ b) = X at *
    generalize (a &&& b) = Y at *
    clear h ha x1 x2
    have hx := Nat.mod_two_eq_zero_or_one a
    have hy := Nat.mod_two_eq_zero_or_one b
    have h1 : X % 2 + 2 * (Y % 2) = a % 2 + b % 2 := by
      rcases hx with hx | hx <;> rcases hy with hy | hy <;> rw [hx, hy] at x3 x4 <;> simp [hx, hy] at x3 x4 ⊢ <;> omega
    omega
section
open PySem.W
variable {prog : Program} {w : World} {A : Around} {E : Value → Shared → Prop} {s : Shared} {h₀ : Heap} {L : Addr} {m : Loc} {news news' : Led}
theorem xor_nat {a b : Nat} {t u : Tok} {Q : Value → Shared → Prop} (h : Q (.int ((a ^^^ b : Nat) : Int) s.toks) { s with toks := s.toks + 1 }) : wpAny (model prog w) A (binaryOp .BitXor (.int (a : Int) t) (.int (b : Int) u)) Q E s :=
  xor_int (by
    have e : Builtin.bitXor (a : Int) (b : Int) = ((a ^^^ b : Nat) : Int) := by
      rw [bitXor_and, bitAnd_nat]
      have := add_xor (a + 1) a b (by omega)
      omega
    rw [e]; exact h)
theorem shl_one {j : Nat} {z : Int} {t u : Tok} {Q : Value → Shared → Prop} (hz : z = (j : Int)) (hj : j ≤ 1000) (h : Q (.int ((2 ^ j : Nat) : Int) s.toks) { s with toks := s.toks + 1 }) :
    wpAny (model prog w) A (binaryOp .LShift (.int 1 t) (.int z u)) Q E s := by
  subst hz
  refine lshift_int_small (by omega) (by omega) (by decide) ?_
  have e : (1 : Int) * 2 ^ ((j : Nat) : Int).toNat = ((2 ^ j : Nat) : Int) := by simp
  rw [e]; exact h
theorem tup_at {t : Addr} {l : List Value} {k : Int} {u : Tok} {j : Nat} {x : Value} {Q : Value → Shared → Prop} {value slice : PySem.Expr} (N : News h₀ L s.heap news) (hm : (t, tupObj l) ∈ news) (hk : k = (j : Int)) (hz : j ≤ 100000) (hx : l[j]? = some x) (h : Q x s)
    (hs : subscripted slice false (.ref t) (.int k u) = operate [.ref t, .int k u] (getItem (.ref t) (.int k u)) := by with_unfolding_all rfl) :
    wpAny (model prog w) A (subscriptTail value slice (.ref t) (.int k u)) Q E s := by
  have hj : j < l.length := (List.getElem?_eq_some_iff.mp hx).1
  exact item_tupleT (News.isTup N hm) (by omega) (by omega) (j := j) (by subst hk; unfold seqIndex?; simp; omega) hx h hs
theorem lst_at {t : Addr} {l : List Value} {e : Nat} {k : Int} {u : Tok} {j : Nat} {x : Value} {Q : Value → Shared → Prop} {value slice : PySem.Expr} (N : News h₀ L s.heap news) (hm : (t, lstObj l e) ∈ news) (hk : k = (j : Int)) (hz : j ≤ 100000) (hx : l[j]? = some x) (h : Q x s)
    (hs : subscripted slice false (.ref t) (.int k u) = operate [.ref t, .int k u] (getItem (.ref t) (.int k u)) := by with_unfolding_all rfl) :
    wpAny (model prog w) A (subscriptTail value slice (.ref t) (.int k u)) Q E s := by
  have hL : s.heap.IsList t l.toArray := News.isList N hm
  exact tail_any hL.typeIs slot_list_getitem.lookup (wpAny_getItem_list hL (by omega) (by omega) (by subst hk; simpa using hx) h) hs
theorem lst_set {D : Addr} {vs : List Value} {n : Nat} {z : Int} {k : Nat} {t : Tok} {v : Value} {Q : Unit → Shared → Prop} (F : Fr h₀ L s.heap m) (N : News h₀ L s.heap news) (U : Upd D (lstObj vs n) (lstObj (vs.set k v) n) news news') (hz : z = (k : Int)) (hk : k < vs.length) (hfit : vs.length ≤ 100000)
    (h : ∀ h', Fr h₀ L h' m → News h₀ L h' news' → Q () { s with heap := h' }) : wpAny (model prog w) A (setItem (.ref D) (.int z t) v) Q E s := by
  subst hz
  obtain ⟨pre, post, rfl, rfl, a, b⟩ := U.split
  have z := N (D, lstObj vs n) (List.mem_append.mpr (.inr (.head _)))
  refine ki_setAt (n := n) z.1 (by omega) (by omega) (by simpa using hk) (h _ (F.change (Heap.SameBut.update ..) z.2.1 z.2.2) (ki_turn (its := vs.toArray) (its' := (vs.set k v).toArray) _ N a b ?_ ?_))
  · simp
  · simp
end
end
section
local macro_rules | `(tactic| omega) => `(tactic| first | walk_at "MY om" | omega +splitDisjunctions)
section
open PySem.W
variable {prog : Program} {w : World} {A : Around} {E : Value → Shared → Prop} {s : Shared} {env : Env} {h₀ : Heap} {x : Str} {body : List Stmt} {Q : Flow → Shared → Prop}
theorem loop_revL {D br : Addr} {vs : List Value} {e : Nat} {m : Loc} {news : Led} (S : List Str) (vals₀ : List (Str × Value)) (R : Nat → List (Str × Value) → Led → Prop)
    (hh : A.handled = none) (hz : vs.length ≤ 16384) (F : Fr h₀ env.locals s.heap m) (N : News h₀ env.locals s.heap ((D, revObj br ((vs.length : Int) - 1)) :: news)) (hm : (br, lstObj vs e) ∈ news) (hD : ∀ p ∈ news, p.1 ≠ D)
    (hv₀ : ∀ p ∈ vals₀, m p.1 = some p.2) (h0 : R 0 vals₀ news)
    (turn : ∀ i v vals u news₁ h tk own, i < vs.length → vs[vs.length - 1 - i]? = some v → R i vals news₁ → news₁.map (·.1) = news.map (·.1) → (∀ p ∈ own, p.1 = D ∨ p.1 = br) → Fr h₀ env.locals h (fun y => if y = x then some v else frOf vals S u m y) → News h₀ env.locals h (news₁ ++ own) →
      wpAny (model prog w) A (execs body env) (TurnPost h₀ env.locals (fun m' nx => ∃ vals', R (i + 1) vals' nx ∧ (∀ p ∈ vals', m' p.1 = some p.2) ∧ Agree S m' m) own (news.map (·.1)) { s with heap := h, toks := tk } Q) E { s with heap := h, toks := tk })
    (done : ∀ vals u news₁ h tk, R vs.length vals news₁ → news₁.map (·.1) = news.map (·.1) → Fr h₀ env.locals h (frOf vals S u m) → News h₀ env.locals h news₁ → Q .next { s with heap := h, toks := tk }) :
    wpAny (model prog w) A (pyIter (.ref D)) (fun it s₂ => LoopAtV prog w A h₀ env x body Q E it s₂) E s := by
  have e1 : ((vs.length : Nat) : Int) - 1 = ((vs.toArray.size : Nat) : Int) - 1 - ((0 : Nat) : Int) := by simp
  have hI : s.heap.IsRevIter D br ((vs.length : Int) - 1) := ⟨_, (N _ (.head _)).1, rfl, rfl⟩
  have hT : s.heap.IsList br vs.toArray := News.isList (news := (br, lstObj vs e) :: news) (news_sub N (mems_cons (.tail _ hm) (sub_cons fun _ h => h))) (.head _)
  have hne : br ≠ D := hD _ hm
  refine wpAny_pyIter_revIter hI ?_
  refine loop_R (n := vs.length) S vals₀ R (by have := Walks.listRev (prog := prog) (w := w) hh D br hne vs.toArray; simpa using this) ?_ ?_ ?_ ?_ F (fun p hp => N p (.tail _ hp)) hv₀ h0 ?_ done
  · intro hq
    simp only [List.mem_cons, List.not_mem_nil, or_false] at hq
    rcases hq with hq | hq
    · exact (N _ (.head _)).2.1 hq.symm
    · exact (N _ (.tail _ hm)).2.1 hq.symm
  · intro b hb
    simp only [List.mem_cons, List.not_mem_nil, or_false] at hb
    subst hb; exact (N _ (.head _)).2.2
  · intro p hp hq
    simp only [List.mem_cons, List.not_mem_nil, or_false] at hq
    exact hD p hp hq
  · refine ⟨Nat.zero_le _, ?_, hT⟩
    simpa using hI
  · intro i v vals u news₁ h tk own hi hP hR hma ho F₁ N₁
    exact turn i v vals u news₁ h tk own hi hP hR hma (fun p hp => by simpa using ho p hp) F₁ N₁

end
section
variable {prog : Program} {w : World} {A : Around} {E : Value → Shared → Prop} {s : Shared} {h₀ : Heap} {L : Addr} {m : Loc} {news : Led}
theorem rev_lst {br : Addr} {vs : List Value} {e : Nat} {Q : Value → Shared → Prop} (F : Fr h₀ L s.heap m) (N : News h₀ L s.heap news) (hm : (br, lstObj vs e) ∈ news)
    (h : ∀ D h', Fr h₀ L h' m → News h₀ L h' ((D, revObj br ((vs.length : Int) - 1)) :: news) → (∀ p ∈ news, p.1 < D) → Q (.ref D) { s with heap := h' }) : wpAny (model prog w) A (call (.type "reversed") [.ref br]) Q E s := by
  refine call_reversed_list (News.isList N hm) ?_
  have e : ((vs.toArray.size : Nat) : Int) - 1 = (vs.length : Int) - 1 := by simp
  rw [e]
  exact h _ _ (F.push _) (News.push F N _) fun p hp => Heap.lt_size (N p hp).1
end
end
section
local macro_rules | `(tactic| omega) => `(tactic| first | walk_at "MY om" | omega +splitDisjunctions)
/-- the blank row's hashes, from the leaf up -/
def bst (T : List Txt) : Nat → List Txt × Txt
  | 0 => (addT T [], hT (addT T []) [])
  | i + 1 => (addT (bst T i).1 ((bst T i).2 ++ (bst T i).2), hT (addT (bst T i).1 ((bst T i).2 ++ (bst T i).2)) ((bst T i).2 ++ (bst T i).2))
theorem bst_len (T : List Txt) : ∀ i, (bst T i).1.length ≤ T.length + i + 1 ∧ (bst T i).2.length = 32
  | 0 => ⟨(addT_len _ _).2, hT_length _ _⟩
  | i + 1 => ⟨Nat.le_trans (addT_len _ _).2 (by have := (bst_len T i).1; omega), hT_length _ _⟩
section
variable {prog : Program} {w : World} {A : Around} {E : Value → Shared → Prop} {s : Shared} {h₀ : Heap} {L : Addr} {m : Loc} {news : Led}
theorem lst_last {t : Addr} {l : List Value} {e : Nat} {u : Tok} {x : Value} {Q : Value → Shared → Prop} {value slice : PySem.Expr} (N : News h₀ L s.heap news) (hm : (t, lstObj l e) ∈ news) (hz : l.length ≤ 100000) (hx : l.getLast? = some x) (h : Q x s)
    (hs : subscripted slice false (.ref t) (.int (-1) u) = operate [.ref t, .int (-1) u] (getItem (.ref t) (.int (-1) u)) := by with_unfolding_all rfl) :
    wpAny (model prog w) A (subscriptTail value slice (.ref t) (.int (-1) u)) Q E s := by
  have hL : s.heap.IsList t l.toArray := News.isList N hm
  have hne : l ≠ [] := fun e => by rw [e] at hx; cases hx
  have hp : 0 < l.length := List.length_pos_iff.mpr hne
  refine tail_any hL.typeIs slot_list_getitem.lookup (wpAny_getItem_list_neg hL (by decide) (by simp; omega) (by decide) (by
    have e : (-1 + ((l.toArray.size : Nat) : Int)).toNat = l.length - 1 := by simp; omega
    rw [e]; rw [List.getLast?_eq_getElem?] at hx; simpa using hx) h) hs
end
theorem TxtsAre.app {vs : List Value} {l : List Txt} {b : Txt} {t : Tok} (h : TxtsAre vs l) : TxtsAre (vs ++ [Value.bytes (List.toArray b) t]) (l ++ [b]) := by
  refine ⟨by rw [List.length_append, List.length_append, h.1]; rfl, ?_⟩
  intro j v hj
  rw [List.getElem?_append] at hj
  rw [List.getD_eq_getElem?_getD, List.getElem?_append, ← h.1]
  split at hj
  · rename_i hl
    rw [if_pos hl, ← List.getD_eq_getElem?_getD]
    exact h.2 j v hj
  · rename_i hl
    rw [if_neg hl]
    have e : j - vs.length = 0 := by
      rcases Nat.eq_zero_or_pos (j - vs.length) with e | e
      · exact e
      · rw [List.getElem?_eq_none (by simp; omega)] at hj; cases hj
    rw [e] at hj ⊢
    simp at hj
    exact ⟨t, hj.symm⟩
theorem range_app {α : Type} (g : Nat → α) (i : Nat) : (List.range (i + 1)).map g = (List.range i).map g ++ [g i] := by
  rw [List.range_succ, List.map_append]; rfl
end
section
local macro_rules | `(tactic| omega) => `(tactic| first | walk_at "MY om" | omega +splitDisjunctions)
section
open PySem.W
variable {w : World}
/-- a dict keyed by pairs of ints; the keys' tuples stand in the ledger too -/
def FTab (prog : Program) (w : World) (l : Led) (fd : Addr) (kvs : List (List Int × Value)) : Prop :=
  (fd == sysModules) = false ∧ ∃ o es ep xs, (fd, o) ∈ l ∧ o.ExactDict ∧ o.data = .dict es ep ∧ es.toList = xs.map (entryOfKey (tupleKind (intKind prog w))) ∧ (xs.map (·.1)).Nodup ∧
    (∀ x ∈ xs, ∃ ok, (x.2.1, ok) ∈ l ∧ TupKeyObj (intKind prog w) x.1 ok) ∧ kvsOf xs = kvs
variable {prog : Program} {A : Around} {E : Value → Shared → Prop} {s : Shared} {h₀ : Heap} {L fd a : Addr} {m : Loc} {news l r : Led} {kvs : List (List Int × Value)} {x y : Int} {t u : Tok}
theorem FTab.mono (T : FTab prog w l fd kvs) (hs : ∀ q ∈ l, q ∈ r) : FTab prog w r fd kvs :=
  let ⟨lo, o, es, ep, xs, hm, hc, hd, he, hn, hk, hf⟩ := T
  ⟨lo, o, es, ep, xs, hs _ hm, hc, hd, he, hn, fun x hx => let ⟨ok, hmk, t⟩ := hk x hx; ⟨ok, hs _ hmk, t⟩, hf⟩
theorem FTab.at (T : FTab prog w l fd kvs) {h : Heap} (N : News h₀ L h news) (hs : ∀ q ∈ l, q ∈ news) : ∃ xs, h.DictOfH (tupleKind (intKind prog w)) fd xs ∧ kvsOf xs = kvs :=
  let ⟨_, o, es, ep, xs, hm, hc, hd, he, hn, hk, hf⟩ := T
  ⟨xs, ⟨o, es, ep, (N _ (hs _ hm)).1, hc, hd, he, fun x hx => let ⟨_, hmk, t⟩ := hk x hx; t.key (N _ (hs _ hmk)).1, hn⟩, hf⟩
theorem FTab.empty {o : Obj} {K : Type} [DecidableEq K] {knd : KeyKind prog w K} (lo : (fd == sysModules) = false) (hd : o.IsDictOf knd []) : FTab prog w ((fd, o) :: l) fd [] := by
  obtain ⟨es, ep, hc, hdat, _, hp, _⟩ := hd
  have he : es.toList = [] := List.length_eq_zero_iff.mp hp.length
  exact ⟨lo, o, es, ep, [], .head _, hc, hdat, he, List.nodup_nil, fun _ hx => by simp at hx, rfl⟩
theorem tup_key : TupKeyObj (intKind prog w) [x, y] (tupObj [.int x t, .int y u]) :=
  TupKeyObj.made (.cons (intKind_is _ _ _ _) (.cons (intKind_is _ _ _ _) .nil))
theorem FTab.ne (T : FTab prog w l fd kvs) {h : Heap} (N : News h₀ L h news) (hs : ∀ q ∈ l, q ∈ news) {b : Addr} {ob : Obj} (hb : (b, ob) ∈ news) (hc : ob.cls ≠ .type "dict") : b ≠ fd := by
  obtain ⟨_, o, es, ep, xs, hm, hcl, _⟩ := T
  intro e
  subst e
  have e2 : ob = o := Option.some.inj ((N _ hb).1.symm.trans (N _ (hs _ hm)).1)
  exact hc (by rw [e2]; exact hcl.1)
theorem FTab.lt (T : FTab prog w l fd kvs) {d : Addr} (hl : ∀ q ∈ l, q.1 < d) : fd < d := by
  obtain ⟨_, o, es, ep, xs, hm, _⟩ := T
  exact hl _ hm
theorem ftab_meth {pl : Sem Bool} {Q : Value × List Value → Shared → Prop} (N : News h₀ L s.heap news) (T : FTab prog w l fd kvs) (hs : ∀ q ∈ l, q ∈ news) (h : Q (.builtin "dict.get", [.ref fd]) s) :
    wpAny (model prog w) A (getMethod (.ref fd) "get" pl) Q E s := by
  obtain ⟨xs, hd, _⟩ := T.at N hs
  exact getMethod_builtin hd.typeIs PySem.F.plainAttrs_dict PySem.F.slot_dict_get PySem.F.type_dict_get (dictOfH_noDict hd) h
theorem ftab_get {dflt : Value} {z : Option Value} {Q : Value → Shared → Prop} (N : News h₀ L s.heap news) (T : FTab prog w l fd kvs) (hs : ∀ q ∈ l, q ∈ news) (hka : (a, tupObj [.int x t, .int y u]) ∈ news) (hu : A.units + 1 < cLine)
    (hz : valueAt kvs [x, y] = z) (h : ∀ k', Q (z.getD dflt) { s with toks := k' }) : wpAny (model prog w) A (call (.builtin "dict.get") [.ref fd, .ref a, dflt]) Q E s := by
  obtain ⟨xs, hd, hk⟩ := T.at N hs
  refine call_meetsIn PySem.F.slot_dict_get hd.typeIs PySem.F.entry_dict_get (PySem.F.args_dict_get_3 _ _ _) (meetsH_dict_get_default (tupleKind (intKind prog w)) fd a T.1 dflt) ⟨tupleKind_room_in1 hu, [x, y], xs, tup_key.key (N _ hka).1, hd, ?_⟩
  rw [← valueAt_kvsOf, hk, hz]; exact h _
theorem ftab_set {pre own : Led} {v : Value} {Q : Unit → Shared → Prop} (F : Fr h₀ L s.heap m) (N : News h₀ L s.heap (pre ++ own)) (T : FTab prog w own fd kvs) (hka : (a, tupObj [.int x t, .int y u]) ∈ pre ++ own) (hpre : ∀ p ∈ pre, p.1 ≠ fd)
    (hu : A.units + 1 < cLine) (hsz : kvs.length ≤ 1000000)
    (h : ∀ h' own' k', Fr h₀ L h' m → News h₀ L h' (pre ++ own') → FTab prog w ((a, tupObj [.int x t, .int y u]) :: own') fd (stored kvs [x, y] v) → (∀ q ∈ own', ∃ p ∈ own, q.1 = p.1) → (∀ p ∈ own, p.1 ≠ fd → p ∈ own') → Q () { s with heap := h', toks := k' }) :
    wpAny (model prog w) A (setItem (.ref fd) (.ref a) v) Q E s := by
  have hne : a ≠ fd := T.ne N (fun q hq => List.mem_append_right _ hq) hka (by intro e; injection e with e2; exact absurd e2 (by decide))
  refine hideG fun hG => ?_
  obtain ⟨lo, o, es, ep, xs, hm, hc, hd, he, hn, hk, hf⟩ := T
  refine hG ?_
  clear hG
  have hm' : (fd, o) ∈ pre ++ own := List.mem_append_right _ hm
  have hD : s.heap.DictOfH (tupleKind (intKind prog w)) fd xs := ⟨o, es, ep, (N _ hm').1, hc, hd, he, fun x hx => let ⟨_, hmk, t⟩ := hk x hx; t.key (N _ (List.mem_append_right _ hmk)).1, hn⟩
  have hxs : xs.length ≤ sizeLine := by
    have e : (kvsOf xs).length = kvs.length := by rw [hf]
    rw [kvsOf, List.length_map] at e
    rw [sizeLine_eq]; omega
  refine wpAny_setItem_heap (hsz := hxs) (knd := tupleKind (intKind prog w)) (tupleKind_room_in1 hu) (tup_key.key (N _ hka).1) hD fun h' hm2 hs => ?_
  refine hideG fun hG => ?_
  obtain ⟨o', es', ep', ho', hc', hd', he', _, hn'⟩ := hm2
  refine hG ?_
  clear hG
  have keep : ∀ p ∈ own, p.1 ≠ fd → p ∈ own.map fun p => if p.1 = fd then (fd, o') else p := fun p hp hpd => List.mem_map.mpr ⟨p, hp, by simp [hpd]⟩
  have kne : ∀ (z : List Int) (ad : Addr) (ok : Obj), (ad, ok) ∈ own → TupKeyObj (intKind prog w) z ok → ad ≠ fd := by
    intro z ad ok h1 h2 e
    subst e
    have e2 : ok = o := Option.some.inj ((N _ (List.mem_append_right _ h1)).1.symm.trans (N _ hm').1)
    have h3 := h2.1
    rw [e2, hc.1] at h3
    injection h3 with h4
    exact absurd h4 (by decide)
  refine h h' (own.map fun p => if p.1 = fd then (fd, o') else p) _ (F.change hs (N _ hm').2.1 (N _ hm').2.2) (fun q hq => ?_)
    ⟨lo, o', es', ep', storedH xs [x, y] a v, .tail _ (List.mem_map.mpr ⟨(fd, o), hm, by simp⟩), hc', hd', he', hn', fun z hz => ?_, by rw [kvsOf_storedH, hf]⟩ (fun q hq => ?_) keep
  · rcases List.mem_append.mp hq with hq | hq
    · have := N q (List.mem_append_left _ hq)
      exact ⟨(hs.2 q.1 (hpre q hq)).trans this.1, this.2⟩
    · obtain ⟨p, hp, rfl⟩ := List.mem_map.mp hq
      by_cases hpf : p.1 = fd
      · rw [if_pos hpf]; exact ⟨ho', (N _ hm').2⟩
      · rw [if_neg hpf]
        have := N p (List.mem_append_right _ hp)
        exact ⟨(hs.2 p.1 hpf).trans this.1, this.2⟩
  · rcases mem_storedH hz with ⟨z', hz', e1, e2⟩ | ⟨e1, e2⟩
    · obtain ⟨ok, hmk, t⟩ := hk z' hz'
      exact ⟨ok, by rw [e2]; exact .tail _ (keep _ hmk (kne _ _ _ hmk t)), by rw [e1]; exact t⟩
    · exact ⟨_, by rw [e2]; exact .head _, by rw [e1]; exact tup_key⟩
  · obtain ⟨p, hp, rfl⟩ := List.mem_map.mp hq
    refine ⟨p, hp, ?_⟩
    by_cases hpf : p.1 = fd
    · rw [if_pos hpf]; exact hpf.symm
    · rw [if_neg hpf]
theorem eq_empty {hh d : Addr} {oa ob : Obj} {ka : List (Int × Value)} {b : Bool} {Q : Value → Shared → Prop} (N : News h₀ L s.heap news) (pa : (hh, oa) ∈ news) (pb : (d, ob) ∈ news) (da : oa.IsDictOf (intKind prog w) ka) (db : ob.IsDictOf (intKind prog w) [])
    (la : (hh == sysModules) = false) (lb : (d == sysModules) = false) (hu : A.units < cLine) (hb : (ka.length == 0) = b) (h : Q (.bool b) s) : wpAny (model prog w) A (compareOp .Eq (.ref hh) (.ref d)) Q E s := by
  refine keq_eq (r := true) la lb (Heap.dictOf_iff.mpr ⟨oa, (N _ pa).1, da⟩) (Heap.dictOf_iff.mpr ⟨ob, (N _ pb).1, db⟩) hu (fun e => ?_) ?_
  · cases List.length_eq_zero_iff.mp e; exact .nil
  · rw [Bool.and_true]
    show Q (.bool (ka.length == 0)) s
    rw [hb]; exact h
end
section
variable {prog : Program} {w : World} {l : Led} {fd : Addr} {kvs : List (List Int × Value)}
theorem FTab.neq (T : FTab prog w l fd kvs) {t : Addr} (h : ∀ q ∈ l, q.1 ≠ t) : fd ≠ t := by
  obtain ⟨_, o, es, ep, xs, hm, _⟩ := T
  exact h _ hm
end
end
section
local macro_rules | `(tactic| omega) => `(tactic| first | walk_at "MY om" | omega +splitDisjunctions)
section
open PySem.W
variable {prog : Program} {w : World} {K : Type} [DecidableEq K] {knd : KeyKind prog w K} {A : Around} {E : Value → Shared → Prop} {env : Env}
/-- a dict comprehension's block; the dict is the heap's next object -/
theorem comp_fresh {kx vx iter : Expr} {x : Str} {px : Pos} {ifs : List Expr} {scope : Scope} {cl : List (Str × Addr)} {pos : Pos} {s : Shared} {I : Addr} {fp wr : List Addr} {n : Nat} {P : Nat → Value → Prop}
    {St : Nat → Heap → Prop} (W : Walks prog w A I fp wr n P St) (hsz : n ≤ sizeLine) (p : Value → Bool) (FK : Value → K → Prop) (FV : Value → Value → Prop) {RR : Value → Addr → Result → Shared → Prop}
    (hcell : ∀ y ∈ scope.names, y.2 ≠ .cell) (hkind : scope.kind = .function) (hx : scope.names.lookup x = some .local) (hst : St 0 s.heap) (hfp : ∀ b ∈ fp, b < s.heap.objs.size)
    (hq : QuietOnCD knd A env scope cl x ifs kx vx wr P p FK FV s)
    (hRR : ∀ C h' tk m' kvs (vs : List Value), s.heap.objs.size < C → h'.Ns C m' → h'.DictOf knd s.heap.objs.size kvs → vs.length = n → (∀ j v, vs[j]? = some v → P j v) → StoredAll FK FV (vs.filter p) kvs →
      (∀ b o, b ∉ wr → s.heap.get? b = some o → h'.get? b = some o) → RR (.ref s.heap.objs.size) C (.ok .next) { s with heap := h', toks := tk }) :
    wpAny (model prog w) A newDict (fun acc s₃ => wpAny (model prog w) A (newFunctionEnv scope env.globals cl [] env.qual none .none (some env)) (fun cenv s₄ =>
      codeAny (model prog w) A (.compStart (.DictComp kx vx [⟨.Name x px, iter, ifs, 0⟩] scope pos) 0 (.ref I) acc { cenv with scope := relabel scope env }) (RR acc cenv.locals) s₄) E s₃) E s := by
  refine wpAny_newObj_type (wpAny_newFunctionEnv hcell (by intro y hy; simp at hy) (fun g hns hsb => ?_) hkind)
  dsimp only at hns hsb ⊢
  have hnew : (s.heap.push { cls := .type "dict", dict := none, data := .dict #[] }).DictOf knd s.heap.objs.size [] := Heap.DictOf.new s.heap
  have hC0 : (s.heap.push { cls := .type "dict", dict := none, data := .dict #[] }).objs.size = s.heap.objs.size + 1 := Heap.size_push ..
  have hup : ∀ b o, s.heap.get? b = some o → (s.heap.push { cls := .type "dict", dict := none, data := .dict #[] }).get? b = some o := fun b o e => Heap.get?_push_of_some _ e
  generalize (s.heap.push { cls := .type "dict", dict := none, data := .dict #[] }) = H at *
  have hlt : s.heap.objs.size < H.objs.size := by rw [hC0]; exact Nat.lt_succ_self _
  have low : ∀ b, b < s.heap.objs.size → b ≠ H.objs.size ∧ b ≠ s.heap.objs.size := fun b hb => ⟨Nat.ne_of_lt (Nat.lt_trans hb hlt), Nat.ne_of_lt hb⟩
  have lowo : ∀ b o, s.heap.get? b = some o → b < s.heap.objs.size := fun b o e => Heap.lt_size e
  have old : ∀ b o, s.heap.get? b = some o → g.get? b = some o := fun b o e => hsb.extBut b o (low b (lowo b o e)).1 (Heap.get?_push_of_some _ (hup b o e))
  have hacc : g.DictOf knd s.heap.objs.size [] := hnew.at fun o e => hsb.extBut _ _ (Nat.ne_of_lt hlt) (Heap.get?_push_of_some _ e)
  have hst' : St 0 g := W.frame _ _ _ hst fun b _ o e => old b o e
  have notin : ∀ c, s.heap.objs.size ≤ c → c ∉ fp := fun c hc hm => Nat.lt_irrefl _ (Nat.lt_of_lt_of_le (hfp _ hm) hc)
  have loop : codeAny (model prog w) A (.compLoop (.DictComp kx vx [⟨.Name x px, iter, ifs, 0⟩] scope pos) 0 (.ref I) (.ref s.heap.objs.size) (compEnvC scope cl H.objs.size env)) (RR (.ref s.heap.objs.size) H.objs.size)
      { s with heap := g, toks := s.toks + ([] : List (Str × Value)).length } := by
    refine codeAny_compLoop_walkD (hsz := hsz) (knd := knd) (cenv := compEnvC scope cl H.objs.size env) W p FK FV (lookup_relabel_local hx) (by simp [compEnvC, relabel, hkind]) (Nat.ne_of_lt hlt) (notin _ (Nat.le_refl _)) (notin _ (Nat.le_of_lt hlt)) hst' hacc hns ?_ ?_ ?_ ?_
    · exact fun i v s₃ m₃ hv hn hm hk => hq.tests _ i v s₃ m₃ _ hv hn hm fun b o hbf e => hk b o (low b (lowo b o e)).1 hbf (low b (lowo b o e)).2 (old b o e)
    · exact fun i v s₃ m₃ hv hpv hn hm hk => hq.key _ i v s₃ m₃ _ hv hpv hn hm fun b o hbf e => hk b o (low b (lowo b o e)).1 hbf (low b (lowo b o e)).2 (old b o e)
    · exact fun i v s₃ m₃ hv hpv hn hm hk => hq.val _ i v s₃ m₃ _ hv hpv hn hm fun b o hbf e => hk b o (low b (lowo b o e)).1 hbf (low b (lowo b o e)).2 (old b o e)
    · exact fun h' tk m' kvs vs hn ha hlen hP hF hk => hRR _ h' tk m' kvs vs hlt hn ha hlen hP hF fun b o hbf e => hk b o (low b (lowo b o e)).1 hbf (low b (lowo b o e)).2 (old b o e)
  exact codeAny_compStart_dict loop (W.self 0 _ _ _ hst' loop)
end
end
section
local macro_rules | `(tactic| omega) => `(tactic| first | walk_at "MY om" | omega +splitDisjunctions)
section
open PySem.W
def testV (test : Int → Bool) : Value → Bool
  | .int k _ => test k
  | _ => false
theorem isInt_test {test : Int → Bool} {v : Value} {k : Int} (h : Value.isInt k v = true) : testV test v = test k := by
  obtain ⟨t, rfl⟩ := Value.isInt_shape h; rfl
theorem storedAll_val {kH : List (Int × Value)} {l : List Value} {kvs : List (Int × Value)} (h : StoredAll (fun v k => Value.isInt k v = true) (fun v y => ∀ k, Value.isInt k v = true → valueAt kH k = some y) l kvs) :
    ∀ k, valueAt kvs k = if l.any (fun v => Value.isInt k v) = true then valueAt kH k else none := by
  induction h with
  | nil => intro k; rfl
  | @snoc l kvs v k0 y _ hk hv ih =>
    intro k
    rw [valueAt_stored, List.any_append]
    by_cases hkk : k = k0
    · subst hkk
      rw [if_pos rfl, if_pos (by simp [hk]), hv _ hk]
    · rw [if_neg hkk, ih k]
      have : Value.isInt k v = false := by
        cases e : Value.isInt k v with
        | false => rfl
        | true => exact absurd (Value.isInt_inj _ _ _ e hk) hkk
      simp [this]
theorem valueAt_at {kH : List (Int × Value)} {k : Int} {v : Value} (h : valueAt kH k = some v) : ∃ j : Nat, kH[j]? = some (k, v) := by
  unfold valueAt at h
  cases e : kH.find? (fun kv => decide (kv.1 = k)) with
  | none => rw [e] at h; cases h
  | some p =>
    rw [e] at h
    obtain ⟨a, b⟩ := p
    have h1 : a = k := by simpa using List.find?_some e
    have h2 : b = v := by simpa using h
    obtain ⟨j, hj⟩ := List.mem_iff_getElem?.mp (List.mem_of_find?_eq_some e)
    exact ⟨j, by rw [hj, h1, h2]⟩
theorem valueAt_of_at {kH : List (Int × Value)} (hn : (kH.map (·.1)).Nodup) {k : Int} {v : Value} {j : Nat} (h : kH[j]? = some (k, v)) : valueAt kH k = some v := by
  cases e : valueAt kH k with
  | none =>
    unfold valueAt at e
    rw [Option.map_eq_none_iff, List.find?_eq_none] at e
    have := e (k, v) (List.mem_of_getElem? h)
    simp at this
  | some v2 =>
    obtain ⟨i, hi⟩ := valueAt_at e
    have e1 : (kH.map (·.1))[i]? = some k := by rw [List.getElem?_map, hi]; rfl
    have e2 : (kH.map (·.1))[j]? = some k := by rw [List.getElem?_map, h]; rfl
    have hij : i = j := (List.getElem?_inj (List.getElem?_eq_some_iff.mp e1).1 hn).mp (e1.trans e2.symm)
    rw [hij, h] at hi
    injection hi with hi
    injection hi with _ hi
    rw [hi]
theorem filter_val {kH : List (Int × Value)} {test : Int → Bool} {vs : List Value} {kvs : List (Int × Value)} (hlen : vs.length = kH.length) (hP : ∀ (j : Nat) v, vs[j]? = some v → ∃ k x, kH[j]? = some (k, x) ∧ Value.isInt k v = true)
    (h : StoredAll (fun v k => Value.isInt k v = true) (fun v y => ∀ k, Value.isInt k v = true → valueAt kH k = some y) (vs.filter (testV test)) kvs) (k : Int) : valueAt kvs k = if test k = true then valueAt kH k else none := by
  rw [storedAll_val h k]
  by_cases ht : test k = true
  · rw [if_pos ht]
    by_cases ha : (vs.filter (testV test)).any (fun v => Value.isInt k v) = true
    · rw [if_pos ha]
    · rw [if_neg ha]
      cases e : valueAt kH k with
      | none => rfl
      | some x =>
        exfalso
        obtain ⟨j, hj⟩ := valueAt_at e
        have hjl : j < vs.length := by rw [hlen]; exact (List.getElem?_eq_some_iff.mp hj).1
        obtain ⟨k', x', h1, h2⟩ := hP j vs[j] (List.getElem?_eq_getElem hjl)
        rw [hj] at h1
        injection h1 with h1
        injection h1 with h1 _
        subst h1
        exact ha (List.any_eq_true.mpr ⟨vs[j], List.mem_filter.mpr ⟨List.getElem_mem hjl, by rw [isInt_test h2]; exact ht⟩, h2⟩)
  · rw [if_neg ht]
    rw [if_neg]
    intro ha
    obtain ⟨v, hv, hi⟩ := List.any_eq_true.mp ha
    have := (List.mem_filter.mp hv).2
    rw [isInt_test hi] at this
    exact ht this
variable {prog : Program} {w : World} {A : Around} {E : Value → Shared → Prop} {s : Shared} {env : Env} {h₀ : Heap} {m : Loc} {news : Led}
theorem held_comp {hh ch cm : Addr} {oH oh om : Obj} {kH : List (Int × Value)} {mid : Int} {tm : Tok} {op : CmpOp} {test : Int → Bool} {y : Str} {p1 p2 p3 p4 p5 p6 p7 p8 px py pos spos : Pos} {scope : Scope} {cl : List (Str × Addr)} {Q : Flow → Shared → Prop}
    (hA : A.handled = none) (T : h₀.NoLimit) (F : Fr h₀ env.locals s.heap m) (N : News h₀ env.locals s.heap news)
    (pH : (hh, oH) ∈ news) (hoH : oH.IsDictOf (intKind prog w) kH) (hlo : (hh == sysModules) = false)
    (pch : (ch, oh) ∈ news) (hoh : oh.data = .cell (some (.ref hh))) (pcm : (cm, om) ∈ news) (hom : om.data = .cell (some (.int mid tm)))
    (hsw : swapsWith (.DictComp (.Name (Str.ofString "key") p1) (.Subscript (.Name (Str.ofString "held") p2) (.Name (Str.ofString "key") p3) p4) [⟨.Name (Str.ofString "key") px, .Name (Str.ofString "held") p5, [.Compare (.Name (Str.ofString "key") p6) [op] [.Name (Str.ofString "middle") p7] p8], 0⟩] scope pos) (some (.Name y py)) spos.line env = pure true)
    (hclos : closureFor scope env = pure cl) (hcell : ∀ z ∈ scope.names, z.2 ≠ .cell) (hkind : scope.kind = .function)
    (hnames : ∀ z ∈ scope.names, z.2 = .local → scope.names.lookup z.1 = some .local) (hx : scope.names.lookup (Str.ofString "key") = some .local)
    (hy : env.kindOf y = some .local) (hp : (env.scope.kind == .class || (env.scope.kind == .module && env.locals != env.globals)) = false)
    (hke : env.scope.kind = .function) (hkh : env.kindOf (Str.ofString "held") = some .cell) (hcl : env.cells.lookup (Str.ofString "held") = some ch)
    (hl1 : cl.lookup (Str.ofString "held") = some ch) (hl2 : cl.lookup (Str.ofString "middle") = some cm)
    (hk2 : ∀ C, (compEnvC scope cl C env).kindOf (Str.ofString "held") = some .cell) (hk3 : ∀ C, (compEnvC scope cl C env).kindOf (Str.ofString "middle") = some .cell)
    (hop : ∀ (k : Int) (A : Around) (E : Value → Shared → Prop) (s : Shared) (Q : Value → Shared → Prop) (t u : Tok), Q (.bool (test k)) s → wpAny (model prog w) A (compareOp op (.int k t) (.int mid u)) Q E s)
    (hmk : behindInMarks op (.Name (Str.ofString "middle") p7) = false)
    (hz : kH.length ≤ 1000)
    (h : ∀ D h' oD kD tk, Fr h₀ env.locals h' (fun z => if z = y then some (.ref D) else m z) → News h₀ env.locals h' ((D, oD) :: news) → oD.IsDictOf (intKind prog w) kD → (D == sysModules) = false → (∀ p ∈ news, p.1 < D) →
      (∀ k, valueAt kD k = if test k = true then valueAt kH k else none) → kD.length ≤ kH.length → Q .next { s with heap := h', toks := tk }) :
    wpAny (model prog w) A (exec (.Assign [.Name y py] (.DictComp (.Name (Str.ofString "key") p1) (.Subscript (.Name (Str.ofString "held") p2) (.Name (Str.ofString "key") p3) p4) [⟨.Name (Str.ofString "key") px, .Name (Str.ofString "held") p5, [.Compare (.Name (Str.ofString "key") p6) [op] [.Name (Str.ofString "middle") p7] p8], 0⟩] scope pos) spos) env) Q E s := by
  obtain ⟨ep, hDA⟩ := (Heap.dictOf_iff.mpr ⟨oH, (N _ pH).1, hoH⟩ : s.heap.DictOf (intKind prog w) hh kH).dictAt
  have hnd : (kH.map (·.1)).Nodup := by obtain ⟨o, es, _, _, _, _, _, hn⟩ := hDA; exact hn
  have hbig := modules_low T
  rw [exec_Assign_Name_used _ _ _ _ hsw]
  refine wpAny_bind (wpAny_standAt (wpAny_bind ?_))
  show wpAny _ A (do let _ ← comprehension (.DictComp _ _ _ scope pos) scope env _ newDict false (eval (.Name (Str.ofString "held") p5) env) (some (assign (.Name y py) env))) _ _ s
  refine wpAny_bind (wpAny_mono (wpAny_comprehension_free (use := some (assign (.Name y py) env)) (Q := fun _ s' => Q .next s') rfl (by intro _; rfl) hclos hkind hnames ?_) (fun _ s' hq => wpAny_pure (wpAny_pure hq)) fun _ _ e => e)
  refine wpAny_Name (wpAny_loadName_cell hke hkh hcl ⟨oh, (N _ pch).1, hoh⟩ ?_) (by decide)
  refine wpAny_pyIter_dict hlo hDA ?_
  have hhlt : hh < s.heap.objs.size := Heap.lt_size (N _ pH).1
  have hIhh : hh ≠ s.heap.objs.size := Nat.ne_of_lt hhlt
  have up : ∀ b o, s.heap.get? b = some o → (s.heap.push { cls := .type "dict_keyiterator", data := .fields #[.ref hh, .int 0 0, .int kH.length 0, .int ep 0] }).get? b = some o := fun b o e => Heap.get?_push_of_some _ e
  have hwr : ∀ b o, s.heap.get? b = some o → b ∉ [s.heap.objs.size] := fun b o e hm => by
    rcases List.mem_cons.mp hm with e2 | hm
    · exact Nat.lt_irrefl _ (e2 ▸ Heap.lt_size e)
    · cases hm
  refine comp_fresh (knd := intKind prog w) (RR := fun acc C => compPost (model prog w) A E (some (assign (.Name y py) env)) (fun _ s' => Q .next s') acc C)
    (Walks.dictKeys hA s.heap.objs.size hh hIhh kH ep) (by rw [sizeLine_eq]; omega) (testV test) (fun v k => Value.isInt k v = true) (fun v y => ∀ k, Value.isInt k v = true → valueAt kH k = some y)
    hcell hkind hx ⟨⟨_, Heap.get?_push_size _ rfl, rfl, rfl⟩, hDA.keep up⟩ ?_ ⟨?_, ?_, ?_⟩ ?_
  · intro b hb
    show b < (s.heap.push _).objs.size
    rw [Heap.size_push]
    rcases List.mem_cons.mp hb with rfl | hb
    · exact Nat.lt_succ_self _
    · rcases List.mem_cons.mp hb with rfl | hb
      · exact Nat.lt_succ_of_lt hhlt
      · cases hb
  · rintro C i v s₃ m₃ E' ⟨k, x, hx1, hx2⟩ hn hm hk
    obtain ⟨t, rfl⟩ := Value.isInt_shape hx2
    have hcm : s₃.heap.get? cm = some om := hk _ _ (hwr _ _ (N _ pcm).1) (up _ _ (N _ pcm).1)
    simp only [List.forIn_cons, List.forIn_nil, if_true]
    refine wpAny_bind (wpAny_bind (wpAny_isTrue_Compare1 (wpAny_Name (wpAny_loadName_local (by simp [compEnvC, relabel, hkind]) (lookup_relabel_local hx) hn hm ?_) (by decide)) hmk))
    refine wpAny_Name (wpAny_loadName_cell (by simp [compEnvC, relabel, hkind]) (hk3 C) hl2 ⟨om, hcm, hom⟩ ?_) (by decide)
    refine hop _ _ _ _ _ _ _ (wpAny_truthy_bool ?_)
    refine wpAny_pure (wpAny_pure ⟨rfl, s₃.heap, s₃.toks, rfl, fun _ _ e => e⟩)
  · rintro C i v s₃ m₃ E' ⟨k, x, hx1, hx2⟩ _ hn hm hk
    refine wpAny_Name (wpAny_loadName_local (by simp [compEnvC, relabel, hkind]) (lookup_relabel_local hx) hn hm ?_) (by decide)
    exact ⟨⟨k, hx2, hx2⟩, s₃.heap, s₃.toks, rfl, fun _ _ e => e⟩
  · rintro C i v s₃ m₃ E' ⟨k, x, hx1, hx2⟩ _ hn hm hk
    have hch : s₃.heap.get? ch = some oh := hk _ _ (hwr _ _ (N _ pch).1) (up _ _ (N _ pch).1)
    have hHH : s₃.heap.get? hh = some oH := hk _ _ (hwr _ _ (N _ pH).1) (up _ _ (N _ pH).1)
    have hD : s₃.heap.DictOf (intKind prog w) hh kH := Heap.dictOf_iff.mpr ⟨oH, hHH, hoH⟩
    refine wpAny_Subscript_Name slot_dict_getitem.lookup ?_
    refine wpAny_Name (wpAny_loadName_cell (by simp [compEnvC, relabel, hkind]) (hk2 C) hl1 ⟨oh, hch, hoh⟩ ?_) (by decide)
    refine wpAny_Name (wpAny_loadName_local (by simp [compEnvC, relabel, hkind]) (lookup_relabel_local hx) hn hm ?_) (by decide)
    refine ⟨hD.typeIs, wpAny_getItem_of hx2 hD.mapOf (valueAt_of_at hnd hx1) ⟨fun k' hk' => ?_, s₃.heap, s₃.toks + 1, rfl, fun _ _ e => e⟩⟩
    rw [Value.isInt_inj _ _ _ hk' hx2]
    exact valueAt_of_at hnd hx1
  · intro C h' tk m' kvs vs hC hnC hD hlen hP hF hk
    have hsz : (s.heap.push { cls := .type "dict_keyiterator", data := .fields #[.ref hh, .int 0 0, .int kH.length 0, .int ep 0] }).objs.size = s.heap.objs.size + 1 := Heap.size_push ..
    have keep : ∀ b o, s.heap.get? b = some o → h'.get? b = some o := fun b o e => hk b o (hwr b o e) (up b o e)
    dsimp only at hC hD ⊢
    generalize (s.heap.push { cls := .type "dict_keyiterator", data := .fields #[.ref hh, .int 0 0, .int kH.length 0, .int ep 0] }).objs.size = D at *
    have hDs : ∀ b o, s.heap.get? b = some o → b < D := fun b o e => by have := Heap.lt_size e; rw [hsz]; exact Nat.lt_succ_of_lt this
    have hns := F.ns
    have hLlt : env.locals < D := by rw [hsz]; exact Nat.lt_succ_of_lt F.ns.lt
    have hLC : env.locals ≠ C := Nat.ne_of_lt (Nat.lt_trans hLlt hC)
    show wpAny _ A (assign (.Name y py) env (.ref D)) _ _ _
    refine wpAny_assign_Name (wpAny_storeName_local hy (F.ns.at' fun o e => keep _ o e) (fun h₂ hn₂ hs₂ => ?_) hp)
    refine ⟨m', hnC.sameBut hs₂ (Ne.symm hLC), fun h₃ hs₃ => ?_⟩
    have keep3 : ∀ b o, b ≠ env.locals → s.heap.get? b = some o → h₃.get? b = some o := fun b o hb e =>
      hs₃.extBut b o (Nat.ne_of_lt (Nat.lt_trans (hDs b o e) hC)) (hs₂.extBut b o hb (keep b o e))
    obtain ⟨oD, hoD, hdD⟩ := Heap.dictOf_iff.mp hD
    have hD3 : h₃.get? D = some oD := hs₃.extBut _ _ (Nat.ne_of_lt hC) (hs₂.extBut _ _ (Nat.ne_of_gt hLlt) hoD)
    have hD0 : h₀.get? D = none := by
      cases e : h₀.get? D with
      | none => rfl
      | some o' => exact absurd (hDs _ _ (F.keep _ _ e)) (Nat.lt_irrefl _)
    refine h D h₃ oD kvs _ ⟨hn₂.sameBut hs₃ hLC, fun b o e => keep3 b o (Nat.ne_of_lt (Nat.lt_of_lt_of_le (Heap.lt_size e) F.above)) (F.keep b o e), F.above⟩ (fun q hq => ?_) hdD
      (beq_eq_false_iff_ne.mpr (Nat.ne_of_gt (Nat.lt_trans hbig (Nat.lt_of_le_of_lt F.above hLlt)))) (fun q hq => hDs _ _ (N q hq).1) (fun k => filter_val hlen hP hF k) ?_
    · cases hq with
      | head => exact ⟨hD3, Nat.ne_of_gt hLlt, hD0⟩
      | tail _ hq => exact ⟨keep3 _ _ (N q hq).2.1 (N q hq).1, (N q hq).2⟩
    · have e1 := hF.length_le
      have e2 : (vs.filter (testV test)).length ≤ vs.length := List.length_filter_le _ _
      omega
end
end
section
local macro_rules | `(tactic| omega) => `(tactic| first | walk_at "MY om" | omega +splitDisjunctions)
/-- the found table holds what it should of a node: its hash, or nothing where all its leaves are blank -/
def FHas (T : List Txt) (leaf : Nat → Txt) (kF : List (List Int × Value)) (d p : Nat) : Prop :=
  (∃ t, valueAt kF [((p * 2 ^ d : Nat) : Int), ((d : Nat) : Int)] = some (Value.bytes (List.toArray (hT T (node T leaf d p))) t)) ∨
    (valueAt kF [((p * 2 ^ d : Nat) : Int), ((d : Nat) : Int)] = none ∧ ∀ n, p * 2 ^ d ≤ n → n < (p + 1) * 2 ^ d → leaf n = [])
/-- p' at height d' stands below p at height d -/
def Under (d p d' p' : Nat) : Prop := d' ≤ d ∧ p * 2 ^ (d - d') ≤ p' ∧ p' < (p + 1) * 2 ^ (d - d')
def Fresh (kF : List (List Int × Value)) (d p : Nat) : Prop := ∀ d' p', Under d p d' p' → valueAt kF [((p' * 2 ^ d' : Nat) : Int), ((d' : Nat) : Int)] = none
def FPost (T : List Txt) (leaf : Nat → Txt) (kF kF' : List (List Int × Value)) (d p : Nat) : Prop :=
  (∀ d' p', Under d p d' p' → FHas T leaf kF' d' p') ∧ (∀ d' p', ¬ Under d p d' p' → valueAt kF' [((p' * 2 ^ d' : Nat) : Int), ((d' : Nat) : Int)] = valueAt kF [((p' * 2 ^ d' : Nat) : Int), ((d' : Nat) : Int)]) ∧ kF'.length + 1 ≤ kF.length + 2 ^ (d + 1)
/-- what a dict of a range holds -/
def HeldIs (kH : List (Int × Value)) (leaf : Nat → Txt) (lo hi : Nat) : Prop :=
  (∀ k v, valueAt kH k = some v → ∃ (n : Nat) (t : Tok), k = (n : Int) ∧ lo ≤ n ∧ n < hi ∧ v = Value.bytes (List.toArray (leaf n)) t) ∧ ∀ n : Nat, lo ≤ n → n < hi → valueAt kH (n : Int) = none → leaf n = []
theorem node_blank {T : List Txt} {leaf : Nat → Txt} : ∀ d p, (∀ n, p * 2 ^ d ≤ n → n < (p + 1) * 2 ^ d → leaf n = []) → node T leaf d p = node T (fun _ => []) d 0
  | 0, p, h => by
    show leaf p = []
    exact h p (by simp) (by simp)
  | d + 1, p, h => by
    have e : 2 ^ (d + 1) = 2 * 2 ^ d := by rw [Nat.pow_succ, Nat.mul_comm]
    have hp : 0 < 2 ^ d := Nat.pos_of_ne_zero (by simp)
    have h1 := node_blank (T := T) d (2 * p) (fun n a b => h n (by rw [e]; calc p * (2 * 2 ^ d) = 2 * p * 2 ^ d := by rw [← Nat.mul_assoc, Nat.mul_comm p 2]
        _ ≤ n := a) (by rw [e]; calc n < (2 * p + 1) * 2 ^ d := b
        _ ≤ (p + 1) * (2 * 2 ^ d) := by rw [← Nat.mul_assoc]; exact Nat.mul_le_mul_right _ (by omega)))
    have h2 := node_blank (T := T) d (2 * p + 1) (fun n a b => h n (by rw [e]; calc p * (2 * 2 ^ d) ≤ (2 * p + 1) * 2 ^ d := by rw [← Nat.mul_assoc]; exact Nat.mul_le_mul_right _ (by omega)
        _ ≤ n := a) (by rw [e]; calc n < (2 * p + 1 + 1) * 2 ^ d := b
        _ ≤ (p + 1) * (2 * 2 ^ d) := by rw [← Nat.mul_assoc]; exact Nat.mul_le_mul_right _ (by omega)))
    have h3 := node_blank (T := T) (leaf := fun _ => []) d 1 (fun _ _ _ => rfl)
    show hT T (node T leaf d (2 * p)) ++ hT T (node T leaf d (2 * p + 1)) = hT T (node T (fun _ => []) d (2 * 0)) ++ hT T (node T (fun _ => []) d (2 * 0 + 1))
    rw [h1, h2, h3]
theorem HeldIs.empty {kH : List (Int × Value)} {leaf : Nat → Txt} {lo hi : Nat} (h : HeldIs kH leaf lo hi) (he : kH.length = 0) : ∀ n, lo ≤ n → n < hi → leaf n = [] := by
  cases List.length_eq_zero_iff.mp he
  exact fun n a b => h.2 n a b rfl
theorem HeldIs.left {kH kD : List (Int × Value)} {leaf : Nat → Txt} {lo mid hi : Nat} {md : Int} (h : HeldIs kH leaf lo hi) (hm : md = (mid : Int)) (h2 : mid ≤ hi) (hk : ∀ k, valueAt kD k = if decide (k < md) = true then valueAt kH k else none) : HeldIs kD leaf lo mid := by
  subst hm
  refine ⟨fun k v hv => ?_, fun n a b hn => ?_⟩
  · rw [hk] at hv
    split at hv
    · rename_i hlt
      obtain ⟨n, t, e1, e2, e3, e4⟩ := h.1 k v hv
      have : k < (mid : Int) := by simpa using hlt
      exact ⟨n, t, e1, e2, by omega, e4⟩
    · cases hv
  · rw [hk, if_pos (by simp; omega)] at hn
    exact h.2 n a (by omega) hn
theorem HeldIs.right {kH kD : List (Int × Value)} {leaf : Nat → Txt} {lo mid hi : Nat} {md : Int} (h : HeldIs kH leaf lo hi) (hm : md = (mid : Int)) (h2 : lo ≤ mid) (hk : ∀ k, valueAt kD k = if decide (md ≤ k) = true then valueAt kH k else none) : HeldIs kD leaf mid hi := by
  subst hm
  refine ⟨fun k v hv => ?_, fun n a b hn => ?_⟩
  · rw [hk] at hv
    split at hv
    · rename_i hlt
      obtain ⟨n, t, e1, e2, e3, e4⟩ := h.1 k v hv
      have : (mid : Int) ≤ k := by simpa using hlt
      exact ⟨n, t, e1, by omega, e3, e4⟩
    · cases hv
  · rw [hk, if_pos (by simp; omega)] at hn
    exact h.2 n (by omega) b hn
end
section
local macro_rules | `(tactic| omega) => `(tactic| first | walk_at "MY om" | omega +splitDisjunctions)
theorem pow2_pos (d : Nat) : 0 < 2 ^ d := Nat.pos_of_ne_zero (by simp)
theorem under_self (d p : Nat) : Under d p d p := ⟨Nat.le_refl _, by simp, by simp⟩
theorem under_self_eq {d p p' : Nat} (h : Under d p d p') : p' = p := by
  obtain ⟨_, h1, h2⟩ := h
  simp at h1 h2; omega
theorem under_child {d p d' p' : Nat} {b : Nat} (hb : b < 2) (h : Under d (2 * p + b) d' p') : Under (d + 1) p d' p' := by
  obtain ⟨h0, h1, h2⟩ := h
  have e : d + 1 - d' = (d - d') + 1 := by omega
  refine ⟨by omega, ?_, ?_⟩
  · rw [e, Nat.pow_succ]
    calc p * (2 ^ (d - d') * 2) = 2 * p * 2 ^ (d - d') := by rw [Nat.mul_comm (2 ^ (d - d')) 2, ← Nat.mul_assoc, Nat.mul_comm p 2]
      _ ≤ (2 * p + b) * 2 ^ (d - d') := Nat.mul_le_mul_right _ (by omega)
      _ ≤ p' := h1
  · rw [e, Nat.pow_succ]
    calc p' < (2 * p + b + 1) * 2 ^ (d - d') := h2
      _ ≤ (2 * (p + 1)) * 2 ^ (d - d') := Nat.mul_le_mul_right _ (by omega)
      _ = (p + 1) * (2 ^ (d - d') * 2) := by rw [Nat.mul_comm (2 ^ (d - d')) 2, ← Nat.mul_assoc, Nat.mul_comm (p + 1) 2]
theorem under_succ {d p d' p' : Nat} (h : Under (d + 1) p d' p') : (d' = d + 1 ∧ p' = p) ∨ Under d (2 * p) d' p' ∨ Under d (2 * p + 1) d' p' := by
  by_cases hd : d' = d + 1
  · subst hd; exact .inl ⟨rfl, under_self_eq h⟩
  · obtain ⟨h0, h1, h2⟩ := h
    have e : d + 1 - d' = (d - d') + 1 := by omega
    rw [e, Nat.pow_succ] at h1 h2
    have e1 : p * (2 ^ (d - d') * 2) = 2 * p * 2 ^ (d - d') := by rw [Nat.mul_comm (2 ^ (d - d')) 2, ← Nat.mul_assoc, Nat.mul_comm p 2]
    have e2 : (p + 1) * (2 ^ (d - d') * 2) = (2 * p + 1 + 1) * 2 ^ (d - d') := by rw [Nat.mul_comm (2 ^ (d - d')) 2, ← Nat.mul_assoc, Nat.mul_comm (p + 1) 2]; rfl
    rw [e1] at h1
    rw [e2] at h2
    by_cases hc : p' < (2 * p + 1) * 2 ^ (d - d')
    · exact .inr (.inl ⟨by omega, h1, hc⟩)
    · exact .inr (.inr ⟨by omega, Nat.le_of_not_lt hc, h2⟩)
theorem under_disj {d p d' p' : Nat} (h : Under d (2 * p) d' p') : ¬ Under d (2 * p + 1) d' p' := fun h' => by
  have := h.2.2
  have := h'.2.1
  omega
theorem under_ne {d p d' p' : Nat} (h : Under d p d' p') {q : Nat} : ¬ (d' = d + 1 ∧ p' = q) := fun e => by have := h.1; omega
theorem key_ne {d p d' p' : Nat} (h : ¬ (d' = d ∧ p' = p)) : [((p' * 2 ^ d' : Nat) : Int), ((d' : Nat) : Int)] ≠ [((p * 2 ^ d : Nat) : Int), ((d : Nat) : Int)] := fun e => by
  injection e with e1 e2
  injection e2 with e2 _
  have e2 := Int.ofNat.inj e2
  subst e2
  have e1 := Int.ofNat.inj e1
  exact h ⟨rfl, Nat.eq_of_mul_eq_mul_right (pow2_pos d') e1⟩
theorem Fresh.left {kF : List (List Int × Value)} {d p : Nat} (h : Fresh kF (d + 1) p) : Fresh kF d (2 * p) := fun d' p' u => h d' p' (under_child (b := 0) (by decide) u)
theorem Fresh.right {T : List Txt} {leaf : Nat → Txt} {kF kF1 : List (List Int × Value)} {d p : Nat} (h : Fresh kF (d + 1) p) (hp : FPost T leaf kF kF1 d (2 * p)) : Fresh kF1 d (2 * p + 1) := fun d' p' u => by
  rw [hp.2.1 d' p' (fun u' => under_disj u' u)]
  exact h d' p' (under_child (b := 1) (by decide) u)
theorem FHas.same {T : List Txt} {leaf : Nat → Txt} {kF kF' : List (List Int × Value)} {d p : Nat} (h : FHas T leaf kF d p) (e : valueAt kF' [((p * 2 ^ d : Nat) : Int), ((d : Nat) : Int)] = valueAt kF [((p * 2 ^ d : Nat) : Int), ((d : Nat) : Int)]) : FHas T leaf kF' d p := by
  unfold FHas; rw [e]; exact h
theorem FPost.blank {T : List Txt} {leaf : Nat → Txt} {kF : List (List Int × Value)} {d p : Nat} (hf : Fresh kF d p) (hb : ∀ n, p * 2 ^ d ≤ n → n < (p + 1) * 2 ^ d → leaf n = []) : FPost T leaf kF kF d p := by
  refine ⟨fun d' p' u => .inr ⟨hf d' p' u, fun n a b => hb n ?_ ?_⟩, fun _ _ _ => rfl, ?_⟩
  · have e : 2 ^ d = 2 ^ (d - d') * 2 ^ d' := by rw [← Nat.pow_add, Nat.sub_add_cancel u.1]
    rw [e, ← Nat.mul_assoc]
    exact Nat.le_trans (Nat.mul_le_mul_right _ u.2.1) a
  · have e : 2 ^ d = 2 ^ (d - d') * 2 ^ d' := by rw [← Nat.pow_add, Nat.sub_add_cancel u.1]
    rw [e, ← Nat.mul_assoc]
    exact Nat.lt_of_lt_of_le b (Nat.mul_le_mul_right _ u.2.2)
  · have := pow2_pos (d + 1); omega
theorem FPost.leaf {T : List Txt} {leaf : Nat → Txt} {kF : List (List Int × Value)} {p : Nat} (t : Tok) : FPost T leaf kF (stored kF [((p * 2 ^ 0 : Nat) : Int), ((0 : Nat) : Int)] (Value.bytes (List.toArray (hT T (node T leaf 0 p))) t)) 0 p := by
  refine ⟨fun d' p' u => ?_, fun d' p' u => ?_, ?_⟩
  · have h0 := u.1
    have e : d' = 0 := by omega
    subst e
    cases under_self_eq u
    exact .inl ⟨t, by rw [valueAt_stored, if_pos rfl]⟩
  · rw [valueAt_stored, if_neg (key_ne fun e => u (by rw [e.1, e.2]; exact under_self _ _))]
  · have := stored_len kF [((p * 2 ^ 0 : Nat) : Int), ((0 : Nat) : Int)] (Value.bytes (List.toArray (hT T (node T leaf 0 p))) t)
    simp only [Nat.zero_add, Nat.pow_one]; omega
theorem FPost.step {T : List Txt} {leaf : Nat → Txt} {kF kF1 kF2 : List (List Int × Value)} {d p : Nat} (h1 : FPost T leaf kF kF1 d (2 * p)) (h2 : FPost T leaf kF1 kF2 d (2 * p + 1)) (t : Tok) :
    FPost T leaf kF (stored kF2 [((p * 2 ^ (d + 1) : Nat) : Int), ((d + 1 : Nat) : Int)] (Value.bytes (List.toArray (hT T (node T leaf (d + 1) p))) t)) (d + 1) p := by
  have h3 : ∀ d' p', ¬ (d' = d + 1 ∧ p' = p) → valueAt (stored kF2 [((p * 2 ^ (d + 1) : Nat) : Int), ((d + 1 : Nat) : Int)] (Value.bytes (List.toArray (hT T (node T leaf (d + 1) p))) t)) [((p' * 2 ^ d' : Nat) : Int), ((d' : Nat) : Int)] = valueAt kF2 [((p' * 2 ^ d' : Nat) : Int), ((d' : Nat) : Int)] := fun d' p' hn => by
    rw [valueAt_stored, if_neg (key_ne hn)]
  refine ⟨fun d' p' u => ?_, fun d' p' u => ?_, ?_⟩
  · rcases under_succ u with ⟨rfl, rfl⟩ | u | u
    · exact .inl ⟨t, by rw [valueAt_stored, if_pos rfl]⟩
    · exact ((h1.1 d' p' u).same (h2.2.1 d' p' (under_disj u))).same (h3 d' p' (under_ne u))
    · exact (h2.1 d' p' u).same (h3 d' p' (under_ne u))
  · rw [h3 d' p' (fun e => u (by rw [e.1, e.2]; exact under_self _ _)), h2.2.1 d' p' (fun v => u (under_child (b := 1) (by decide) v)), h1.2.1 d' p' (fun v => u (under_child (b := 0) (by decide) v))]
  · have a := stored_len kF2 [((p * 2 ^ (d + 1) : Nat) : Int), ((d + 1 : Nat) : Int)] (Value.bytes (List.toArray (hT T (node T leaf (d + 1) p))) t)
    have b := h1.2.2
    have c := h2.2.2
    have e : 2 ^ (d + 1 + 1) = 2 * 2 ^ (d + 1) := by rw [Nat.pow_succ, Nat.mul_comm]
    omega
theorem HeldIs.one {kH : List (Int × Value)} {leaf : Nat → Txt} {q : Nat} (h : HeldIs kH leaf (q * 2 ^ 0) ((q + 1) * 2 ^ 0)) (hne : (kH.length == 0) = false) : ∃ t, valueAt kH ((q * 2 ^ 0 : Nat) : Int) = some (Value.bytes (List.toArray (leaf q)) t) := by
  cases kH with
  | nil => cases hne
  | cons a r =>
    obtain ⟨k, v⟩ := a
    have hv : valueAt ((k, v) :: r) k = some v := by simp [valueAt]
    obtain ⟨n, t, rfl, h1, h2, rfl⟩ := h.1 k v hv
    simp only [Nat.pow_zero, Nat.mul_one] at h1 h2 ⊢
    have : n = q := by omega
    subst this
    exact ⟨t, hv⟩
end
section
local macro_rules | `(tactic| omega) => `(tactic| first | walk_at "MY om" | omega +splitDisjunctions)
section
open PySem.W
variable {prog : Program} {w : World} {A : Around} {E : Value → Shared → Prop} {s : Shared} {env : Env} {h₀ : Heap} {x : Str} {body : List Stmt} {Q : Flow → Shared → Prop}
theorem loop_down {r : Addr} {n : Nat} {B : Int} {t₀ u₀ v₀ : Tok} {m : Loc} {news : Led} (S : List Str) (vals₀ : List (Str × Value)) (R : Nat → List (Str × Value) → Led → Prop)
    (hh : A.handled = none) (hr : IsRange s.heap r B (-1) (-1) t₀ u₀ v₀) (hB : B = (n : Int) - 1) (hn : n ≤ 100000) (F : Fr h₀ env.locals s.heap m) (N : News h₀ env.locals s.heap news)
    (hv₀ : ∀ p ∈ vals₀, m p.1 = some p.2) (h0 : R 0 vals₀ news)
    (turn : ∀ (i : Nat) tv vals u news₁ h tk own, i < n → R i vals news₁ → news₁.map (·.1) = news.map (·.1) → (∀ p ∈ own, ∀ q ∈ news, p.1 ≠ q.1) → Fr h₀ env.locals h (fun y => if y = x then some (.int ((n - 1 - i : Nat) : Int) tv) else frOf vals S u m y) → News h₀ env.locals h (news₁ ++ own) →
      wpAny (model prog w) A (execs body env) (TurnPost h₀ env.locals (fun m' nx => ∃ vals', R (i + 1) vals' nx ∧ (∀ p ∈ vals', m' p.1 = some p.2) ∧ Agree S m' m) own (news.map (·.1)) { s with heap := h, toks := tk } Q) E { s with heap := h, toks := tk })
    (done : ∀ vals u news₁ h tk, R n vals news₁ → news₁.map (·.1) = news.map (·.1) → Fr h₀ env.locals h (frOf vals S u m) → News h₀ env.locals h news₁ → Q .next { s with heap := h, toks := tk }) :
    wpAny (model prog w) A (pyIter (.ref r)) (fun it s₂ => LoopAtV prog w A h₀ env x body Q E it s₂) E s := by
  subst hB
  have hsz : Builtin.Range.rangeSize ((n : Int) - 1) (-1) (-1) = n := by
    unfold Builtin.Range.rangeSize
    rw [if_neg (by decide)]
    by_cases h : (n : Int) - 1 > -1
    · rw [if_pos h]
      show ((n : Int) - 1 - -1 - 1) / 1 + 1 = n
      rw [Int.ediv_one]; omega
    · rw [if_neg h]; omega
  have hsm : Builtin.Range.small ((n : Int) - 1) (-1) (-1) = true := by
    unfold Builtin.Range.small
    rw [hsz]
    have a1 : Builtin.Range.rangeFitsLong ((n : Int) - 1) = true := by unfold Builtin.Range.rangeFitsLong; simp; omega
    have a2 : Builtin.Range.rangeFitsLong (n : Int) = true := by unfold Builtin.Range.rangeFitsLong; simp; omega
    rw [a1, a2]
    simp [Builtin.Range.rangeFitsLong]
  refine wpAny_pyIter_range hr hsm ?_
  have F2 := F.push (o := ({ cls := .type "range_iterator", data := .fields #[rawInt ((n : Int) - 1), rawInt (Builtin.Range.rangeSize ((n : Int) - 1) (-1) (-1)), rawInt (-1)] } : Obj))
  have lt : ∀ p ∈ news, p.1 < s.heap.objs.size := fun p hp => Heap.lt_size (N p hp).1
  have hL : env.locals < s.heap.objs.size := F.ns.lt
  refine loop_R (n := n) S vals₀ R (Walks.range (prog := prog) (w := w) hh s.heap.objs.size ((n : Int) - 1) (-1) n) ?_ ?_ ?_ ?_ F2 (fun p hp => ⟨Heap.get?_push_of_some _ (N p hp).1, (N p hp).2⟩) hv₀ h0 ?_ ?_
  · intro hq
    rw [List.mem_singleton] at hq
    exact absurd hL (by rw [hq]; exact Nat.lt_irrefl _)
  · intro b hb
    rw [List.mem_singleton] at hb
    subst hb
    exact next_is_new F
  · intro p hp hq
    rw [List.mem_singleton] at hq
    exact absurd (lt p hp) (by rw [hq]; exact Nat.lt_irrefl _)
  · rw [hsz]
    show IsRangeIter _ _ _ _ _
    simpa using Heap.get?_push_size _ rfl
  · intro i v vals u news₁ h tk own hi hP hR hma ho F₁ N₁
    obtain ⟨tv, rfl⟩ := hP
    have e : ((n : Int) - 1) + (i : Int) * (-1) = ((n - 1 - i : Nat) : Int) := by omega
    rw [e] at F₁
    exact turn i tv vals u news₁ h tk own hi hR hma (fun p hp q hq => by
      have := ho p hp
      rw [List.mem_singleton] at this
      exact fun e => absurd (lt q hq) (by rw [← e, this]; exact Nat.lt_irrefl _)) F₁ N₁
  · exact done
end
section
variable {prog : Program} {w : World} {A : Around} {E : Value → Shared → Prop} {s : Shared} {Q : Value → Shared → Prop} {t u : Tok} {x y : Nat}
theorem pow_nat (hy : y ≤ 1000) (h : Q (.int ((2 ^ y : Nat) : Int) s.toks) { s with toks := s.toks + 1 }) : wpAny (model prog w) A (binaryOp .Pow (.int 2 t) (.int (y : Int) u)) Q E s := by
  refine pow_int_small (by omega) (by omega) (by decide) ?_
  have e : (2 : Int) ^ ((y : Nat) : Int).toNat = ((2 ^ y : Nat) : Int) := by simp
  rw [e]; exact h
theorem fdiv_nat (hy : 0 < y) (hz : y < 1073741824) (h : Q (.int ((x / y : Nat) : Int) s.toks) { s with toks := s.toks + 1 }) : wpAny (model prog w) A (binaryOp .FloorDiv (.int (x : Int) t) (.int (y : Int) u)) Q E s := by
  refine floordiv_int (by omega) ?_ (.inl (PyProof.noPylong_small (by simpa using hz)))
  have e : Int.fdiv (x : Int) (y : Int) = ((x / y : Nat) : Int) := by rw [Int.fdiv_eq_ediv_of_nonneg _ (by omega)]; simp
  rw [e]; exact h
theorem mod_nat (hy : 0 < y) (h : Q (.int ((x % y : Nat) : Int) s.toks) { s with toks := s.toks + 1 }) : wpAny (model prog w) A (binaryOp .Mod (.int (x : Int) t) (.int (y : Int) u)) Q E s := by
  refine mod_int' (by omega) ?_
  have e : Int.fmod (x : Int) (y : Int) = ((x % y : Nat) : Int) := by rw [Int.fmod_eq_emod_of_nonneg _ (by omega)]; simp
  rw [e]; exact h
theorem mod_two (h : Q (.int ((x % 2 : Nat) : Int) s.toks) { s with toks := s.toks + 1 }) : wpAny (model prog w) A (binaryOp .Mod (.int (x : Int) t) (.int 2 u)) Q E s := mod_nat (y := 2) (by decide) h
theorem mul_nat (hx : x < 1073741824) (hy : y < 1073741824) (h : Q (.int ((x * y : Nat) : Int) s.toks) { s with toks := s.toks + 1 }) : wpAny (model prog w) A (binaryOp .Mult (.int (x : Int) t) (.int (y : Int) u)) Q E s := by
  refine mul_int ?_ (.of_left (PySem.intBits_le_iff.mpr (by simp only [Int.natAbs_natCast]; exact Nat.lt_of_lt_of_le hx (by decide))))
  have e : (x : Int) * (y : Int) = ((x * y : Nat) : Int) := by simp
  rw [e]; exact h
theorem add_nat (h : Q (.int ((x + y : Nat) : Int) s.toks) { s with toks := s.toks + 1 }) : wpAny (model prog w) A (binaryOp .Add (.int (x : Int) t) (.int (y : Int) u)) Q E s := by
  refine add_int ?_
  have e : (x : Int) + (y : Int) = ((x + y : Nat) : Int) := by simp
  rw [e]; exact h
theorem sub_nat (hy : y ≤ x) (h : Q (.int ((x - y : Nat) : Int) s.toks) { s with toks := s.toks + 1 }) : wpAny (model prog w) A (binaryOp .Sub (.int (x : Int) t) (.int (y : Int) u)) Q E s := by
  refine sub_int ?_
  have e : (x : Int) - (y : Int) = ((x - y : Nat) : Int) := by omega
  rw [e]; exact h
end
end
section
local macro_rules | `(tactic| omega) => `(tactic| first | walk_at "MY om" | omega +splitDisjunctions)
def updL (leaf : Nat → Txt) (key : Nat) (v : Txt) : Nat → Txt := fun n => if n = key then v else leaf n
theorem div_range {n p k : Nat} : n / 2 ^ k = p ↔ p * 2 ^ k ≤ n ∧ n < (p + 1) * 2 ^ k := by
  have hp := pow2_pos k
  constructor
  · rintro rfl
    exact ⟨Nat.div_mul_le_self _ _, Nat.lt_mul_of_div_lt (Nat.lt_succ_self _) hp⟩
  · rintro ⟨h1, h2⟩
    have a := (Nat.le_div_iff_mul_le hp).mpr h1
    have b := (Nat.div_lt_iff_lt_mul hp).mpr h2
    omega
theorem flip1_ne (q : Nat) : flip1 q ≠ q := by unfold flip1; split <;> omega
theorem flip1_half (q : Nat) : flip1 q / 2 = q / 2 := by unfold flip1; split <;> omega
theorem flip1_of {a b : Nat} (h : a / 2 = b / 2) (hn : a ≠ b) : flip1 a = b := by unfold flip1; split <;> omega
theorem flip1_lt {q d : Nat} (hd : 0 < d) (h : q < 2 ^ d) : flip1 q < 2 ^ d := by
  obtain ⟨e, rfl⟩ : ∃ e, d = e + 1 := ⟨d - 1, by omega⟩
  rw [Nat.pow_succ] at h ⊢
  unfold flip1; split <;> omega
theorem div_div2 (n j : Nat) : n / 2 ^ j / 2 = n / 2 ^ (j + 1) := by rw [Nat.pow_succ, Nat.div_div_eq_div_mul]
theorem div_lt {key D k : Nat} (h : key < 2 ^ D) (hk : k ≤ D) : key / 2 ^ k < 2 ^ (D - k) := by
  rw [Nat.div_lt_iff_lt_mul (pow2_pos k), ← Nat.pow_add, Nat.sub_add_cancel hk]; exact h
def NodesIn (T : List Txt) (leaf : Nat → Txt) (D : Nat) : Prop := ∀ k, k ≤ D → ∀ p, p < 2 ^ (D - k) → node T leaf k p ∈ T
theorem TreeOk.nodes {kvs : List (Txt × Value)} {T : List Txt} {leaf : Nat → Txt} {D : Nat} (h : TreeOk kvs T leaf D) : NodesIn T leaf D := fun k hk p hp => (h k hk p hp).1
theorem node_same {T T' : List Txt} {leaf leaf' : Nat → Txt} {D : Nat} (hp : T <+: T') (hin : NodesIn T leaf D) : ∀ k, k ≤ D → ∀ p, p < 2 ^ (D - k) → (∀ n, n / 2 ^ k = p → leaf' n = leaf n) → node T' leaf' k p = node T leaf k p
  | 0, _, p, _, h => h p (by simp)
  | k + 1, hk, p, hpl, h => by
    have e : D - k = (D - (k + 1)) + 1 := by omega
    have hl : 2 * p + 1 < 2 ^ (D - k) := by rw [e, Nat.pow_succ]; omega
    have h1 := node_same hp hin k (by omega) (2 * p) (by omega) (fun n hn => h n (by rw [← div_div2, hn]; omega))
    have h2 := node_same hp hin k (by omega) (2 * p + 1) hl (fun n hn => h n (by rw [← div_div2, hn]; omega))
    show hT T' (node T' leaf' k (2 * p)) ++ hT T' (node T' leaf' k (2 * p + 1)) = hT T (node T leaf k (2 * p)) ++ hT T (node T leaf k (2 * p + 1))
    rw [h1, h2, hT_pre hp (hin k (by omega) _ (by omega)), hT_pre hp (hin k (by omega) _ hl)]
section
variable {T : List Txt} {leaf : Nat → Txt} {D key : Nat} {v : Txt} {kvs kvs' : List (Txt × Value)}
abbrev setT (T : List Txt) (leaf : Nat → Txt) (D key : Nat) (v : Txt) : List Txt := (pst key (sibs T leaf D key) T v (D + 1)).1
theorem setT_pre : T <+: setT T leaf D key v := by
  have := pst_pre key (sibs T leaf D key) T v 0 (D + 1)
  rw [Nat.zero_add] at this; exact this
theorem setT_mem {j : Nat} (hj : j ≤ D) : (pst key (sibs T leaf D key) T v j).2 ∈ (addT (pst key (sibs T leaf D key) T v j).1 (pst key (sibs T leaf D key) T v j).2) ∧ (addT (pst key (sibs T leaf D key) T v j).1 (pst key (sibs T leaf D key) T v j).2) <+: setT T leaf D key v := by
  refine ⟨mem_addT _ _, ?_⟩
  have := pst_pre key (sibs T leaf D key) T v (j + 1) (D - j)
  have e : j + 1 + (D - j) = D + 1 := by omega
  rw [e] at this; exact this
theorem off_same (hin : NodesIn T leaf D) {k p : Nat} (hk : k ≤ D) (hp : p < 2 ^ (D - k)) (hne : key / 2 ^ k ≠ p) : node (setT T leaf D key v) (updL leaf key v) k p = node T leaf k p :=
  node_same setT_pre hin k hk p hp (fun n hn => if_neg (fun e => hne (by rw [← e]; exact hn)))
theorem set_path (hin : NodesIn T leaf D) (hkey : key < 2 ^ D) : ∀ j, j ≤ D → (pst key (sibs T leaf D key) T v j).2 = node (setT T leaf D key v) (updL leaf key v) j (key / 2 ^ j)
  | 0, _ => by
    show v = updL leaf key v (key / 2 ^ 0)
    simp [updL]
  | j + 1, hj => by
    have ih := set_path hin hkey j (by omega)
    have hm := setT_mem (T := T) (leaf := leaf) (D := D) (key := key) (v := v) (j := j) (by omega)
    have hpg : pg key (sibs T leaf D key) T v j = hT (setT T leaf D key v) (node (setT T leaf D key v) (updL leaf key v) j (key / 2 ^ j)) := by
      rw [← ih]; exact (hT_pre hm.2 hm.1).symm
    have e1 : D - 1 - (D - 1 - j) = j := by omega
    have hsib : (sibs T leaf D key).getD ((sibs T leaf D key).length - 1 - j) [] = hT (setT T leaf D key v) (node (setT T leaf D key v) (updL leaf key v) j (flip1 (key / 2 ^ j))) := by
      have hfl : flip1 (key / 2 ^ j) < 2 ^ (D - j) := flip1_lt (by omega) (div_lt hkey (by omega))
      rw [sibs_length, sibs_get (by omega), e1, off_same hin (by omega) hfl (Ne.symm (flip1_ne _)), hT_pre setT_pre (hin j (by omega) _ hfl)]
    rw [pst_succ]
    show comb key j _ _ = hT _ (node _ _ j (2 * (key / 2 ^ (j + 1)))) ++ hT _ (node _ _ j (2 * (key / 2 ^ (j + 1)) + 1))
    rw [hsib, hpg, ← div_div2]
    unfold comb
    rw [testBit_div]
    by_cases hb : key / 2 ^ j % 2 = 1
    · have a : 2 * (key / 2 ^ j / 2) = flip1 (key / 2 ^ j) := by unfold flip1; rw [if_pos hb]; omega
      have b : 2 * (key / 2 ^ j / 2) + 1 = key / 2 ^ j := by omega
      rw [b, a, if_pos (by simpa using hb)]
    · have a : 2 * (key / 2 ^ j / 2) + 1 = flip1 (key / 2 ^ j) := by unfold flip1; rw [if_neg hb]; omega
      have b : 2 * (key / 2 ^ j / 2) = key / 2 ^ j := by omega
      rw [a, b, if_neg (by simpa using hb)]
theorem set_pg (hin : NodesIn T leaf D) (hkey : key < 2 ^ D) {j : Nat} (hj : j ≤ D) : pg key (sibs T leaf D key) T v j = hT (setT T leaf D key v) (node (setT T leaf D key v) (updL leaf key v) j (key / 2 ^ j)) := by
  rw [← set_path hin hkey j hj]
  have hm := setT_mem (T := T) (leaf := leaf) (D := D) (key := key) (v := v) hj
  exact (hT_pre hm.2 hm.1).symm
theorem set_root (hin : NodesIn T leaf D) (hkey : key < 2 ^ D) : pg key (sibs T leaf D key) T v D = hT (setT T leaf D key v) (node (setT T leaf D key v) (updL leaf key v) D 0) := by
  rw [set_pg hin hkey (Nat.le_refl _), Nat.div_eq_of_lt hkey]
theorem set_ok (ht : TreeOk kvs T leaf D) (hkey : key < 2 ^ D) (hg : DbGrown kvs T key (sibs T leaf D key) v (D + 1) kvs') : TreeOk kvs' (setT T leaf D key v) (updL leaf key v) D := by
  intro k hk p hp
  by_cases hne : key / 2 ^ k = p
  · subst hne
    rw [← set_path ht.nodes hkey k hk]
    exact hg.2.1 k (by omega)
  · rw [off_same ht.nodes hk hp hne]
    exact hg.1 _ (ht k hk p hp)
theorem sibs_set (hin : NodesIn T leaf D) (hkey : key < 2 ^ D) {mine : Nat} (hmine : mine < 2 ^ D) {i : Nat} (hi : i < D) : (sibs (setT T leaf D key v) (updL leaf key v) D mine).getD i [] =
    if flip1 (mine / 2 ^ (D - 1 - i)) = key / 2 ^ (D - 1 - i) then pg key (sibs T leaf D key) T v (D - 1 - i) else (sibs T leaf D mine).getD i [] := by
  have hfl : flip1 (mine / 2 ^ (D - 1 - i)) < 2 ^ (D - (D - 1 - i)) := flip1_lt (by omega) (div_lt hmine (by omega))
  rw [sibs_get hi, sibs_get hi]
  split
  · rename_i h
    rw [set_pg hin hkey (by omega), h]
  · rename_i h
    rw [off_same hin (by omega) hfl (Ne.symm h), hT_pre setT_pre (hin _ (by omega) _ hfl)]
/-- two keys part at that place, the root's first -/
def Part (D mine key bp : Nat) : Prop := bp < D ∧ key / 2 ^ (D - 1 - bp) ≠ mine / 2 ^ (D - 1 - bp) ∧ ∀ i, i < bp → key / 2 ^ (D - 1 - i) = mine / 2 ^ (D - 1 - i)
theorem Part.up {mine bp : Nat} (h : Part D mine key bp) (hkey : key < 2 ^ D) (hmine : mine < 2 ^ D) : key / 2 ^ (D - 1 - bp) / 2 = mine / 2 ^ (D - 1 - bp) / 2 := by
  rw [div_div2, div_div2]
  rcases Nat.eq_zero_or_pos bp with rfl | hp
  · have e : D - 1 - 0 + 1 = D := by have := h.1; omega
    rw [e, Nat.div_eq_of_lt hkey, Nat.div_eq_of_lt hmine]
  · have := h.2.2 (bp - 1) (by omega)
    have e : D - 1 - (bp - 1) = D - 1 - bp + 1 := by have := h.1; omega
    rw [e] at this; exact this
theorem div_eq_up {a b j k : Nat} (h : a / 2 ^ j = b / 2 ^ j) (hk : j ≤ k) : a / 2 ^ k = b / 2 ^ k := by
  have e : 2 ^ k = 2 ^ j * 2 ^ (k - j) := by rw [← Nat.pow_add]; congr 1; omega
  rw [e, ← Nat.div_div_eq_div_mul, ← Nat.div_div_eq_div_mul, h]
theorem Part.flip {mine bp : Nat} (h : Part D mine key bp) (hkey : key < 2 ^ D) (hmine : mine < 2 ^ D) {i : Nat} (hi : i < D) : flip1 (mine / 2 ^ (D - 1 - i)) = key / 2 ^ (D - 1 - i) ↔ i = bp := by
  constructor
  · intro he
    rcases Nat.lt_trichotomy i bp with hlt | rfl | hgt
    · rw [h.2.2 i hlt] at he
      exact absurd he (flip1_ne _)
    · rfl
    · exfalso
      have e2 : mine / 2 ^ (D - 1 - i) / 2 = key / 2 ^ (D - 1 - i) / 2 := by rw [← he, flip1_half]
      rw [div_div2, div_div2] at e2
      have := div_eq_up e2 (k := D - 1 - bp) (by omega)
      exact h.2.1 this.symm
  · rintro rfl
    exact flip1_of (h.up hkey hmine).symm (Ne.symm h.2.1)
theorem Part.bits {mine bp : Nat} (h : Part D mine key bp) (hkey : key < 2 ^ D) (hmine : mine < 2 ^ D) : (mine ^^^ key).testBit (D - 1 - bp) = true ∧ ∀ i, i < bp → (mine ^^^ key).testBit (D - 1 - i) = false := by
  have hu := h.up hkey hmine
  refine ⟨?_, fun i hi => ?_⟩
  · rw [Nat.testBit_xor, testBit_div, testBit_div]
    have hn := h.2.1
    have h1 := Nat.mod_two_eq_zero_or_one (mine / 2 ^ (D - 1 - bp))
    have h2 := Nat.mod_two_eq_zero_or_one (key / 2 ^ (D - 1 - bp))
    generalize mine / 2 ^ (D - 1 - bp) = x at *
    generalize key / 2 ^ (D - 1 - bp) = y at *
    rcases h1 with h1 | h1 <;> rcases h2 with h2 | h2
    · omega
    · simp [h1, h2]
    · simp [h1, h2]
    · omega
  · rw [Nat.testBit_xor, testBit_div, testBit_div, h.2.2 i hi]
    simp
end
end
section
local macro_rules | `(tactic| omega) => `(tactic| first | walk_at "MY om" | omega +splitDisjunctions)
section
open PySem.W
variable {prog : Program} {w : World} {A : Around} {E : Value → Shared → Prop} {s : Shared} {t u : Tok}
theorem mod_any {z y : Int} {Q : Value → Shared → Prop} (hy : 0 < y) (h : ∀ n : Nat, (n : Int) < y → Q (.int (n : Int) s.toks) { s with toks := s.toks + 1 }) : wpAny (model prog w) A (binaryOp .Mod (.int z t) (.int y u)) Q E s := by
  refine mod_int' (by omega) ?_
  rw [Int.fmod_eq_emod_of_nonneg _ (by omega)]
  have h0 := Int.emod_nonneg z (show y ≠ 0 by omega)
  have h1 := Int.emod_lt_of_pos z hy
  obtain ⟨n, hn⟩ := Int.eq_ofNat_of_zero_le h0
  rw [hn] at h1 ⊢
  exact h n h1
theorem pow_gen {y : Nat} {Q : Value → Shared → Prop} (hy : y ≤ 16) (h : ∀ P : Nat, P = 2 ^ y → 0 < P → P < 1073741824 → Q (.int (P : Int) s.toks) { s with toks := s.toks + 1 }) : wpAny (model prog w) A (binaryOp .Pow (.int 2 t) (.int (y : Int) u)) Q E s :=
  pow_nat (by omega) (h _ rfl (Nat.pos_of_ne_zero (by simp)) (Nat.lt_of_le_of_lt (Nat.pow_le_pow_right (by decide) hy) (by decide)))
theorem bit_add {mine P n D : Nat} (hP : P = 2 ^ n) (hn : n < D) (hm : mine < 2 ^ D) (hb : mine / P % 2 = 0) : mine + P < 2 ^ D := by
  subst hP
  have h1 : mine / 2 ^ n + 1 < 2 ^ (D - n) := by
    have := div_lt hm (Nat.le_of_lt hn)
    have e : 2 ^ (D - n) = 2 * 2 ^ (D - n - 1) := by
      have : D - n = (D - n - 1) + 1 := by omega
      rw [this, Nat.pow_succ, Nat.mul_comm]; simp
    omega
  have h2 : mine < (mine / 2 ^ n + 1) * 2 ^ n := Nat.lt_mul_of_div_lt (Nat.lt_succ_self (mine / 2 ^ n)) (pow2_pos n)
  calc mine + 2 ^ n < (mine / 2 ^ n + 1) * 2 ^ n + 2 ^ n := by omega
    _ = (mine / 2 ^ n + 1 + 1) * 2 ^ n := by rw [Nat.add_mul (mine / 2 ^ n + 1), Nat.one_mul]
    _ ≤ 2 ^ (D - n) * 2 ^ n := Nat.mul_le_mul_right _ h1
    _ = 2 ^ D := by rw [← Nat.pow_add, Nat.sub_add_cancel (Nat.le_of_lt hn)]
theorem bit_sub {mine P : Nat} (hb : mine / P % 2 = 1) (hp : 0 < P) : P ≤ mine := by
  rcases Nat.lt_or_ge mine P with h | h
  · rw [Nat.div_eq_of_lt h] at hb; cases hb
  · exact h
theorem num_be : ∀ k n, n < 256 ^ k → num (be k n) = n
  | 0, n, h => by
    have : n = 0 := by simpa using h
    subst this; rfl
  | k + 1, n, h => by
    have ih := num_be k (n / 256) (by rw [Nat.pow_succ] at h; exact Nat.div_lt_of_lt_mul (by rw [Nat.mul_comm]; exact h))
    show num (be k (n / 256) ++ [(n % 256).toUInt8]) = n
    unfold num at ih ⊢
    rw [List.foldl_append, ih]
    show n / 256 * 256 + (UInt8.ofNat (n % 256)).toNat = n
    rw [UInt8.toNat_ofNat']
    omega
end
end
section
local macro_rules | `(tactic| omega) => `(tactic| first | walk_at "MY om" | omega +splitDisjunctions)
section
variable {prog : Program} {w : World} {A : Around} {E : Value → Shared → Prop} {s : Shared} {h₀ : Heap} {L : Addr} {m : Loc} {news : Led}
theorem adjust_upto (b n : Nat) : Builtin.Slice.sliceAdjust none (some (b : Int)) 1 (n : Int) = (0, ((min b n : Nat) : Int)) := by
  unfold Builtin.Slice.sliceAdjust
  have h1 : ¬ ((1 : Int) < 0) := by omega
  have h2 : ¬ ((b : Int) < 0) := by omega
  simp only [h1, h2, if_false]
  congr 1
  omega
theorem places_upto (k : Nat) : Builtin.Slice.slicePlaces 0 (k : Int) 1 = k := by
  unfold Builtin.Slice.slicePlaces
  have h1 : (1 : Int) > 0 := by omega
  simp only [h1, if_true, Int.ediv_one]
  split <;> omega
theorem sliceApplied_upto {sl : Addr} {b n : Nat} {u : Tok} {Q : Int × Int × Nat → Shared → Prop} (hs : s.heap.IsSliceOf sl .none (.int (b : Int) u) .none) (h : Q (0, 1, min b n) s) :
    wpAny (model prog w) A (Builtin.Slice.sliceApplied (.ref sl) (pure (n : Int))) Q E s := by
  obtain ⟨os, hos, hcs, hds⟩ := id hs
  unfold Builtin.Slice.sliceApplied Builtin.Slice.sliceFields
  refine wpAny_bind (wpAny_bind (wpAny_field hos hds (x := .none) rfl (wpAny_bind (wpAny_field hos hds (x := .int (b : Int) u) rfl (wpAny_bind (wpAny_field hos hds (x := .none) rfl (wpAny_pure ?_)))))))
  refine wpAny_bind (slicePart_none ?_)
  show wpAny _ _ (if ((1 : Int) == 0) = true then _ else _) _ _ s
  rw [if_neg (by decide)]
  refine wpAny_bind (slicePart_none (wpAny_bind (slicePart_int (wpAny_bind (wpAny_pure ?_)))))
  show wpAny _ _ (match Builtin.Slice.sliceAdjust none (some (b : Int)) 1 (n : Int) with | (lo, hi) => pure (lo, (1 : Int), Builtin.Slice.slicePlaces lo hi 1)) _ _ s
  rw [adjust_upto b n]
  show wpAny _ _ (pure ((0 : Int), (1 : Int), Builtin.Slice.slicePlaces 0 ((min b n : Nat) : Int) 1)) _ _ s
  rw [places_upto]
  exact wpAny_pure h
theorem pick_upto (xs : Array Value) (k : Nat) : ((List.range k).filterMap fun (j : Nat) => xs[((0 : Int) + (j : Int) * 1).toNat]?).toArray = (xs.toList.take k).toArray := by
  have e : (fun (j : Nat) => xs[((0 : Int) + (j : Int) * 1).toNat]?) = fun j => xs[0 + j]? := by
    funext j
    have : ((0 : Int) + (j : Int) * 1).toNat = 0 + j := by omega
    rw [this]
  rw [e]
  have := pick_run xs 0 k
  rw [List.filterMap_map] at this
  have e2 : ((fun x => xs[x]?) ∘ fun x => 0 + x) = fun j => xs[0 + j]? := rfl
  rw [e2] at this
  rw [this, List.drop_zero]
theorem getItem_tuple_upto {t sl : Addr} {items : Array Value} {b : Nat} {u : Tok} {Q : Value → Shared → Prop} (ht : IsTup s.heap t items) (hs : s.heap.IsSliceOf sl .none (.int (b : Int) u) .none) (hz : items.size ≤ 10000)
    (hw : items.size ≤ b → Q (.ref t) s) (h : b < items.size → Q (.ref s.heap.objs.size) { s with heap := s.heap.push { cls := .type "tuple", data := .seq (items.toList.take b).toArray } }) : wpAny (model prog w) A (getItem (.ref t) (.ref sl)) Q E s := by
  have htake : sizeOk (.seq (items.toList.take b).toArray) := by
    show (items.toList.take b).toArray.size ≤ sizeLine
    rw [List.size_toArray, List.length_take, Array.length_toList, sizeLine_eq]
    omega
  obtain ⟨os, hos, hcs, hds⟩ := id hs
  have hTs : s.TypeIs (.ref sl) "slice" := ⟨os, hos, hcs⟩
  unfold getItem
  try with_reducible refine wpAny_holding ?_
  first | refine wpAny_bind (wpAny_pure ?_) | skip
  refine wpAny_bind (wpAny_sequenceKey ht.typeIs (by decide) ?_)
  refine wpAny_bind (wpAny_callSpecial?_slot (name := Str.ofString "__getitem__") ht.typeIs slot_tuple_getitem
    (wpAny_call_entry slot_tuple_getitem ht.typeIs entry_tuple_getitem ?_ (args_tuple_getitem _ _)))
  show wpAny _ _ (Builtin.Tuple.tupleItemsOf (.ref t) >>= _) _ _ s
  refine wpAny_bind (tupleItemsOf_ ht ?_)
  refine wpAny_bind (wpAny_typeOf hTs ?_)
  rw [if_pos (by decide)]
  refine wpAny_bind (sliceApplied_upto hs ?_)
  show wpAny _ _ (if ((0 : Int) == 0 && (1 : Int) == 1 && (min b items.size) == items.size) = true then _ else _) _ _ s
  by_cases hb : items.size ≤ b
  · have hyes : ((0 : Int) == 0 && (1 : Int) == 1 && (min b items.size) == items.size) = true := by
      rw [Nat.min_eq_right hb]; simp
    rw [if_pos hyes]
    refine wpAny_bind ?_
    unfold Builtin.Tuple.tupleIsExact
    refine wpAny_bind (wpAny_typeOf ht.typeIs (wpAny_pure ?_))
    rw [if_pos (by decide)]
    refine wpAny_bind (wpAny_rule ?_)
    exact wpAny_pure ⟨_, rfl, wpAny_pure (hw hb)⟩
  · have hno : ¬ (((0 : Int) == 0 && (1 : Int) == 1 && (min b items.size) == items.size) = true) := by
      have e : min b items.size = b := Nat.min_eq_left (by omega)
      rw [e]; simp; omega
    have e : min b items.size = b := Nat.min_eq_left (by omega)
    rw [if_neg hno, e, pick_upto items b]
    have h := h (by omega)
    first
      | exact wpAny_bind (m := Builtin.Tuple.tupleExact _) (wpAny_newObj_type (wpAny_pure ⟨_, rfl, wpAny_pure h⟩) htake)
      | exact wpAny_bind (m := Builtin.Tuple.tupleExact _) (wpAny_newObj_type (wpAny_bind (wpAny_pure (wpAny_pure ⟨_, rfl, wpAny_pure h⟩))) htake)
      | exact wpAny_bind (wpAny_bind (m := Builtin.Tuple.tupleExact _) (wpAny_newObj_type (wpAny_pure (wpAny_pure ⟨_, rfl, wpAny_pure h⟩)) htake))
      | exact wpAny_bind (wpAny_bind (m := Builtin.Tuple.tupleExact _) (wpAny_newObj_type (wpAny_pure ⟨_, rfl, wpAny_pure h⟩) htake))
theorem tup_upto {value slice : PySem.Expr} {t : Addr} {vs : List Value} {b : Nat} {u : Tok} {Q : Value → Shared → Prop}
    (F : Fr h₀ L s.heap m) (N : News h₀ L s.heap news) (hm : (t, tupObj vs) ∈ news) (hz : vs.length ≤ 10000)
    (h : ∀ D h', Fr h₀ L h' m → News h₀ L h' ((D, tupObj (vs.take b)) :: news) → D = t ∨ (∀ p ∈ news, p.1 < D) → Q (.ref D) { s with heap := h' })
    (hs : subscripted slice false (.ref t) (.ref s.heap.objs.size) = operate [.ref s.heap.objs.size, .ref t] (getItem (.ref t) (.ref s.heap.objs.size)) := by with_unfolding_all rfl)
    (hg : ∀ r, letTemporaryGo value (.ref t) r = pure () := by intro _; with_unfolding_all rfl) :
    wpAny (model prog w) A (subscriptTail value slice (.ref t) (.ref s.heap.objs.size)) Q E { s with heap := s.heap.push { cls := .type "slice", data := .fields #[.none, .int (b : Int) u, .none] } } := by
  have ht' : IsTup (s.heap.push { cls := .type "slice", data := .fields #[.none, .int (b : Int) u, .none] }) t vs.toArray := (News.isTup N hm).keeps fun _ _ e => Heap.get?_push_of_some _ e
  have F2 := F.push { cls := .type "slice", data := .fields #[.none, .int (b : Int) u, .none] }
  have N2 : News h₀ L (s.heap.push { cls := .type "slice", data := .fields #[.none, .int (b : Int) u, .none] }) news := N.grown fun _ _ e => Heap.get?_push_of_some _ e
  refine subscriptTail_ops (s := { s with heap := s.heap.push { cls := .type "slice", data := .fields #[.none, .int (b : Int) u, .none] } }) ht'.typeIs slot_tuple_getitem.lookup
    (getItem_tuple_upto ht' (Heap.IsSliceOf.new ..) (by simpa using hz) (fun hb => ?_) (fun hb => ?_)) hs hg
  · refine h t _ F2 (fun q hq => ?_) (.inl rfl)
    cases hq with
    | head =>
      have e : vs.take b = vs := List.take_of_length_le (by simpa using hb)
      rw [e]; exact N2 _ hm
    | tail _ hq => exact N2 q hq
  · have N3 := News.push F2 N2 { cls := .type "tuple", data := .seq (vs.toArray.toList.take b).toArray }
    exact h _ _ (F2.push _) N3 (.inr fun p hp => Heap.lt_size (N2 p hp).1)
end
end
section
local macro_rules | `(tactic| omega) => `(tactic| first | walk_at "MY om" | omega +splitDisjunctions)
section
open PySem.W
variable {prog : Program} {w : World} {A₀ : Around} {E : Value → Shared → Prop} {s' : Shared} {h₀ h : Heap} {outer : List Env} {L a e t : Addr} {m : Str → Option Value} {name : Str} {scope : Scope} {cd : Value} {cl : List (Str × Addr)}
  {vs : List Value} {b₀ : Stmt} {suite : List Stmt} {pos np : Pos} {rest : List ExceptHandler} {Q : Flow → Shared → Prop} {news : List (Addr × Obj)} {KF : Frag} {C : Addr} {bmB : List Value} {newId : String}
  {p : Program} {loose : List Str} {mean : ExcName → Option Value} {mg mb : Str → Option Value} {x : Str}
theorem caught_X0 (K : Below A₀ h₀ outer h₀) (F : Fr h₀ L h m) (hsm : h.UpToSlots s'.heap) (R : RaisedK h₀ (envX name scope L a cd cl :: outer) e (.ref C) t vs news s'.heap)
    (X : KF.In h₀) (T : TopRead p loose mg mb h₀) (ex : nsIn KF mainGlobals x = some (some (.ref C))) (q : excIn KF C bmB newId = true) (hbase : bmB.contains (.type "BaseException") = true)
    (k : ∀ h', Fr h₀ L h' m → News h₀ L h' news →
      wpAny (model prog w) ((A₀.deeper (envX name scope L a cd cl)).mark (some (.ref e))) (execs (b₀ :: suite) (envX name scope L a cd cl)) Q E { s' with heap := h' })
    (hk : scope.kind = .function) (hx : (envX name scope L a cd cl).kindOf x = some .globalImplicit) (hd : (x == ("__debug__" : Str)) = false)
    (hE : PassesOwnAt (model prog w) ((A₀.deeper (envX name scope L a cd cl)).mark (some (.ref e))) (A₀.deeper (envX name scope L a cd cl)) (envX name scope L a cd cl) E) :
    wpAny (model prog w) (A₀.deeper (envX name scope L a cd cl)) (noteFrame (.ref e) (envX name scope L a cd cl))
      (fun _ s₂ => wpAny (model prog w) (A₀.deeper (envX name scope L a cd cl)) (setFlight (.ref e) none) (fun _ s₃ =>
        wpAny (model prog w) (A₀.deeper (envX name scope L a cd cl)) (handleBy (.ref e) (envX name scope L a cd cl) (.ExceptHandler (some (.Name x np)) none (b₀ :: suite) pos :: rest)) Q E s₃) E s₂) E s' := by
  refine hideG fun hG => ?_
  obtain ⟨⟨B, hB, hl, hfl, hnew⟩, htup⟩ := R
  refine hG ?_
  clear hG
  have hL : B.get? L = none := by
    obtain ⟨_, ⟨L', _, hf, hn', _⟩, _⟩ := hfl.2.2.1
    obtain rfl : L = L' := Option.some.inj hf
    exact hn'
  refine wpAny_looks_onW (Around.frames_deeper K.stack) rfl hfl fun h₄ hheld₄ hsm₄ => ?_
  refine wpAny_landsW hheld₄ fun h₅ hheld hsm₅' => ?_
  have hsm₅ := hsm₄.trans hsm₅'
  have hheld' := flyingW_base hB hheld
  have F₅ := F.of_stays hheld'.1 (hsm.trans hsm₅)
  refine hideG fun hG => ?_
  obtain ⟨ob, hob, hobc⟩ := hheld'.there
  refine hG ?_
  clear hG
  refine wpAny_handleBy_cons (codeAny_handlers_test (nameX_K F₅ X T ex ?_ hk hx hd)) (by intro q; cases q)
  refine hideG fun hG => ?_
  obtain ⟨bm, N, nm, qn, bs, hdct, sn, sub, ab, col, dd, k0, k1, k2, k3, k5, mN, hC, hN, hni, TL⟩ := ((own_of_in X T ex q).keeps F₅.keep).obj
  refine hG ?_
  clear hG
  refine wpAny_excMatches_sub_self hC hob hobc (TL.hasType hbase) (codeAny_handlers_suite ?_)
  refine lands_againW hheld fun h₆ hfl₆ hsm₆ => ?_
  have hfl₆' := flyingW_base hB hfl₆
  have F₆ := F.of_stays hfl₆'.1 ((hsm.trans hsm₅).trans hsm₆)
  exact wpAny_passesOwnAt hE (k h₆ F₆ fun q hq => ⟨hfl₆.1 _ _ (hl q hq).1, (fun z => by have := (hl q hq).1; rw [z, hL] at this; cases this), (hl q hq).2⟩)
end
end
section
local macro_rules | `(tactic| omega) => `(tactic| first | walk_at "MY om" | omega +splitDisjunctions)
section
open PySem.W
variable {prog : Program} {w : World} {A : Around} {E : Value → Shared → Prop} {s : Shared} {env : Env} {h₀ : Heap} {x : Str} {body : List Stmt} {Q : Flow → Shared → Prop}
theorem loop_list {br : Addr} {vs : List Value} {m : Loc} {news : Led} (S : List Str) (vals₀ : List (Str × Value)) (R : Nat → List (Str × Value) → Led → Prop)
    (hh : A.handled = none) (hl : s.heap.IsList br vs.toArray) (hbr : br ≠ env.locals) (F : Fr h₀ env.locals s.heap m) (N : News h₀ env.locals s.heap news)
    (hv₀ : ∀ p ∈ vals₀, m p.1 = some p.2) (h0 : R 0 vals₀ news)
    (turn : ∀ i v vals u news₁ h tk own, i < vs.length → vs[i]? = some v → R i vals news₁ → news₁.map (·.1) = news.map (·.1) → (∀ p ∈ own, p.1 = br ∨ s.heap.objs.size ≤ p.1) → Fr h₀ env.locals h (fun y => if y = x then some v else frOf vals S u m y) → News h₀ env.locals h (news₁ ++ own) →
      wpAny (model prog w) A (execs body env) (TurnPost h₀ env.locals (fun m' nx => ∃ vals', R (i + 1) vals' nx ∧ (∀ p ∈ vals', m' p.1 = some p.2) ∧ Agree S m' m) own (news.map (·.1)) { s with heap := h, toks := tk } Q) E { s with heap := h, toks := tk })
    (done : ∀ vals u news₁ h tk, R vs.length vals news₁ → news₁.map (·.1) = news.map (·.1) → Fr h₀ env.locals h (frOf vals S u m) → News h₀ env.locals h news₁ → Q .next { s with heap := h, toks := tk }) :
    wpAny (model prog w) A (pyIter (.ref br)) (fun it s₂ => LoopAtV prog w A h₀ env x body Q E it s₂) E s := by
  refine wpAny_pyIter_list hl ?_
  have F2 := F.push (o := ({ cls := .type "list_iterator", data := .fields #[.ref br, .int 0 0] } : Obj))
  have lt : ∀ p ∈ news, p.1 < s.heap.objs.size := fun p hp => Heap.lt_size (N p hp).1
  have hL : env.locals < s.heap.objs.size := F.ns.lt
  have hlt : br < s.heap.objs.size := by obtain ⟨_, e, _⟩ := hl; exact Heap.lt_size e
  refine loop_R (n := vs.length) S vals₀ R (by have := Walks.list (prog := prog) (w := w) hh s.heap.objs.size br (Nat.ne_of_lt hlt) vs.toArray; simpa using this) ?_ ?_ ?_ ?_ F2 (fun p hp => ⟨Heap.get?_push_of_some _ (N p hp).1, (N p hp).2⟩) hv₀ h0 ?_ ?_
  · intro hq
    rcases List.mem_cons.mp hq with e | hq
    · exact absurd hL (by rw [e]; exact Nat.lt_irrefl _)
    · rcases List.mem_cons.mp hq with e | hq
      · exact hbr e.symm
      · cases hq
  · intro b hb
    rw [List.mem_singleton] at hb
    subst hb
    exact next_is_new F
  · intro p hp hq
    rw [List.mem_singleton] at hq
    exact absurd (lt p hp) (by rw [hq]; exact Nat.lt_irrefl _)
  · exact ⟨⟨_, Heap.get?_push_size _ rfl, rfl, rfl⟩, hl.push _⟩
  · intro i v vals u news₁ h tk own hi hP hR hma ho F₁ N₁
    exact turn i v vals u news₁ h tk own hi hP hR hma (fun p hp => by
      rcases List.mem_cons.mp (ho p hp) with e | hq
      · exact .inr (by rw [e]; exact Nat.le_refl _)
      · rcases List.mem_cons.mp hq with e | hq
        · exact .inl e
        · cases hq) F₁ N₁
  · exact done
end
end
section
local macro_rules | `(tactic| omega) => `(tactic| first | walk_at "MY om" | omega +splitDisjunctions)
/-- any frame, with the names wanted in front -/
theorem fr_named {h₀ h : Heap} {L : Addr} {mm : Loc} (vals : List (Str × Value)) (F : Fr h₀ L h mm) (hv : ∀ p ∈ vals, mm p.1 = some p.2) : Fr h₀ L h (frOf vals [] mm mm) := by
  rw [← frOf_eq (S := []) hv Agree.refl]; exact F
theorem keep_name {S : List Str} {m' mm : Loc} {vals : List (Str × Value)} (hag : Agree S m' (frOf vals [] mm mm)) (hv : ∀ p ∈ vals, mm p.1 = some p.2) {z : Str} (hz : S.contains z = false) : m' z = mm z := by
  rw [hag z hz, ← frOf_eq (S := []) hv Agree.refl]
theorem named_nil {mm : Loc} : ∀ p ∈ ([] : List (Str × Value)), mm p.1 = some p.2 := fun _ h => nomatch h
theorem named_cons {mm : Loc} {a : Str} {v : Value} {l : List (Str × Value)} (h : mm a = some v) (t : ∀ p ∈ l, mm p.1 = some p.2) : ∀ p ∈ (a, v) :: l, mm p.1 = some p.2 := by
  intro p hp
  cases hp with
  | head => exact h
  | tail _ hp => exact t p hp
end
section
local macro_rules | `(tactic| omega) => `(tactic| first | walk_at "MY om" | omega +splitDisjunctions)
theorem gd1 {x1} {x2} {x3} {x4} {x5} {x6} (h : wpAny x1 x2 (call (Value.builtin "len") [Value.ref x3]) x4 x5 x6) : wpAny x1 x2 (call (Value.builtin "len") [Value.ref x3]) x4 x5 x6 := h
theorem gd2 {x1} {x2} {x3} {x4} {x5} {x6} {x7} (h : wpAny x1 x2 (call (Value.builtin "len") [Value.bytes (List.toArray x3) x4]) x5 x6 x7) : wpAny x1 x2 (call (Value.builtin "len") [Value.bytes (List.toArray x3) x4]) x5 x6 x7 := h
theorem gd3 {x1} {x2} {x3} {x4} {x5} {x6} {x7} {x8} {x9} {x10} (h : wpAny x1 x2 (call (Value.ref x3) [Value.bytes x4 x5, Value.str x6 x7]) x8 x9 x10) : wpAny x1 x2 (call (Value.ref x3) [Value.bytes x4 x5, Value.str x6 x7]) x8 x9 x10 := h
theorem gd4 {x1} {x2} {x3} {x4} {x5} {x6} {x7} {x8} {x9} {x10} {x11} {x12} (h : wpAny x1 x2 (callWith x3 (Value.ref x4) x5 (backTo x6 (starEach (x7 :: x8) x9)) []) x10 x11 x12) : wpAny x1 x2 (callWith x3 (Value.ref x4) x5 (backTo x6 (starEach (x7 :: x8) x9)) []) x10 x11 x12 := h
theorem gd5 {x1} {x2} {x3} {x4} {x5} {x6} {x7} (h : wpAny x1 x2 (call (Value.ref 62) [Value.bytes (List.toArray x3) x4]) x5 x6 x7) : wpAny x1 x2 (call (Value.ref 62) [Value.bytes (List.toArray x3) x4]) x5 x6 x7 := h
theorem gd6 {x1} {x2} {x3} {x4} {x5} {x6} {x7} {x8} {x9} (h : wpAny x1 x2 (call (Value.ref 69) [Value.bytes (List.toArray x3) x4, Value.int x5 x6]) x7 x8 x9) : wpAny x1 x2 (call (Value.ref 69) [Value.bytes (List.toArray x3) x4, Value.int x5 x6]) x7 x8 x9 := h
theorem gd7 {x1} {x2} {x3} {x4} {x5} {x6} {x7} {x8} (h : wpAny x1 x2 (call (Value.ref 69) [Value.ref x3, Value.int x4 x5]) x6 x7 x8) : wpAny x1 x2 (call (Value.ref 69) [Value.ref x3, Value.int x4 x5]) x6 x7 x8 := h
theorem gd8 {x1} {x2} {x3} {x4} {x5} {x6} {x7} (h : wpAny x1 x2 (call (Value.ref 42) [Value.bytes (List.toArray x3) x4]) x5 x6 x7) : wpAny x1 x2 (call (Value.ref 42) [Value.bytes (List.toArray x3) x4]) x5 x6 x7 := h
theorem gd9 {x1} {x2} {x3} {x4} {x5} {x6} {x7} (h : wpAny x1 x2 (call (Value.ref 35) [x3, x4]) x5 x6 x7) : wpAny x1 x2 (call (Value.ref 35) [x3, x4]) x5 x6 x7 := h
theorem gd10 {x1} {x2} {x3} {x4} {x5} {x6} {x7} {x8} (h : wpAny x1 x2 (call (Value.builtin x3) [Value.ref x4, x5]) x6 x7 x8) : wpAny x1 x2 (call (Value.builtin x3) [Value.ref x4, x5]) x6 x7 x8 := h
theorem gd11 {x1} {x2} {x3} {x4} {x5} {x6} {x7} (h : wpAny x1 x2 (call (Value.type x3) [Value.ref x4]) x5 x6 x7) : wpAny x1 x2 (call (Value.type x3) [Value.ref x4]) x5 x6 x7 := h
theorem gd12 {x1} {x2} {x3} {x4} {x5} {x6} {x7} {x8} {x9} {x10} (h : wpAny x1 x2 (subscriptTail x3 x4 (Value.ref x5) (Value.bytes (List.toArray x6) x7)) x8 x9 x10) : wpAny x1 x2 (subscriptTail x3 x4 (Value.ref x5) (Value.bytes (List.toArray x6) x7)) x8 x9 x10 := h
theorem gd13 {x1} {x2} {x3} {x4} {x5} {x6} {x7} {x8} {x9} {x10} (h : wpAny x1 x2 (subscriptTail x3 x4 (Value.ref x5) (Value.int (Nat.cast x6) x7)) x8 x9 x10) : wpAny x1 x2 (subscriptTail x3 x4 (Value.ref x5) (Value.int (Nat.cast x6) x7)) x8 x9 x10 := h
theorem gd14 {x1} {x2} {x3} {x4} {x5} {x6} {x7} {x8} {x9} (h : wpAny x1 x2 (PySem.setItem (Value.ref x3) (Value.int (Nat.cast x4) x5) x6) x7 x8 x9) : wpAny x1 x2 (PySem.setItem (Value.ref x3) (Value.int (Nat.cast x4) x5) x6) x7 x8 x9 := h
theorem gd15 {x1} {x2} {x3} {x4} {x5} {x6} {x7} {x8} {x9} (h : wpAny x1 x2 (subscriptTail x3 x4 (Value.ref x5) (Value.int (-1) x6)) x7 x8 x9) : wpAny x1 x2 (subscriptTail x3 x4 (Value.ref x5) (Value.int (-1) x6)) x7 x8 x9 := h
theorem gd16 {x1} {x2} {x3} {x4} {x5} {x6} {x7} (h : wpAny x1 x2 (compareOp CmpOp.Eq (Value.ref x3) (Value.ref x4)) x5 x6 x7) : wpAny x1 x2 (compareOp CmpOp.Eq (Value.ref x3) (Value.ref x4)) x5 x6 x7 := h
theorem st1 {x1} {x2} {x3} {x4} {x5} {x6} (h : Stop (wpAny x1 x2 (call (Value.ref 252) x3) x4 x5 x6)) : wpAny x1 x2 (call (Value.ref 252) x3) x4 x5 x6 := h
theorem gd17 {x1} {x2} {x3} {x4} {x5} {x6} {x7} {x8} {x9} {x10} (h : wpAny x1 x2 (subscriptTail x3 x4 (Value.ref x5) (Value.int x6 x7)) x8 x9 x10) : wpAny x1 x2 (subscriptTail x3 x4 (Value.ref x5) (Value.int x6 x7)) x8 x9 x10 := h
theorem gd18 {x1} {x2} {x3} {x4} {x5} {x6} {x7} {x8} {x9} (h : wpAny x1 x2 (binaryOp x3 (Value.int 2 x4) (Value.int (Nat.cast x5) x6)) x7 x8 x9) : wpAny x1 x2 (binaryOp x3 (Value.int 2 x4) (Value.int (Nat.cast x5) x6)) x7 x8 x9 := h
theorem gd19 {x1} {x2} {x3} {x4} {x5} {x6} {x7} {x8} {x9} {x10} (h : wpAny x1 x2 (binaryOp x3 (Value.int (Nat.cast x4) x5) (Value.int (Nat.cast x6) x7)) x8 x9 x10) : wpAny x1 x2 (binaryOp x3 (Value.int (Nat.cast x4) x5) (Value.int (Nat.cast x6) x7)) x8 x9 x10 := h
theorem gd20 {x1} {x2} {x3} {x4} {x5} {x6} {x7} {x8} {x9} (h : wpAny x1 x2 (binaryOp x3 (Value.int (Nat.cast x4) x5) (Value.int 2 x6)) x7 x8 x9) : wpAny x1 x2 (binaryOp x3 (Value.int (Nat.cast x4) x5) (Value.int 2 x6)) x7 x8 x9 := h
theorem st2 {x1} {x2} {x3} {x4} {x5} {x6} (h : Stop (wpAny x1 x2 (call (Value.ref 76) x3) x4 x5 x6)) : wpAny x1 x2 (call (Value.ref 76) x3) x4 x5 x6 := h
theorem gd21 {x1} {x2} {x3} {x4} {x5} {x6} {x7} (h : wpAny x1 x2 (getAttr (Value.ref x3) (Str.ofString "key") x4) x5 x6 x7) : wpAny x1 x2 (getAttr (Value.ref x3) (Str.ofString "key") x4) x5 x6 x7 := h
theorem gd22 {x1} {x2} {x3} {x4} {x5} {x6} {x7} (h : wpAny x1 x2 (getAttr (Value.ref x3) (Str.ofString "value") x4) x5 x6 x7) : wpAny x1 x2 (getAttr (Value.ref x3) (Str.ofString "value") x4) x5 x6 x7 := h
theorem gd23 {x1} {x2} {x3} {x4} {x5} {x6} {x7} (h : wpAny x1 x2 (getAttr (Value.ref x3) (Str.ofString "branch") x4) x5 x6 x7) : wpAny x1 x2 (getAttr (Value.ref x3) (Str.ofString "branch") x4) x5 x6 x7 := h
theorem st3 {x1} {x2} {x3} {x4} {x5} {x6} {x7} {x8} {x9} {x10} (h : Stop (wpAny x1 x2 (execs (Stmt.Assign [Expr.Name (Str.ofString "value") x3] x4 x5 :: x6) x7) x8 x9 x10)) : wpAny x1 x2 (execs (Stmt.Assign [Expr.Name (Str.ofString "value") x3] x4 x5 :: x6) x7) x8 x9 x10 := h
theorem st4 {x1} {x2} {x3} {x4} {x5} {x6} {x7} {x8} {x9} {x10} (h : Stop (wpAny x1 x2 (execs (Stmt.Assign [Expr.Name (Str.ofString "parts") x3] x4 x5 :: x6) x7) x8 x9 x10)) : wpAny x1 x2 (execs (Stmt.Assign [Expr.Name (Str.ofString "parts") x3] x4 x5 :: x6) x7) x8 x9 x10 := h
theorem st5 {x1} {x2} {x3} {x4} {x5} {x6} (h : Stop (wpAny x1 x2 (call (Value.ref 190) x3) x4 x5 x6)) : wpAny x1 x2 (call (Value.ref 190) x3) x4 x5 x6 := h
theorem gd24 {x1} {x2} {x3} {x4} {x5} {x6} {x7} {x8} {x9} (h : wpAny x1 x2 (subscriptTail x3 x4 (Value.ref 240) (Value.int (Nat.cast x5) x6)) x7 x8 x9) : wpAny x1 x2 (subscriptTail x3 x4 (Value.ref 240) (Value.int (Nat.cast x5) x6)) x7 x8 x9 := h
theorem st6 {x1} {x2} {x3} {x4} {x5} {x6} {x7} {x8} {x9} {x10} (h : Stop (wpAny x1 x2 (subscriptTail x3 (Expr.Slice none x4 none x5) (Value.ref x6) (Value.ref x7)) x8 x9 x10)) : wpAny x1 x2 (subscriptTail x3 (Expr.Slice none x4 none x5) (Value.ref x6) (Value.ref x7)) x8 x9 x10 := h
theorem gd25 {x1} {x2} {x3} {x4} {x5} {x6} {x7} {x8} {x9} {x10} {x11} (h : wpAny x1 x2 (binaryOp x3 (Value.int 2 x4) (Value.int (x5 - x6 - x7) x8)) x9 x10 x11) : wpAny x1 x2 (binaryOp x3 (Value.int 2 x4) (Value.int (x5 - x6 - x7) x8)) x9 x10 x11 := h
theorem gd26 {x1} {x2} {x3} {x4} {x5} {x6} {x7} {x8} {x9} {x10} {x11} {x12} (h : wpAny x1 x2 (compareOp x3 (Value.int (Nat.cast (x4 / x5)) x6) (Value.int (Nat.cast (x7 / x8)) x9)) x10 x11 x12) : wpAny x1 x2 (compareOp x3 (Value.int (Nat.cast (x4 / x5)) x6) (Value.int (Nat.cast (x7 / x8)) x9)) x10 x11 x12 := h
theorem st7 {x1} {x2} {x3} {x4} {x5} {x6} {x7} {x8} {x9} {x10} {x11} {x12} (h : Stop (wpAny x1 x2 (execs (Stmt.Assign [Expr.Tuple x3 x4 x5] x6 x7 :: x8) x9) x10 x11 x12)) : wpAny x1 x2 (execs (Stmt.Assign [Expr.Tuple x3 x4 x5] x6 x7 :: x8) x9) x10 x11 x12 := h
theorem st8 {x1} {x2} {x3} {x4} {x5} {x6} (h : Stop (wpAny x1 x2 (call (Value.ref 129) x3) x4 x5 x6)) : wpAny x1 x2 (call (Value.ref 129) x3) x4 x5 x6 := h
theorem st9 {x1} {x2} {x3} {x4} {x5} {x6} {x7} {x8} {x9} {x10} {x11} {x12} {x13} {x14} {x15} {x16} (h : Stop (wpAny x1 x2 (execs (Stmt.If (Expr.Compare (Expr.Attribute x3 x4 x5) x6 x7 x8) x9 x10 x11 :: x12) x13) x14 x15 x16)) : wpAny x1 x2 (execs (Stmt.If (Expr.Compare (Expr.Attribute x3 x4 x5) x6 x7 x8) x9 x10 x11 :: x12) x13) x14 x15 x16 := h
theorem st10 {x1} {x2} {x3} {x4} {x5} {x6} {x7} {x8} {x9} {x10} (h : Stop (wpAny x1 x2 (execs (Stmt.Assign [Expr.Name (Str.ofString "tree") x3] x4 x5 :: x6) x7) x8 x9 x10)) : wpAny x1 x2 (execs (Stmt.Assign [Expr.Name (Str.ofString "tree") x3] x4 x5 :: x6) x7) x8 x9 x10 := h
theorem st11 {x1} {x2} {x3} {x4} {x5} {x6} {x7} {x8} {x9} {x10} (h : Stop (wpAny x1 x2 (execs (Stmt.Assign [Expr.Name (Str.ofString "name") x3] x4 x5 :: x6) x7) x8 x9 x10)) : wpAny x1 x2 (execs (Stmt.Assign [Expr.Name (Str.ofString "name") x3] x4 x5 :: x6) x7) x8 x9 x10 := h
theorem st12 {x1} {x2} {x3} {x4} {x5} {x6} {x7} {x8} {x9} {x10} (h : Stop (wpAny x1 x2 (execs (Stmt.Assign [Expr.Name (Str.ofString "mine") x3] x4 x5 :: x6) x7) x8 x9 x10)) : wpAny x1 x2 (execs (Stmt.Assign [Expr.Name (Str.ofString "mine") x3] x4 x5 :: x6) x7) x8 x9 x10 := h
theorem st13 {x1} {x2} {x3} {x4} {x5} {x6} (h : Stop (wpAny x1 x2 (call (Value.ref 235) x3) x4 x5 x6)) : wpAny x1 x2 (call (Value.ref 235) x3) x4 x5 x6 := h
theorem st14 {x1} {x2} {x3} {x4} {x5} {x6} {x7} {x8} {x9} {x10} {x11} {x12} (h : Stop (wpAny x1 x2 (execs (Stmt.For x3 x4 x5 x6 x7 :: x8) x9) x10 x11 x12)) : wpAny x1 x2 (execs (Stmt.For x3 x4 x5 x6 x7 :: x8) x9) x10 x11 x12 := h
theorem st15 {x1} {x2} {x3} {x4} {x5} {x6} (h : Stop (wpAny x1 x2 (call (Value.ref 176) x3) x4 x5 x6)) : wpAny x1 x2 (call (Value.ref 176) x3) x4 x5 x6 := h
theorem st16 {x1} {x2} {x3} {x4} {x5} {x6} (h : Stop (wpAny x1 x2 (call (Value.ref 132) x3) x4 x5 x6)) : wpAny x1 x2 (call (Value.ref 132) x3) x4 x5 x6 := h
theorem gd27 {x1} {x2} {x3} {x4} {x5} {x6} {x7} {x8} (h : wpAny x1 x2 (PySem.setItem (Value.ref x3) (Value.int 0 x4) x5) x6 x7 x8) : wpAny x1 x2 (PySem.setItem (Value.ref x3) (Value.int 0 x4) x5) x6 x7 x8 := h
theorem st17 {x1} {x2} {x3} {x4} {x5} {x6} {x7} {x8} {x9} {x10} {x11} {x12} {x13} (h : Stop (wpAny x1 x2 (execs (Stmt.If (Expr.BoolOp x3 x4 x5) x6 x7 x8 :: x9) x10) x11 x12 x13)) : wpAny x1 x2 (execs (Stmt.If (Expr.BoolOp x3 x4 x5) x6 x7 x8 :: x9) x10) x11 x12 x13 := h
theorem st18 {x1} {x2} {x3} {x4} {x5} {x6} (h : Stop (wpAny x1 x2 (call (Value.ref 247) x3) x4 x5 x6)) : wpAny x1 x2 (call (Value.ref 247) x3) x4 x5 x6 := h
theorem st19 {x1} {x2} {x3} {x4} {x5} {x6} (h : Stop (wpAny x1 x2 (call (Value.ref 259) x3) x4 x5 x6)) : wpAny x1 x2 (call (Value.ref 259) x3) x4 x5 x6 := h
theorem gd28 {x1} {x2} {x3} {x4} {x5} {x6} {x7} {x8} {x9} (h : wpAny x1 x2 (subscriptTail x3 x4 (Value.ref x5) (Value.int 1 x6)) x7 x8 x9) : wpAny x1 x2 (subscriptTail x3 x4 (Value.ref x5) (Value.int 1 x6)) x7 x8 x9 := h
theorem st20 {x1} {x2} {x3} {x4} {x5} {x6} (h : Stop (wpAny x1 x2 (call (Value.ref 169) x3) x4 x5 x6)) : wpAny x1 x2 (call (Value.ref 169) x3) x4 x5 x6 := h
theorem st21 {x1} {x2} {x3} {x4} {x5} {x6} {x7} {x8} {x9} {x10} {x11} {x12} {x13} {x14} (h : Stop (wpAny x1 x2 (execs (Stmt.If (Expr.Compare x3 [CmpOp.Gt] [Expr.Constant (Const.int 0) x4 x5] x6) x7 x8 x9 :: x10) x11) x12 x13 x14)) : wpAny x1 x2 (execs (Stmt.If (Expr.Compare x3 [CmpOp.Gt] [Expr.Constant (Const.int 0) x4 x5] x6) x7 x8 x9 :: x10) x11) x12 x13 x14 := h
theorem st22 {x1} {x2} {x3} {x4} {x5} {x6} {x7} {x8} {x9} {x10} (h : Stop (wpAny x1 x2 (subscriptTail x3 x4 (Value.ref x5) (Value.int (Nat.cast x6) x7)) x8 x9 x10)) : wpAny x1 x2 (subscriptTail x3 x4 (Value.ref x5) (Value.int (Nat.cast x6) x7)) x8 x9 x10 := h
theorem gd29 {x1} {x2} {x3} {x4} {x5} {x6} {x7} {x8} {x9} (h : wpAny x1 x2 (subscriptTail x3 x4 (Value.ref x5) (Value.int 0 x6)) x7 x8 x9) : wpAny x1 x2 (subscriptTail x3 x4 (Value.ref x5) (Value.int 0 x6)) x7 x8 x9 := h
theorem st23 {x1} {x2} {x3} {x4} {x5} {x6} {x7} {x8} {x9} {x10} {x11} {x12} {x13} {x14} {x15} {x16} (h : Stop (wpAny x1 x2 (execs (Stmt.If (Expr.Compare (Expr.Call x3 x4 x5 x6) [CmpOp.Gt] x7 x8) x9 x10 x11 :: x12) x13) x14 x15 x16)) : wpAny x1 x2 (execs (Stmt.If (Expr.Compare (Expr.Call x3 x4 x5 x6) [CmpOp.Gt] x7 x8) x9 x10 x11 :: x12) x13) x14 x15 x16 := h
theorem st24 {x1} {x2} {x3} {x4} {x5} {x6} {x7} {x8} {x9} {x10} {x11} {x12} {x13} {x14} (h : Stop (wpAny x1 x2 (execs (Stmt.If (Expr.Compare x3 [CmpOp.Gt] [Expr.Constant (Const.int 1) x4 x5] x6) x7 x8 x9 :: x10) x11) x12 x13 x14)) : wpAny x1 x2 (execs (Stmt.If (Expr.Compare x3 [CmpOp.Gt] [Expr.Constant (Const.int 1) x4 x5] x6) x7 x8 x9 :: x10) x11) x12 x13 x14 := h
theorem st25 {x1} {x2} {x3} {x4} {x5} {x6} {x7} {x8} {x9} {x10} {x11} {x12} {x13} {x14} {x15} {x16} (h : Stop (wpAny x1 x2 (execs (Stmt.If (Expr.Compare (Expr.BinOp x3 x4 x5 x6) [CmpOp.Eq] x7 x8) x9 x10 x11 :: x12) x13) x14 x15 x16)) : wpAny x1 x2 (execs (Stmt.If (Expr.Compare (Expr.BinOp x3 x4 x5 x6) [CmpOp.Eq] x7 x8) x9 x10 x11 :: x12) x13) x14 x15 x16 := h
theorem st26 {x1} {x2} {x3} {x4} {x5} {x6} {x7} {x8} {x9} {x10} {x11} {x12} {x13} {x14} {x15} {x16} {x17} (h : Stop (wpAny x1 x2 (execs (Stmt.If (Expr.Compare (Expr.Compare x3 x4 x5 x6) x7 x8 x9) x10 x11 x12 :: x13) x14) x15 x16 x17)) : wpAny x1 x2 (execs (Stmt.If (Expr.Compare (Expr.Compare x3 x4 x5 x6) x7 x8 x9) x10 x11 x12 :: x13) x14) x15 x16 x17 := h
theorem st27 {x1} {x2} {x3} {x4} {x5} {x6} {x7} {x8} {x9} {x10} (h : Stop (wpAny x1 x2 (execs (Stmt.Assign [Expr.Name (Str.ofString "refused") x3] x4 x5 :: x6) x7) x8 x9 x10)) : wpAny x1 x2 (execs (Stmt.Assign [Expr.Name (Str.ofString "refused") x3] x4 x5 :: x6) x7) x8 x9 x10 := h
theorem st28 {x1} {x2} {x3} {x4} {x5} {x6} {x7} {x8} {x9} {x10} (h : Stop (wpAny x1 x2 (execs (Stmt.Assign [Expr.Name (Str.ofString "size") x3] x4 x5 :: x6) x7) x8 x9 x10)) : wpAny x1 x2 (execs (Stmt.Assign [Expr.Name (Str.ofString "size") x3] x4 x5 :: x6) x7) x8 x9 x10 := h
theorem gdH {x1} {x2} {x3} {x4} {x5} {x6} {x7} {x8} (h : wpAny x1 x2 (call (Value.ref x3) [Value.bytes x4 x5]) x6 x7 x8) : wpAny x1 x2 (call (Value.ref x3) [Value.bytes x4 x5]) x6 x7 x8 := h
theorem stL {x1} {x2} {x3} {x4} {x5} {x6} {x7} {x8} {x9} {x10} {x11} {x12} {x13} {x14} (h : Stop (wpAny x1 x2 (pyIter (Value.ref x3)) (fun it s₂ => LoopAtV x4 x5 x6 x7 x8 x9 x10 x11 x12 it s₂) x13 x14)) : wpAny x1 x2 (pyIter (Value.ref x3)) (fun it s₂ => LoopAtV x4 x5 x6 x7 x8 x9 x10 x11 x12 it s₂) x13 x14 := h
theorem gdC {x1} {x2} {x3} {x4} {x5} {x6} {x7} {x8} {x9} {x10} {x11} {x12} (h : wpAny x1 x2 (subscriptTail x3 (Expr.Slice x4 x5 none x6) (Value.bytes x7 x8) (Value.ref x9)) x10 x11 x12) : wpAny x1 x2 (subscriptTail x3 (Expr.Slice x4 x5 none x6) (Value.bytes x7 x8) (Value.ref x9)) x10 x11 x12 := h
theorem gdG {x1} {x2} {x3} {x4} {x5} {x6} {x7} {x8} (h : wpAny x1 x2 (call (Value.ref 183) [Value.ref x3, Value.bytes (List.toArray x4) x5]) x6 x7 x8) : wpAny x1 x2 (call (Value.ref 183) [Value.ref x3, Value.bytes (List.toArray x4) x5]) x6 x7 x8 := h
theorem gdF {x1} {x2} {x3} {x4} {x5} {x6} {x7} {x8} {x9} {x10} {x11} {x12} {x13} {x14} {x15} {x16} (h : wpAny x1 x2 (exec (Stmt.For x3 (Expr.Call x4 [Expr.Call x5 x6 x7 x8] x9 x10) x11 [] x12) x13) x14 x15 x16) : wpAny x1 x2 (exec (Stmt.For x3 (Expr.Call x4 [Expr.Call x5 x6 x7 x8] x9 x10) x11 [] x12) x13) x14 x15 x16 := h
theorem stB {x1} {x2} {x3} {x4} {x5} {x6} {x7} {x8} {x9} {x10} {x11} {x12} {x13} {x14} (h : Stop (wpAny x1 x2 (pyIter (Value.ref x3)) (fun it s₂ => BrkAt x4 x5 x6 x7 x8 x9 x10 x11 x12 it s₂) x13 x14)) : wpAny x1 x2 (pyIter (Value.ref x3)) (fun it s₂ => BrkAt x4 x5 x6 x7 x8 x9 x10 x11 x12 it s₂) x13 x14 := h
theorem gdM {x1} {x2} {x3} {x4} {x5} {x6} {x7} (h : wpAny x1 x2 (getMethod (Value.ref x3) (Str.ofString "get") x4) x5 x6 x7) : wpAny x1 x2 (getMethod (Value.ref x3) (Str.ofString "get") x4) x5 x6 x7 := h
theorem gdD {x1} {x2} {x3} {x4} {x5} {x6} {x7} {x8} (h : wpAny x1 x2 (call (Value.builtin "dict.get") [Value.ref x3, Value.ref x4, x5]) x6 x7 x8) : wpAny x1 x2 (call (Value.builtin "dict.get") [Value.ref x3, Value.ref x4, x5]) x6 x7 x8 := h
theorem newTup {M : Model} {A : Around} {E : Value → Shared → Prop} {s : Shared} {h₀ : Heap} {L : Addr} {m : Str → Option Value} {news : List (Addr × Obj)} {vs : List Value} {Q : Value → Shared → Prop} (F : Fr h₀ L s.heap m) (N : News h₀ L s.heap news) (hz : vs.length ≤ sizeLine)
    (h : ∀ D h', Fr h₀ L h' m → News h₀ L h' ((D, ({ cls := .type "tuple", data := .seq vs.toArray } : Obj)) :: news) → (∀ p ∈ news, p.1 < D) → Q (.ref D) { s with heap := h' }) : wpAny M A (newTuple vs) Q E s :=
  kup_newTuple F N h hz
theorem tryX {prog : Program} {w : World} {A : Around} {E : Value → Shared → Prop} {s : Shared} {env : Env} {body orelse : List Stmt} {h₀ : ExceptHandler} {hs : List ExceptHandler} {pos : Pos} {Q : Flow → Shared → Prop}
    (h : wpAny (model prog w) A (execs body env) (fun f s₁ => match f with | .next => wpAny (model prog w) A (execs orelse env) Q E s₁ | f => Q f s₁)
      (fun e s₁ => wpAny (model prog w) A (noteFrame e env) (fun _ s₂ => wpAny (model prog w) A (setFlight e none) (fun _ s₃ => wpAny (model prog w) A (handleBy e env (h₀ :: hs)) Q E s₃) E s₂) E s₁) s) :
    wpAny (model prog w) A (exec (.Try body (h₀ :: hs) orelse [] pos) env) Q E s := wpAny_Try_except h
theorem cr1 {a0 b : Prop} (h : a0 ∧ b) : b := h.2
theorem cr2 {a0 a1 b : Prop} (h : a0 ∧ a1 ∧ b) : b := h.2.2
theorem cr3 {a0 a1 a2 b : Prop} (h : a0 ∧ a1 ∧ a2 ∧ b) : b := h.2.2.2
theorem cr4 {a0 a1 a2 a3 b : Prop} (h : a0 ∧ a1 ∧ a2 ∧ a3 ∧ b) : b := h.2.2.2.2
theorem cr5 {a0 a1 a2 a3 a4 b : Prop} (h : a0 ∧ a1 ∧ a2 ∧ a3 ∧ a4 ∧ b) : b := h.2.2.2.2.2
theorem cr6 {a0 a1 a2 a3 a4 a5 b : Prop} (h : a0 ∧ a1 ∧ a2 ∧ a3 ∧ a4 ∧ a5 ∧ b) : b := h.2.2.2.2.2.2
theorem cr7 {a0 a1 a2 a3 a4 a5 a6 b : Prop} (h : a0 ∧ a1 ∧ a2 ∧ a3 ∧ a4 ∧ a5 ∧ a6 ∧ b) : b := h.2.2.2.2.2.2.2
theorem cr8 {a0 a1 a2 a3 a4 a5 a6 a7 b : Prop} (h : a0 ∧ a1 ∧ a2 ∧ a3 ∧ a4 ∧ a5 ∧ a6 ∧ a7 ∧ b) : b := h.2.2.2.2.2.2.2.2
theorem cr9 {a0 a1 a2 a3 a4 a5 a6 a7 a8 b : Prop} (h : a0 ∧ a1 ∧ a2 ∧ a3 ∧ a4 ∧ a5 ∧ a6 ∧ a7 ∧ a8 ∧ b) : b := h.2.2.2.2.2.2.2.2.2
theorem cr10 {a0 a1 a2 a3 a4 a5 a6 a7 a8 a9 b : Prop} (h : a0 ∧ a1 ∧ a2 ∧ a3 ∧ a4 ∧ a5 ∧ a6 ∧ a7 ∧ a8 ∧ a9 ∧ b) : b := h.2.2.2.2.2.2.2.2.2.2
theorem cr11 {a0 a1 a2 a3 a4 a5 a6 a7 a8 a9 a10 b : Prop} (h : a0 ∧ a1 ∧ a2 ∧ a3 ∧ a4 ∧ a5 ∧ a6 ∧ a7 ∧ a8 ∧ a9 ∧ a10 ∧ b) : b := h.2.2.2.2.2.2.2.2.2.2.2
theorem cr12 {a0 a1 a2 a3 a4 a5 a6 a7 a8 a9 a10 a11 b : Prop} (h : a0 ∧ a1 ∧ a2 ∧ a3 ∧ a4 ∧ a5 ∧ a6 ∧ a7 ∧ a8 ∧ a9 ∧ a10 ∧ a11 ∧ b) : b := h.2.2.2.2.2.2.2.2.2.2.2.2
theorem cr13 {a0 a1 a2 a3 a4 a5 a6 a7 a8 a9 a10 a11 a12 b : Prop} (h : a0 ∧ a1 ∧ a2 ∧ a3 ∧ a4 ∧ a5 ∧ a6 ∧ a7 ∧ a8 ∧ a9 ∧ a10 ∧ a11 ∧ a12 ∧ b) : b := h.2.2.2.2.2.2.2.2.2.2.2.2.2
theorem nameX_G {M : Model} {A : Around} {E : Value → Shared → Prop} {s : Shared} {h₀ : Heap} {L a c : Addr} {cn : Str} {cs : Scope} {ccd v : Value} {cl : List (Str × Addr)} {news : List (Addr × Obj)} {o : Obj} {x : Str} {pos : Pos} {Q : Value → Shared → Prop} (N : News h₀ L s.heap news) (hc : cl.lookup x = some c) (hm : (c, o) ∈ news) (hd : o.data = .cell (some v))
    (hk : cs.kind = .function) (hx : (envX cn cs L a ccd cl).kindOf x = some .free) (h : Q v s) (hb : (x == ("__debug__" : Str)) = false := by decide) (hn : (x == ("__classdict__" : Str)) = false := by decide) :
    wpAny M A (eval (.Name x pos) (envX cn cs L a ccd cl)) Q E s := nameX_F N hc hm hd h hk hx hb hn
theorem gdT {x1} {x2} {x3} {x4} {x5} {x6} {x7} {x8} {x9} {x10} {x11} (h : wpAny x1 x2 (subscriptTail x3 (Expr.Slice x4 x5 none x6) (Value.ref x7) (Value.ref x8)) x9 x10 x11) : wpAny x1 x2 (subscriptTail x3 (Expr.Slice x4 x5 none x6) (Value.ref x7) (Value.ref x8)) x9 x10 x11 := h
end
local macro_rules | `(tactic| walk_at "Xa") => `(tactic| k_asm)
local macro_rules | `(tactic| walk_at "Xr") => `(tactic| with_reducible assumption)
local macro_rules | `(tactic| walk_at "Xm") => `(tactic| k_mem)
local macro_rules | `(tactic| walk_at "Xo") => `(tactic| omega)
local macro_rules | `(tactic| walk_at "Xf") => `(tactic| rfl)
local macro_rules | `(tactic| walk_at "Xu") => `(tactic| k_units)
local macro_rules | `(tactic| walk_at "Xd") => `(tactic| k_room)
local macro_rules | `(tactic| walk_at "Xp") => `(tactic| k_upd)
local macro_rules | `(tactic| walk_at "XP") => `(tactic| k_updF)
local macro_rules | `(tactic| walk_at "XD") => `(tactic| decide)
local macro_rules | `(tactic| walk_at "Xi") => `(tactic| exact intKind_is _ _ _ _)
local macro_rules | `(tactic| walk_at "Xb") => `(tactic| exact bytes_is _ _)
local macro_rules | `(tactic| walk_at "Xz") => `(tactic| (rw [sizeLine_eq]; omega))
local macro_rules | `(tactic| walk_at "Xk") => `(tactic| kmk_size)
local macro_rules | `(tactic| walk_at "Xl") => `(tactic| walk_at "MY len")
local macro_rules | `(tactic| walk_at "XF") => `(tactic| walk_at "FnAt")
local macro_rules | `(tactic| walk_at "Xs") => `(tactic| walk_at "MY sub")
local macro_rules | `(tactic| walk_at "XA") => `(tactic| k_all)
local macro_rules | `(tactic| walk_at "Xv") => `(tactic| first | with_reducible assumption | exact (valueAt_stored _ _ _ _).trans (if_pos rfl))
local macro_rules | `(tactic| walk_at "Xw") => `(tactic| first | decide | omega)
local macro_rules | `(tactic| walk_at "Xg") => `(tactic| first | exact rfl | assumption)
local macro_rules | `(tactic| walk_at "XC") => `(tactic| exact ⟨by k_asm, by k_asm, by k_asm, by k_asm, by k_asm, by walk_at "Xg"⟩)
local macro_rules | `(tactic| walk_at "Y!") => `(tactic| k_whole)
local macro_rules | `(tactic| walk_at "Y") => `(tactic| skip)
local macro_rules | `(tactic| walk_at "Z") => `(tactic| skip)
local macro_rules | `(tactic| walk_at "Z1") => `(tactic| intro _)
local macro_rules | `(tactic| walk_at "Z2") => `(tactic| intro _ _)
local macro_rules | `(tactic| walk_at "Z4") => `(tactic| intro _ _ _ _)
local macro_rules | `(tactic| walk_at "Zh") => `(tactic| (intro h' tk' F' N'; (try k_sweep)))
local macro_rules | `(tactic| walk_at "ZD") => `(tactic| (intro D' h' tk' F' N' l1; (try k_lt l1); (try k_sweep)))
local macro_rules | `(tactic| walk_at "Zd") => `(tactic| (intro D' h' F' N' l1; (try k_lt l1); (try k_sweep)))
local macro_rules | `(tactic| walk_at "Zc") => `(tactic| (intro D' c' h' F' N' l1; (try k_lt l1); (try k_sweep)))
local macro_rules | `(tactic| walk_at "Zo") => `(tactic| (intro h' o' F' N' hd'; (try dsimp only at N')))
local macro_rules | `(tactic| walk_at "Zn") => `(tactic| (intro h' F' N'; (try dsimp only at N')))
local macro_rules | `(tactic| walk_at "Zf") => `(tactic| (intro h' F' N'; (try k_sweep)))
local macro_rules | `(tactic| walk_at "Zt") => `(tactic| (intro h' tk' t' F' N'; (try k_sweep)))
local macro_rules | `(tactic| walk_at "XK") => `(tactic| walk_at "MY pick")
local macro_rules | `(tactic| walk_at "XT") => `(tactic| exact Top.nolimit (by k_asm))
local macro_rules | `(tactic| walk_at "Xc") => `(tactic| exact List.cons_ne_nil _ _)
local macro_rules | `(tactic| walk_at "Xn") => `(tactic| exact Nat.le_of_ble_eq_true rfl)
local macro_rules | `(tactic| walk_at "XN") => `(tactic| exact List.nodup_cons.mpr ⟨List.not_mem_nil, List.nodup_nil⟩)
local macro_rules | `(tactic| walk_at "Xx") => `(tactic| constructor)
local macro_rules | `(tactic| walk_at "Z5") => `(tactic| intro _ _ _ _ _)
local macro_rules | `(tactic| walk_at "ZH") => `(tactic| (intro o' kvs' h' tk' t' ho' hT' hl' hx' F' N'; (try k_sweep)))
local macro_rules | `(tactic| walk_at "ZG") => `(tactic| (intro r' bt' vs' h' tk' tv' F' N' hv' hvl' l1 l2; (try k_lt l1); (try k_sweep)))
local macro_rules | `(tactic| walk_at "Ze") => `(tactic| (intro d' h' o' F' N' l1 lo' hd'; (try k_lt l1)))
local macro_rules
  | `(tactic| exists $g) => `(tactic| with_reducible refine $g ?_)
  | `(tactic| exists $g, $l, $s) => `(tactic| ((fail_if_success (fail_if_success (with_reducible refine $g ?_))); exists $l, $s))
  | `(tactic| exists $l, $s) => do
    let some str := s.raw.isStrLit? | Lean.Macro.throwUnsupported
    let p := str.splitOn "/"
    let s1 := p.headD ""
    let ks := (s1.toList.filter (· != '!')).zipIdx.map fun (c, n) => (Lean.mkIdent (.mkSimple s!"k{n}"), Lean.Syntax.mkStrLit s!"X{c}")
    let args ← ks.toArray.mapM fun x => if x.2.getString == "XR" then `(rfl) else `(?$(x.1))
    let args := args.push (← `(?_))
    let app : Lean.TSyntax `term := if l.raw.isOfKind ``Lean.Parser.Term.app then ⟨l.raw.setArg 1 (Lean.mkNullNode (l.raw[1].getArgs ++ args.map (·.raw)))⟩ else Lean.Syntax.mkApp l args
    let b ← (ks.filter fun x => x.2.getString != "XR").foldlM (fun b x => `(tactic| ($b; case $(x.1):ident => walk_at $(x.2):str))) (← `(tactic| refine' $app))
    let y := Lean.Syntax.mkStrLit (if s1.contains '!' then "Y!" else "Y")
    let z := Lean.Syntax.mkStrLit ("Z" ++ (p.getD 1 ""))
    `(tactic| (k_here; k_dflt ($b:tactic; walk_at $y:str); walk_at $z:str))
local macro_rules | `(tactic| k_room) => `(tactic| ((try simp only [depth_mark, depth_under_make, depth_under_kw, depth_in1, depth_deeper, depth_caller]); (try dsimp only [top5]); omega))
local macro_rules | `(tactic| k_units) => `(tactic| ((try simp only [units_under_make, units_in1, units_deeper, Around.mark_units, units_caller]); (try dsimp only [top5]); omega))
local macro_rules | `(tactic| walk_at "MY sub") => `(tactic| repeat (first | exact fun _ h => h | with_reducible assumption | with_reducible refine sub_cons ?_ | with_reducible refine sub_app ?_))
local macro_rules | `(tactic| walk_at "MY pick") => `(tactic| first | exact Pick.head | exact Pick.tail (by walk_at "MY pick"))
local macro_rules | `(tactic| walk_at "MY len") => `(tactic| ((try simp only [List.length_append, hT_length, List.length_cons, List.length_nil]) <;> omega))
local macro_rules | `(tactic| walk_at "call builtin:len") => `(tactic| exists gd1, len_tup, "amro!")
local macro_rules | `(tactic| walk_at "call builtin:len") => `(tactic| exists gd1, len_lst, "amro!")
local macro_rules | `(tactic| walk_at "call builtin:len") => `(tactic| exists gd2, len_txt, "o!")
local macro_rules | `(tactic| walk_at "binaryOp Add bytes bytes") => `(tactic| exists add_txt, "l!/2")
local macro_rules | `(tactic| walk_at "call type:reversed") => `(tactic| exists rev_tup, "aamo!/D")
local macro_rules | `(tactic| walk_at "call ref") => `(tactic| exists gd3, from_big, "amo!/2")
local macro_rules | `(tactic| walk_at "inplaceOp LShift int int") => `(tactic| exists shl_bit, "o!")
local macro_rules | `(tactic| walk_at "binaryOp BitAnd int int") => `(tactic| (exists and_bit, "r!"; (try simp only [if_true, if_false, Bool.false_eq_true])))
local macro_rules | `(tactic| walk_at "FnAt") => `(tactic| (with_reducible (rename HashSpec _ _ _ _ _ _ _ _ _ => hsh'); exact hash_fn hsh' (by k_asm) (by walk_at "MY sub")))
local macro_rules | `(tactic| walk_at "callWith ref") => `(tactic| exists gd4, callWith_F, "F!")
local macro_rules | `(tactic| walk_at "And") => `(tactic| ((with_reducible show FnAt _ _ ∧ _); refine ⟨by walk_at "FnAt", ?_⟩; try dsimp only [List.nil_append, List.cons_append]))
local macro_rules | `(tactic| walk_at "call ref") => `(tactic| exists gdH, hash_use, "raaaaagKaaAsoldu!/H")
local macro_rules | `(tactic| walk_at "MY dec") => `(tactic| ((try simp only [bne_iff_ne, beq_iff_eq, Bool.not_true, Bool.not_false, if_true, if_false, beq_eq_false_iff_ne, bne_eq_false_iff_eq, decide_eq_true_eq, decide_eq_false_iff_not, decide_not, Bool.and_eq_true, Bool.not_eq_true', Bool.not_eq_false', Bool.not_eq_true, Bool.not_eq_eq_eq_not, ne_eq]); omega))
local macro_rules | `(tactic| walk_at "ite") => `(tactic| (k_here; first | (refine PySem.W.ite_pos (by walk_at "MY dec") ?_; walk_say "MINE") | (refine PySem.W.ite_neg (by walk_at "MY dec") ?_; walk_say "MINE")))
local macro_rules | `(tactic| walk_at "pyIter ref") => `(tactic| exists stL)
local macro_rules | `(tactic| walk_at "MY conj") => do
  let z : Lean.TSyntax `tactic ← `(tactic| with_reducible assumption)
  let r ← (List.range 13).foldlM (fun (b : Lean.TSyntax `tactic) n => `(tactic| first | $b:tactic | exact $(Lean.mkIdent (.mkSimple s!"cr{n + 1}")) (by with_reducible assumption))) z
  return r
local macro_rules | `(tactic| k_all) => `(tactic| first | with_reducible assumption | exact ne_nil | ((with_reducible refine ne_cons (by first | omega | (dsimp only; omega)) ?_); k_all) | ((with_reducible refine ne_app ?_ ?_) <;> k_all) | ((with_reducible refine ne_allLt ?_); walk_at "MY conj") | exact OwnOff.ne (by with_reducible assumption) (by k_memK))
local macro_rules | `(tactic| walk_at "MY mems") => `(tactic| first | exact mems_nil | with_reducible assumption | exact mems_cons (by k_mem) (by walk_at "MY mems") | walk_at "MY sub")
local macro_rules | `(tactic| walk_at "MY vals") => `(tactic| first | exact List.forall_mem_nil _ | exact List.forall_mem_cons.mpr ⟨(by dsimp only; rfl), (by walk_at "MY vals")⟩)
local macro_rules | `(tactic| walk_at "MY agree") => `(tactic| first | with_reducible exact Agree.refl | (refine Agree.set ?_ (by first | rfl | decide +kernel); walk_at "MY agree") | (refine Agree.fr ?_; first | rfl | decide +kernel))
local macro_rules | `(tactic| walk_at "TurnPost") => `(tactic| refine stop_ ?_)
section
local macro_rules | `(tactic| omega) => `(tactic| first | walk_at "MY om" | omega +splitDisjunctions)
abbrev WP (w : World) (hd : Option Value) (dp un : Nat) (gd : Option (List Code)) (cn : Str) (cs : Scope) (L a : Addr) (ccd : Value) (cl : List (Str × Addr)) (outer : List Env) (t : Sem Value) (Q E : Value → Shared → Prop) (s : Shared) : Prop :=
  wpAny (model PySem.Challenge.rw_lh0065_01.row.prog w) (top5 hd dp un gd cn cs L a ccd cl outer) t Q E s
/-- where a call stands: the frames below, the caller's frame, the written part, the ledger, the top -/
structure Cx (w : World) (p : Program) (loose : List Str) (mean : ExcName → Option Value) (mg mb : Str → Option Value) (cs : Scope) (outer : List Env) (A₀ : Around) (base h₀ : Heap) (L : Addr) (m : Loc) (news : Led) (h : Heap) : Prop where
  B : Below A₀ base outer h₀
  F : Fr h₀ L h m
  X : (Mine.hd.heap_1 w.params).In h₀
  N : News h₀ L h news
  T : Top p loose mean mg mb h₀
  k : cs.kind = .function
section
variable {w : World} {p : Program} {loose : List Str} {mean : ExcName → Option Value} {mg mb : Str → Option Value} {hd : Option Value} {dp un : Nat} {gd : Option (List Code)} {cn : Str} {cs : Scope} {a : Addr} {ccd : Value} {cl : List (Str × Addr)} {outer : List Env}
  {A₀ : Around} {base h₀ : Heap} {L : Addr} {m : Loc} {news own : Led} {s : Shared} {Q E : Value → Shared → Prop}
theorem v_bytes {x : Txt} {t : Tok} (c : Cx w p loose mean mg mb cs outer A₀ base h₀ L m news s.heap) (hdp : dp + 5 < recursionLimit) (hun : un + 50 < cLine)
    (ret : ∀ h' tk', Fr h₀ L h' m → News h₀ L h' news → Q .none { s with heap := h', toks := tk' }) : WP w hd dp un gd cn cs L a ccd cl outer (call (.ref 62) [.bytes x.toArray t]) Q E s := by
  obtain ⟨cB, cF, cX, cN, cT, ck⟩ := c
  refine wpAny_call ?_
  k_dflt ktr_enter
  k_steps
  exact ret _ _ (by k_asm) (by k_asm)
theorem v_len_bytes {x : Txt} {t u : Tok} {n : Int} (c : Cx w p loose mean mg mb cs outer A₀ base h₀ L m news s.heap) (hx : (x.length : Int) = n) (hz : x.length ≤ 100000) (hdp : dp + 5 < recursionLimit) (hun : un + 50 < cLine)
    (ret : ∀ h' tk', Fr h₀ L h' m → News h₀ L h' news → Q .none { s with heap := h', toks := tk' }) : WP w hd dp un gd cn cs L a ccd cl outer (call (.ref 69) [.bytes x.toArray t, .int n u]) Q E s := by
  obtain ⟨cB, cF, cX, cN, cT, ck⟩ := c
  refine wpAny_call ?_
  k_dflt ktr_enter
  k_steps
  exact ret _ _ (by k_asm) (by k_asm)
theorem v_len_tup {x : Addr} {vs : List Value} {u : Tok} {n : Int} {nn : Nat} (c : Cx w p loose mean mg mb cs outer A₀ base h₀ L m news s.heap) (hm : (x, tupObj vs) ∈ news) (hv : vs.length = nn) (hx : (nn : Int) = n) (hz : nn ≤ 10000) (hdp : dp + 5 < recursionLimit) (hun : un + 50 < cLine)
    (ret : ∀ h' tk', Fr h₀ L h' m → News h₀ L h' news → Q .none { s with heap := h', toks := tk' }) : WP w hd dp un gd cn cs L a ccd cl outer (call (.ref 69) [.ref x, .int n u]) Q E s := by
  obtain ⟨cB, cF, cX, cN, cT, ck⟩ := c
  refine wpAny_call ?_
  k_dflt ktr_enter
  k_steps
  exact ret _ _ (by k_asm) (by k_asm)
theorem v_len_lst {x : Addr} {vs : List Value} {u : Tok} {n : Int} {nn e : Nat} (c : Cx w p loose mean mg mb cs outer A₀ base h₀ L m news s.heap) (hm : (x, lstObj vs e) ∈ news) (hv : vs.length = nn) (hx : (nn : Int) = n) (hz : nn ≤ 10000) (hdp : dp + 5 < recursionLimit) (hun : un + 50 < cLine)
    (ret : ∀ h' tk', Fr h₀ L h' m → News h₀ L h' news → Q .none { s with heap := h', toks := tk' }) : WP w hd dp un gd cn cs L a ccd cl outer (call (.ref 69) [.ref x, .int n u]) Q E s := by
  obtain ⟨cB, cF, cX, cN, cT, ck⟩ := c
  refine wpAny_call ?_
  k_dflt ktr_enter
  k_steps
  exact ret _ _ (by k_asm) (by k_asm)
theorem v_to_int {x : Txt} {t : Tok} (c : Cx w p loose mean mg mb cs outer A₀ base h₀ L m news s.heap) (hx : x.length ≤ 8) (hdp : dp + 5 < recursionLimit) (hun : un + 50 < cLine)
    (ret : ∀ h' tk' t', Fr h₀ L h' m → News h₀ L h' news → Q (.int (num x : Int) t') { s with heap := h', toks := tk' }) : WP w hd dp un gd cn cs L a ccd cl outer (call (.ref 42) [.bytes x.toArray t]) Q E s := by
  obtain ⟨cB, cF, cX, cN, cT, ck⟩ := c
  refine wpAny_call ?_
  k_dflt ktr_enter
  k_steps
  rename News _ _ _ _ => N9
  exact ret _ _ _ (by k_asm) (fun q hq => N9 q (.tail _ hq))
theorem v_cast {x v : Value} (c : Cx w p loose mean mg mb cs outer A₀ base h₀ L m news s.heap) (hdp : dp + 5 < recursionLimit) (hun : un + 50 < cLine)
    (ret : ∀ h' tk', Fr h₀ L h' m → News h₀ L h' news → Q v { s with heap := h', toks := tk' }) : WP w hd dp un gd cn cs L a ccd cl outer (call (.ref 35) [x, v]) Q E s := by
  obtain ⟨cB, cF, cX, cN, cT, ck⟩ := c
  refine wpAny_call ?_
  k_dflt ktr_enter
  k_steps
  exact ret _ _ (by k_asm) (by k_asm)
end
end
local macro_rules | `(tactic| walk_at "call ref") => `(tactic| exists gd5, v_bytes, "Cdu!/h")
local macro_rules | `(tactic| walk_at "call ref") => `(tactic| exists gd6, v_len_bytes, "Coodu!/h")
local macro_rules | `(tactic| walk_at "call ref") => `(tactic| exists gd7, v_len_tup, "Cmroodu!/h")
local macro_rules | `(tactic| walk_at "call ref") => `(tactic| exists gd7, v_len_lst, "Cmroodu!/h")
local macro_rules | `(tactic| walk_at "call ref") => `(tactic| exists gd8, v_to_int, "Codu!/t")
local macro_rules | `(tactic| walk_at "call ref") => `(tactic| exists gd9, v_cast, "Cdu!/h")
section
local macro_rules | `(tactic| omega) => `(tactic| first | walk_at "MY om" | omega +splitDisjunctions)

/-- the chain of hashes from a value up, the siblings written from the root down -/
def cst (path : Nat) (bs : List Txt) (T₀ : List Txt) (g₀ : Txt) : Nat → List Txt × Txt
  | 0 => (T₀, g₀)
  | i + 1 =>
    let c := cst path bs T₀ g₀ i
    let b := bs.getD (bs.length - 1 - i) []
    let x := if path.testBit i then b ++ c.2 else c.2 ++ b
    (addT c.1 x, hT (addT c.1 x) x)

theorem cst_succ (path : Nat) (bs : List Txt) (T₀ : List Txt) (g₀ : Txt) (i : Nat) (b : Bool) (hb : path.testBit i = b) : cst path bs T₀ g₀ (i + 1) =
    (addT (cst path bs T₀ g₀ i).1 (if b then bs.getD (bs.length - 1 - i) [] ++ (cst path bs T₀ g₀ i).2 else (cst path bs T₀ g₀ i).2 ++ bs.getD (bs.length - 1 - i) []),
      hT (addT (cst path bs T₀ g₀ i).1 (if b then bs.getD (bs.length - 1 - i) [] ++ (cst path bs T₀ g₀ i).2 else (cst path bs T₀ g₀ i).2 ++ bs.getD (bs.length - 1 - i) []))
        (if b then bs.getD (bs.length - 1 - i) [] ++ (cst path bs T₀ g₀ i).2 else (cst path bs T₀ g₀ i).2 ++ bs.getD (bs.length - 1 - i) [])) := by
  subst hb; rfl
theorem cst_len (path : Nat) (bs : List Txt) (T₀ : List Txt) (g₀ : Txt) (hg : g₀.length = 32) : ∀ i, (cst path bs T₀ g₀ i).1.length ≤ T₀.length + i ∧ (cst path bs T₀ g₀ i).2.length = 32
  | 0 => ⟨Nat.le_refl _, hg⟩
  | i + 1 => by
    have ih := cst_len path bs T₀ g₀ hg i
    rw [cst_succ path bs T₀ g₀ i _ rfl]
    exact ⟨Nat.le_trans (addT_len _ _).2 (by omega), hT_length _ _⟩
theorem getD_len {bs : List Txt} {n : Nat} (h : ∀ b ∈ bs, b.length ≤ n) (i : Nat) : (bs.getD i []).length ≤ n := by
  rw [List.getD_eq_getElem?_getD]
  cases hi : bs[i]? with
  | none => simp
  | some b => exact h b (List.mem_of_getElem? hi)
section
variable {prog : Program} {w : World} {A : Around} {E : Value → Shared → Prop} {s : Shared} {env : Env} {h₀ : Heap} {x : Str} {body : List Stmt} {Q : Flow → Shared → Prop} {bs : List Txt}
theorem loop_revTx {D br : Addr} {vs : List Value} {m : Loc} {news : Led} (hvb : TxtsAre vs bs) (S : List Str) (vals₀ : List (Str × Value)) (R : Nat → List (Str × Value) → Led → Prop)
    (hh : A.handled = none) (hz : vs.length ≤ 16384) (F : Fr h₀ env.locals s.heap m) (N : News h₀ env.locals s.heap ((D, revT br ((vs.length : Int) - 1)) :: news)) (hm : (br, tupObj vs) ∈ news) (hD : ∀ p ∈ news, p.1 ≠ D)
    (hv₀ : ∀ p ∈ vals₀, m p.1 = some p.2) (h0 : R 0 vals₀ news)
    (turn : ∀ i bd tv vals u news₁ h tk own, i < bs.length → bs.getD (bs.length - 1 - i) [] = bd → R i vals news₁ → (∀ p ∈ own, p.1 = D ∨ p.1 = br) → Fr h₀ env.locals h (fun y => if y = x then some (.bytes (List.toArray bd) tv) else frOf vals S u m y) → News h₀ env.locals h (news₁ ++ own) →
      wpAny (model prog w) A (execs body env) (TurnPost h₀ env.locals (fun m' nx => ∃ vals', R (i + 1) vals' nx ∧ (∀ p ∈ vals', m' p.1 = some p.2) ∧ Agree S m' m) own (news.map (·.1)) { s with heap := h, toks := tk } Q) E { s with heap := h, toks := tk })
    (done : ∀ vals u news₁ h tk, R bs.length vals news₁ → Fr h₀ env.locals h (frOf vals S u m) → News h₀ env.locals h news₁ → Q .next { s with heap := h, toks := tk }) :
    wpAny (model prog w) A (pyIter (.ref D)) (fun it s₂ => LoopAtV prog w A h₀ env x body Q E it s₂) E s :=
  loop_revT S vals₀ R hh hz F N hm hD hv₀ h0 (fun i v vals u news₁ h tk own hi hv hR _ ho F N => by
    rw [hvb.1] at hi hv; obtain ⟨tv, rfl⟩ := hvb.2 _ _ hv; exact turn i _ tv vals u news₁ h tk own hi rfl hR ho F N)
    fun vals u news₁ h tk hR _ F N => by rw [hvb.1] at hR; exact done vals u news₁ h tk hR F N
theorem loop_revLx {D br : Addr} {e : Nat} {vs : List Value} {m : Loc} {news : Led} (hvb : TxtsAre vs bs) (S : List Str) (vals₀ : List (Str × Value)) (R : Nat → List (Str × Value) → Led → Prop)
    (hh : A.handled = none) (hz : vs.length ≤ 16384) (F : Fr h₀ env.locals s.heap m) (N : News h₀ env.locals s.heap ((D, revObj br ((vs.length : Int) - 1)) :: news)) (hm : (br, lstObj vs e) ∈ news) (hD : ∀ p ∈ news, p.1 ≠ D)
    (hv₀ : ∀ p ∈ vals₀, m p.1 = some p.2) (h0 : R 0 vals₀ news)
    (turn : ∀ i bd tv vals u news₁ h tk own, i < bs.length → bs.getD (bs.length - 1 - i) [] = bd → R i vals news₁ → (∀ p ∈ own, p.1 = D ∨ p.1 = br) → Fr h₀ env.locals h (fun y => if y = x then some (.bytes (List.toArray bd) tv) else frOf vals S u m y) → News h₀ env.locals h (news₁ ++ own) →
      wpAny (model prog w) A (execs body env) (TurnPost h₀ env.locals (fun m' nx => ∃ vals', R (i + 1) vals' nx ∧ (∀ p ∈ vals', m' p.1 = some p.2) ∧ Agree S m' m) own (news.map (·.1)) { s with heap := h, toks := tk } Q) E { s with heap := h, toks := tk })
    (done : ∀ vals u news₁ h tk, R bs.length vals news₁ → Fr h₀ env.locals h (frOf vals S u m) → News h₀ env.locals h news₁ → Q .next { s with heap := h, toks := tk }) :
    wpAny (model prog w) A (pyIter (.ref D)) (fun it s₂ => LoopAtV prog w A h₀ env x body Q E it s₂) E s :=
  loop_revL S vals₀ R hh hz F N hm hD hv₀ h0 (fun i v vals u news₁ h tk own hi hv hR _ ho F N => by
    rw [hvb.1] at hi hv; obtain ⟨tv, rfl⟩ := hvb.2 _ _ hv; exact turn i _ tv vals u news₁ h tk own hi rfl hR ho F N)
    fun vals u news₁ h tk hR _ F N => by rw [hvb.1] at hR; exact done vals u news₁ h tk hR F N
end
inductive CalcInv (w : World) (tab : Addr) (rest : Led) (n : Nat) (bs T0 : List Txt) (g0 : Txt) (i : Nat) : List (Str × Value) → Led → Prop
  | mk {o₁ : Obj} {kvs₁ : List (Txt × Value)} {tn tb : Tok} {cT : List Txt} {ch : Txt} (hc : cst n bs T0 g0 i = (cT, ch)) (h1 : o₁.IsDictOf (bytesKind PySem.Challenge.rw_lh0065_01.row.prog w) kvs₁) (h2 : TabRel kvs₁ cT) :
      CalcInv w tab rest n bs T0 g0 i [(Str.ofString "node_hash", .bytes (List.toArray ch) tn), (Str.ofString "target_bit", .int ((2 ^ i : Nat) : Int) tb)] ((tab, o₁) :: rest)
theorem cst_facts {n : Nat} {bs T0 cT : List Txt} {g0 ch bd : Txt} {i : Nat} (hg : g0.length = 32) (hc : cst n bs T0 g0 i = (cT, ch)) (hbd : bs.getD (bs.length - 1 - i) [] = bd) : (cT.length ≤ T0.length + i ∧ ch.length = 32) ∧
    (∀ b, n.testBit i = b → cst n bs T0 g0 (i + 1) = (addT cT (if b then bd ++ ch else ch ++ bd), hT (addT cT (if b then bd ++ ch else ch ++ bd)) (if b then bd ++ ch else ch ++ bd))) := by
  have h1 := cst_len n bs T0 g0 hg i
  rw [hc] at h1
  exact ⟨h1, fun b hb => by rw [cst_succ n bs T0 g0 i b hb, hc, hbd]⟩
local macro_rules | `(tactic| walk_at "binaryOp BitAnd int int") => `(tactic| refine stop_ ?_)
theorem calc_root_spec {w : World} {p : Program} {loose : List Str} {mean : ExcName → Option Value} {mg mb : Str → Option Value} {f tab : Addr} {H : List (Addr × Obj)} (hash : HashSpec w p loose mean mg mb f tab H)
  (dp un : Nat) (gd : Option (List Code)) (cn : Str) (cs : Scope) (a : Addr) (ccd : Value) (cl : List (Str × Addr)) (outer : List Env) (A₀ : Around) (base h₀ : Heap) (L : Addr) (m : Str → Option Value) (own : List (Addr × Obj)) (s : Shared)
    (k v : Txt) (t t' : Tok) (br : Addr) (vs : List Value) (bs : List Txt) (T : List Txt) (kvs : List (Txt × Value)) (o : Obj) (Q E : Value → Shared → Prop) 
    (B : Below A₀ base outer h₀) (F : Fr h₀ L s.heap m) (X : (Mine.hd.heap_1 w.params).In h₀) (N : News h₀ L s.heap ((tab, o) :: (br, tupObj vs) :: own)) (TT : Top p loose mean mg mb h₀) (hk : cs.kind = .function)
    (hoff : OwnOff own [tab, br]) (htb : @LT.lt Nat _ tab br) (hH : ∀ q ∈ H, q ∈ own) (ho : o.IsDictOf (bytesKind PySem.Challenge.rw_lh0065_01.row.prog w) kvs) (hTR : TabRel kvs T) (hl : T.length < 90000) (hd1 : dp + 15 < recursionLimit) (hu1 : un + 150 < cLine)
    (hkl : k.length = 1 ∨ k.length = 2) (hvs : vs.length = 8 * k.length) (hb : TxtsAre vs bs) (hvl : v.length ≤ 500) (hbl : ∀ b ∈ bs, b.length ≤ 200)
    (ret : ∀ o' kvs' h' tk' t', o'.IsDictOf (bytesKind PySem.Challenge.rw_lh0065_01.row.prog w) kvs' → TabRel kvs' (cst (num k) bs (addT T v) (hT (addT T v) v) bs.length).1 → Fr h₀ L h' m → News h₀ L h' ((tab, o') :: (br, tupObj vs) :: own) → Q (.bytes (cst (num k) bs (addT T v) (hT (addT T v) v) bs.length).2.toArray t') { s with heap := h', toks := tk' })
    : wpAny (model PySem.Challenge.rw_lh0065_01.row.prog w) (top5 none dp un gd cn cs L a ccd cl outer) (call (.ref 76) [.bytes k.toArray t, .bytes v.toArray t', .ref br, .ref f]) Q E s := by
  refine wpAny_call ?_
  k_dflt ktr_enter
  k_steps
  refine go_ ?_
  rename Fr _ _ _ _ => F9
  rename News _ _ _ _ => N9
  rename Obj.IsDictOf _ _ _ => ho9
  rename TabRel _ _ => hT9
  rename _ ∧ _ ≤ _ => hl9
  refine' loop_revTx hb (news := (tab, _) :: (br, tupObj vs) :: own) [Str.ofString "sibling_node", Str.ofString "node_hash", Str.ofString "target_bit"] [(Str.ofString "node_hash", _), (Str.ofString "target_bit", _)]
    (CalcInv w tab ((br, tupObj vs) :: own) (num k) bs (addT T v) (hT (addT T v) v))
    rfl (by omega) F9 (news_sub N9 ?n1) (.tail _ (.head _)) ?n2 ?n3 ?h0 ?turn ?done
  case n1 => walk_at "MY mems"
  case n2 => k_all
  case n3 => walk_at "MY vals"
  case h0 => exact .mk rfl ho9 hT9
  case turn =>
    clear F9 N9 ho9 hT9
    intro i bd tv vals u news₁ h9 tk9 own9 hi hbd hR hown F1 N1
    show wpAny _ _ _ _ _ _
    k_fold
    refine hideG fun hG => ?_
    obtain @⟨o₁, kvs₁, tn, tb, cT, ch, hc, ho₁, hT₁⟩ := hR
    refine hG ?_
    clear hG
    have hvb := hb.1
    have hbb := getD_len hbl (bs.length - 1 - i)
    rw [hbd] at hbb
    have hcf := cst_facts (hT_length _ _) hc hbd
    have hcl := hcf.1
    have hcn := hcf.2
    clear hcf
    simp only [List.cons_append] at N1
    have hoff9 : ∀ p ∈ own ++ own9, p.1 ≠ tab := ne_app (hoff.ne (.head _)) (fun p hp => by rcases hown p hp with e | e <;> rw [e] <;> (refine neN ?_; omega))
    have hH9 : ∀ q ∈ H, q ∈ own ++ own9 := sub_app hH
    have hs1 : ∀ q ∈ own, q ∈ own ++ own9 := fun q h => List.mem_append_left _ h
    have hs2 : ∀ q ∈ own9, q ∈ own ++ own9 := fun q h => List.mem_append_right _ h
    generalize own ++ own9 = own8 at N1 hoff9 hH9 hs1 hs2
    have hpow : (0 : Int) < ((2 ^ i : Nat) : Int) := by exact_mod_cast Nat.pos_of_ne_zero (by simp)
    k_steps
    refine go_ ?_
    cases hbit : (num k).testBit i
    all_goals (
      have hcs := hcn _ hbit
      simp only [if_true, if_false, Bool.false_eq_true] at hcs
      k_dflt (refine' and_bit hbit ?_)
      (try simp only [if_true, if_false, Bool.false_eq_true])
      k_steps
      refine go_ ?_
      rename Fr _ _ _ _ => F8
      rename News _ _ _ _ => N8
      rename Obj.IsDictOf _ _ _ => ho8
      rename TabRel _ _ => hT8
      refine' TurnEnd.intro F8 N8 ⟨[(Str.ofString "node_hash", _), (Str.ofString "target_bit", _)], .mk hcs ho8 hT8, ?e2, ?e3⟩ rfl ?e4 ?e5
      case e2 => walk_at "MY vals"
      case e3 => walk_at "MY agree"
      case e4 => walk_at "MY mems"
      case e5 => walk_at "MY mems")
  case done =>
    clear F9 N9 ho9 hT9
    intro vals u news₁ h9 tk9 hR F1 N1
    refine hideG fun hG => ?_
    obtain @⟨o₁, kvs₁, tn, tb, cT, ch, hc, ho₁, hT₁⟩ := hR
    refine hG ?_
    clear hG
    k_steps
    rw [hc] at ret
    exact ret _ _ _ _ _ ho₁ hT₁ (by k_asm) (by k_asm)
end
theorem flush1 : True := by first | walk1 | trivial
local macro_rules | `(tactic| walk_at "call builtin:list.append") => `(tactic| exists gd10, app_lst, "aapo!/f")
local macro_rules | `(tactic| walk_at "inplaceOp RShift int int") => `(tactic| exists shr_one, "!")
local macro_rules | `(tactic| walk_at "call type:tuple") => `(tactic| exists gd11, tup_of_lst, "aamo!/D")
local macro_rules | `(tactic| walk_at "subscriptTail") => `(tactic| exists gd12, kda_item (knd := bytesKind _ _), "amabr!")
local macro_rules | `(tactic| walk_at "subscriptTail") => `(tactic| exists gdC, cut_hi (s := ⟨_, _, _, _, _⟩), "rrrr/5")
local macro_rules | `(tactic| walk_at "subscriptTail") => `(tactic| exists gdC, cut_lo (s := ⟨_, _, _, _, _⟩), "rrrr/5")
section
local macro_rules | `(tactic| omega) => `(tactic| first | walk_at "MY om" | omega +splitDisjunctions)
abbrev trD (P : Params) (t1 t2 t3 t4 t5 t6 u1 u2 u3 u6 : Tok) (ks : Nat) (f db : Addr) (root : Txt) : Obj :=
  dictOf [⟨PyData.keyHash P (Str.ofString "_key_size"), Value.str (Str.ofString "_key_size") t1, Value.int (ks : Int) u1⟩, ⟨PyData.keyHash P (Str.ofString "depth"), Value.str (Str.ofString "depth") t2, Value.int ((ks : Int) * 8) u2⟩,
    ⟨PyData.keyHash P (Str.ofString "_default"), Value.str (Str.ofString "_default") t3, Value.bytes #[] u3⟩, ⟨PyData.keyHash P (Str.ofString "hash_of"), Value.str (Str.ofString "hash_of") t4, Value.ref f⟩,
    ⟨PyData.keyHash P (Str.ofString "db"), Value.str (Str.ofString "db") t5, Value.ref db⟩, ⟨PyData.keyHash P (Str.ofString "root_hash"), Value.str (Str.ofString "root_hash") t6, Value.bytes (List.toArray root) u6⟩] 6
local macro_rules | `(tactic| walk_at "binaryOp BitAnd int int") => `(tactic| refine stop_ ?_)
inductive GetInv (T : List Txt) (leaf : Nat → Txt) (n d : Nat) (bl : Addr) (rest : Led) (i : Nat) : List (Str × Value) → Led → Prop
  | mk {vs : List Value} {e : Nat} {tn tb : Tok} {g : Txt} {pw : Nat} (hg : g = hT T (node T leaf (d - i) (n / 2 ^ (d - i)))) (hP : 2 ^ (d - i) / 2 = pw) (h5 : vs.length = i) (h6 : TxtsAre vs ((sibs T leaf d n).take i)) :
      GetInv T leaf n d bl rest i [(Str.ofString "node_hash", .bytes (List.toArray g) tn), (Str.ofString "target_bit", .int (pw : Int) tb)] ((bl, lstObj vs e) :: rest)
inductive GetStep (kvs : List (Txt × Value)) (T : List Txt) (leaf : Nat → Txt) (n d i : Nat) (g : Txt) : Nat → Prop
  | mk {A B : Txt} {tw : Tok} (hA : A.length = 32) (hB : B.length = 32) (hv : valueAt kvs g = some (Value.bytes (List.toArray (A ++ B)) tw)) (h1 : n.testBit (d - 1 - i) = true → B = hT T (node T leaf (d - (i + 1)) (n / 2 ^ (d - (i + 1)))) ∧ (sibs T leaf d n).getD i [] = A)
      (h0 : n.testBit (d - 1 - i) = false → A = hT T (node T leaf (d - (i + 1)) (n / 2 ^ (d - (i + 1)))) ∧ (sibs T leaf d n).getD i [] = B) (hq : 2 ^ (d - (i + 1)) / 2 = 2 ^ (d - 1 - i) / 2) : GetStep kvs T leaf n d i g (2 ^ (d - 1 - i))
theorem get_step {kvs : List (Txt × Value)} {T : List Txt} {leaf : Nat → Txt} {n d i : Nat} {g : Txt} {pw : Nat} (ht : TreeOk kvs T leaf d) (hn : n < 2 ^ d) (hi : i < d) (hg : g = hT T (node T leaf (d - i) (n / 2 ^ (d - i)))) (hP : 2 ^ (d - i) / 2 = pw) : GetStep kvs T leaf n d i g pw := by
  obtain ⟨A, B, hA, hB, hnode, hb1, hb0⟩ := node_step (T := T) (leaf := leaf) (key := n) hi
  obtain ⟨tw, htw⟩ := (ht (d - i) (Nat.sub_le _ _) (n / 2 ^ (d - i)) (key_div_lt hn (Nat.le_of_lt hi))).2
  rw [← hg, hnode] at htw
  have e5 : d - (i + 1) = d - 1 - i := by rw [Nat.sub_sub, Nat.add_comm]
  have e2 : d - i = (d - 1 - i) + 1 := by omega
  have e1 : 2 ^ (d - 1 - i) = pw := by rw [← hP, e2, Nat.pow_succ, Nat.mul_div_cancel _ (by decide)]
  subst e1
  exact .mk hA hB htw (fun h => ⟨by rw [e5]; exact (hb1 h).1, by rw [sibs_get hi, (hb1 h).2]⟩) (fun h => ⟨by rw [e5]; exact (hb0 h).1, by rw [sibs_get hi, (hb0 h).2]⟩) (by rw [e5])
theorem get_last {kvs : List (Txt × Value)} {T : List Txt} {leaf : Nat → Txt} {n d : Nat} {g : Txt} (ht : TreeOk kvs T leaf d) (hn : n < 2 ^ d) (hg : g = hT T (node T leaf (d - d) (n / 2 ^ (d - d)))) : ∃ tw, valueAt kvs g = some (Value.bytes (List.toArray (leaf n)) tw) := by
  obtain ⟨tw, htw⟩ := (ht 0 (Nat.zero_le _) n (by simpa using hn)).2
  have e : node T leaf 0 n = leaf n := by rfl
  rw [Nat.sub_self, Nat.pow_zero, Nat.div_one, e] at hg
  rw [e] at htw
  rw [hg]
  exact ⟨tw, htw⟩
section
variable {w : World} {p : Program} {loose : List Str} {mean : ExcName → Option Value} {mg mb : Str → Option Value} {dp un : Nat} {gd : Option (List Code)} {cn : Str} {cs : Scope} {a : Addr} {ccd : Value} {cl : List (Str × Addr)} {outer : List Env}
  {A₀ : Around} {base h₀ : Heap} {L : Addr} {m : Loc} {own : Led} {s : Shared} {Q E : Value → Shared → Prop}
theorem get_spec {x dx f db : Addr} {t1 t2 t3 t4 t5 t6 u1 u2 u3 u6 : Tok} {ks : Nat} {oD : Obj} {kvs : List (Txt × Value)} {T : List Txt} {leaf : Nat → Txt} {k : Txt} {t : Tok}
    (c : Cx w p loose mean mg mb cs outer A₀ base h₀ L m ((x, instObj 235 dx) :: (dx, trD w.params t1 t2 t3 t4 t5 t6 u1 u2 u3 u6 ks f db (hT T (node T leaf (8 * ks) 0))) :: (db, oD) :: own) s.heap)
    (hoD : oD.IsDictOf (bytesKind PySem.Challenge.rw_lh0065_01.row.prog w) kvs) (hdb : (db == sysModules) = false) (ht : TreeOk kvs T leaf (8 * ks)) (hks : ks = 1 ∨ ks = 2) (hk : k.length = ks) (hkl : num k < 2 ^ (8 * ks))
    (hdp : dp + 15 < recursionLimit) (hun : un + 150 < cLine)
    (ret : ∀ r bt vs h' tk' tv, Fr h₀ L h' m → News h₀ L h' ((r, tupObj [Value.bytes (List.toArray (leaf (num k))) tv, Value.ref bt]) :: (bt, tupObj vs) :: (x, instObj 235 dx) :: (dx, trD w.params t1 t2 t3 t4 t5 t6 u1 u2 u3 u6 ks f db (hT T (node T leaf (8 * ks) 0))) :: (db, oD) :: own) →
      TxtsAre vs (sibs T leaf (8 * ks) (num k)) → (∀ q ∈ (x, instObj 235 dx) :: (dx, trD w.params t1 t2 t3 t4 t5 t6 u1 u2 u3 u6 ks f db (hT T (node T leaf (8 * ks) 0))) :: (db, oD) :: own, q.1 < bt) → @LT.lt Nat _ bt r → Q (.ref r) { s with heap := h', toks := tk' }) :
    WP w none dp un gd cn cs L a ccd cl outer (call (.ref 183) [.ref x, .bytes k.toArray t]) Q E s := by
  obtain ⟨cB, cF, cX, cN, cT, ck⟩ := c
  refine wpAny_call ?_
  k_dflt ktr_enter
  k_steps
  refine go_ ?_
  rename Fr _ _ _ _ => F9
  rename News _ _ _ _ => N9
  rename IsRange _ _ _ _ _ _ _ _ => hr9
  obtain ⟨bl, e9⟩ := name1 N9
  subst e9
  have e0 : (1 : Int) * 2 ^ ((ks : Int) * 8 - 1).toNat = ((2 ^ (8 * ks - 0) / 2 : Nat) : Int) := by
    rcases hks with rfl | rfl <;> rfl
  rw [e0] at F9
  refine' loop_range (n := 8 * ks) (news := (bl, lstObj [] 0) :: (x, instObj 235 dx) :: (dx, trD w.params t1 t2 t3 t4 t5 t6 u1 u2 u3 u6 ks f db (hT T (node T leaf (8 * ks) 0))) :: (db, oD) :: own)
    [Str.ofString "_", Str.ofString "node", Str.ofString "left", Str.ofString "right", Str.ofString "node_hash", Str.ofString "target_bit"] [(Str.ofString "node_hash", _), (Str.ofString "target_bit", _)]
    (GetInv T leaf (num k) (8 * ks) bl ((x, instObj 235 dx) :: (dx, trD w.params t1 t2 t3 t4 t5 t6 u1 u2 u3 u6 ks f db (hT T (node T leaf (8 * ks) 0))) :: (db, oD) :: own))
    rfl hr9 (by omega) (by omega) F9 N9 ?n3 ?h0 ?turn ?done
  case n3 => walk_at "MY vals"
  case h0 => exact .mk (by rw [Nat.sub_zero, Nat.div_eq_of_lt hkl]) rfl rfl ⟨rfl, by intro i v h; simp at h⟩
  case turn =>
    clear F9 N9
    intro i ti vals u news₁ h9 tk9 own9 hi hR _ hown F1 N1
    show wpAny _ _ _ _ _ _
    k_fold
    refine hideG fun hG => ?_
    obtain @⟨vs, e, tn, tb, g, pw, hg, hP, hvl, hvs⟩ := hR
    obtain @⟨A, B, tw, hA, hB, hv, hb1, hb0, hq⟩ := get_step ht hkl hi hg hP
    refine hG ?_
    clear hG
    simp only [List.cons_append] at N1
    have hs1 : ∀ q ∈ own, q ∈ own ++ own9 := fun q h => List.mem_append_left _ h
    have hs2 : ∀ q ∈ own9, q ∈ own ++ own9 := fun q h => List.mem_append_right _ h
    have hoff9 : ∀ p ∈ own ++ own9, p.1 ≠ bl := ne_app (by k_all) (fun p hp => hown p hp (bl, lstObj [] 0) (.head _))
    generalize own ++ own9 = own8 at N1 hoff9 hs1 hs2
    have hpow : (0 : Int) < ((2 ^ (8 * ks - 1 - i) : Nat) : Int) := by exact_mod_cast Nat.pos_of_ne_zero (by simp)
    k_steps
    refine go_ ?_
    cases hbit : (num k).testBit (8 * ks - 1 - i)
    all_goals (
      k_dflt (refine' and_bit hbit ?_)
      (try simp only [if_true, if_false, Bool.false_eq_true])
      k_steps
      refine go_ ?_
      rename Fr _ _ _ _ => F8
      rename News _ _ _ _ => N8
      refine' TurnEnd.intro F8 N8 ⟨[(Str.ofString "node_hash", _), (Str.ofString "target_bit", _)], .mk ?e1 hq ?e6 ?e7, ?e2, ?e3⟩ ?e8 ?e4 ?e5
      case e4 => walk_at "MY mems"
      case e8 => rfl
      case e2 => walk_at "MY vals"
      case e1 => first | exact (hb0 hbit).1 | exact (hb1 hbit).1
      case e6 => rw [List.length_append, hvl]; rfl
      case e7 => exact hvs.snoc (by rw [sibs_length]; exact hi) (by first | exact (hb0 hbit).2 | exact (hb1 hbit).2)
      case e3 => walk_at "MY agree"
      case e5 => walk_at "MY mems")
  case done =>
    clear F9 N9
    intro vals u news₁ h9 tk9 hR _ F1 N1
    refine hideG fun hG => ?_
    obtain @⟨vs, e, tn, tb, g, pw, hg, hP, hvl, hvs⟩ := hR
    obtain ⟨tw, htw⟩ := get_last ht hkl hg
    refine hG ?_
    clear hG
    rw [List.take_of_length_le (by rw [sibs_length]; exact Nat.le_refl _)] at hvs
    k_steps
    rename News _ _ _ _ => N8
    exact ret _ _ _ _ _ _ (by k_asm) (news_sub N8 (by walk_at "MY mems")) hvs (of_allLt (by simp only [AllLt]; exact ⟨by omega, by omega, by omega, by walk_at "MY conj"⟩)) (by omega)
theorem get_use {news r1 r2 : Led} {x dx f db : Addr} {t1 t2 t3 t4 t5 t6 u1 u2 u3 u6 : Tok} {ks : Nat} {oD : Obj} {kvs : List (Txt × Value)} {T : List Txt} {leaf : Nat → Txt} {k : Txt} {t : Tok}
    (c : Cx w p loose mean mg mb cs outer A₀ base h₀ L m news s.heap) (P1 : Pick x (instObj 235 dx) news r1) (P2 : Pick dx (trD w.params t1 t2 t3 t4 t5 t6 u1 u2 u3 u6 ks f db (hT T (node T leaf (8 * ks) 0))) r1 r2) (P3 : Pick db oD r2 own)
    (hoD : oD.IsDictOf (bytesKind PySem.Challenge.rw_lh0065_01.row.prog w) kvs) (ht : TreeOk kvs T leaf (8 * ks)) (hdb : (db == sysModules) = false) (hks : ks = 1 ∨ ks = 2) (hk : k.length = ks) (hkl : num k < 2 ^ (8 * ks))
    (hdp : dp + 15 < recursionLimit) (hun : un + 150 < cLine)
    (ret : ∀ r bt vs h' tk' tv, Fr h₀ L h' m → News h₀ L h' ((r, tupObj [Value.bytes (List.toArray (leaf (num k))) tv, Value.ref bt]) :: (bt, tupObj vs) :: news) →
      TxtsAre vs (sibs T leaf (8 * ks) (num k)) → vs.length = 8 * ks → (∀ q ∈ news, q.1 < bt) → @LT.lt Nat _ bt r → Q (.ref r) { s with heap := h', toks := tk' }) :
    WP w none dp un gd cn cs L a ccd cl outer (call (.ref 183) [.ref x, .bytes k.toArray t]) Q E s := by
  obtain ⟨cB, cF, cX, cN, cT, ck⟩ := c
  have sub : ∀ q ∈ news, q ∈ (x, instObj 235 dx) :: (dx, trD w.params t1 t2 t3 t4 t5 t6 u1 u2 u3 u6 ks f db (hT T (node T leaf (8 * ks) 0))) :: (db, oD) :: own := fun q hq => by
    rcases List.mem_cons.mp (P1.mem q hq) with e | h1
    · rw [e]; exact .head _
    · rcases List.mem_cons.mp (P2.mem q h1) with e | h2
      · rw [e]; exact .tail _ (.head _)
      · exact .tail _ (.tail _ (P3.mem q h2))
  have bus : ∀ q ∈ (x, instObj 235 dx) :: (dx, trD w.params t1 t2 t3 t4 t5 t6 u1 u2 u3 u6 ks f db (hT T (node T leaf (8 * ks) 0))) :: (db, oD) :: own, q ∈ news := fun q hq => by
    refine P1.sub q ?_
    rcases List.mem_cons.mp hq with e | h1
    · rw [e]; exact .head _
    · refine .tail _ (P2.sub q ?_)
      rcases List.mem_cons.mp h1 with e | h2
      · rw [e]; exact .head _
      · exact .tail _ (P3.sub q h2)
  refine get_spec ⟨cB, cF, cX, news_sub cN bus, cT, ck⟩ hoD hdb ht hks hk hkl hdp hun fun r bt vs h' tk' tv F' N' hv hb2 hb3 => ?_
  refine ret r bt vs h' tk' tv F' (fun q hq => N' q ?_) hv (by rw [hv.1, sibs_length]) (fun q hq => ?_) hb3
  · rcases List.mem_cons.mp hq with e | h1
    · rw [e]; exact .head _
    · rcases List.mem_cons.mp h1 with e | h2
      · rw [e]; exact .tail _ (.head _)
      · exact .tail _ (.tail _ (sub q h2))
  · exact hb2 q (sub q hq)
end
end
theorem flush2 : True := by first | walk1 | trivial
local macro_rules | `(tactic| walk_at "call ref") => `(tactic| exists gdG, get_use, "CKKKaraaaadu!/G")
local macro_rules | `(tactic| walk_at "call type:tuple") => `(tactic| exists gd11, tup_of_rev, "faamAo!/D")
local macro_rules | `(tactic| walk_at "setItem ref bytes") => `(tactic| exists kda_set (knd := bytesKind _ _), "aaPabz/o")
section
local macro_rules | `(tactic| omega) => `(tactic| first | walk_at "MY om" | omega +splitDisjunctions)
local macro_rules | `(tactic| walk_at "binaryOp BitAnd int int") => `(tactic| refine stop_ ?_)
inductive SetInv (w : World) (tab db pl bt x dx : Addr) (vb : List Value) (tr : Obj) (own : Led) (kvs : List (Txt × Value)) (T : List Txt) (n d : Nat) (bs : List Txt) (v : Txt) (i : Nat) : List (Str × Value) → Led → Prop
  | mk {oT₁ oD₁ : Obj} {kT₁ kD₁ : List (Txt × Value)} {pv : List Value} {e : Nat} {tn tb : Tok} {cT : List Txt} {cx : Txt} (hc : pst n bs T v i = (cT, cx)) (h1 : oT₁.IsDictOf (bytesKind PySem.Challenge.rw_lh0065_01.row.prog w) kT₁) (h2 : TabRel kT₁ cT)
      (h3 : oD₁.IsDictOf (bytesKind PySem.Challenge.rw_lh0065_01.row.prog w) kD₁) (h4 : DbGrown kvs T n bs v i kD₁) (h5 : pv.length = i) (h6 : TxtsAre pv (((List.range d).map (pg n bs T v)).take i)) :
      SetInv w tab db pl bt x dx vb tr own kvs T n d bs v i [(Str.ofString "node", .bytes (List.toArray cx) tn), (Str.ofString "target_bit", .int ((2 ^ i : Nat) : Int) tb)]
        ((tab, oT₁) :: (db, oD₁) :: (pl, lstObj pv e) :: (bt, tupObj vb) :: (x, instObj 235 dx) :: (dx, tr) :: own)
theorem pst_facts {n : Nat} {bs T : List Txt} {v : Txt} {i : Nat} {cT : List Txt} {cx : Txt} {kvs kD₁ : List (Txt × Value)} (h0 : pst n bs T v i = (cT, cx)) (hb : ∀ b ∈ bs, b.length ≤ 32) (hv : v.length ≤ 64) (h4 : DbGrown kvs T n bs v i kD₁) (hz : T.length + i < 100000) :
    cT.length ≤ T.length + i ∧ cx.length ≤ 32 + 32 ∧ (∀ t : Tok, DbGrown kvs T n bs v (i + 1) (stored kD₁ (hT (addT cT cx) cx) (Value.bytes (List.toArray cx) t))) ∧ pg n bs T v i = hT (addT cT cx) cx := by
  have a1 := pst_len n bs T v i
  have a2 := pst_txt_len (n := 32) n hb T (v := v) hv i
  have a3 := h4.succ (Nat.lt_of_lt_of_le hz (by decide))
  unfold pg at a3 ⊢
  rw [h0] at a1 a2 a3 ⊢
  exact ⟨a1, a2, a3, rfl⟩
theorem pgs_at {n d i : Nat} {bs T : List Txt} {v g : Txt} (hi : i < d) (h : pg n bs T v i = g) : ((List.range d).map (pg n bs T v)).getD i [] = g := by
  rw [List.getD_eq_getElem?_getD]; simp [hi, h]
theorem pst_next {n : Nat} {bs T : List Txt} {v : Txt} {i : Nat} {cT : List Txt} {cx bd : Txt} {b : Bool} (h0 : pst n bs T v i = (cT, cx)) (hbd : bs.getD (bs.length - 1 - i) [] = bd) (hb : n.testBit i = b) :
    pst n bs T v (i + 1) = (addT cT cx, if b then bd ++ hT (addT cT cx) cx else hT (addT cT cx) cx ++ bd) := by
  rw [pst_succ]; unfold comb pg; rw [h0, hb, hbd]
section
variable {w : World} {p : Program} {loose : List Str} {mean : ExcName → Option Value} {mg mb : Str → Option Value} {dp un : Nat} {gd : Option (List Code)} {cn : Str} {cs : Scope} {a : Addr} {ccd : Value} {cl : List (Str × Addr)} {outer : List Env}
  {A₀ : Around} {base h₀ : Heap} {L : Addr} {m : Loc} {own : Led} {s : Shared} {Q E : Value → Shared → Prop}
theorem set_spec {tab f x dx db : Addr} {H : Led} (hash : HashSpec w p loose mean mg mb f tab H) {t1 t2 t3 t4 t5 t6 u1 u2 u3 u6 : Tok} {ks : Nat} {oD oT : Obj} {kvs kT : List (Txt × Value)} {T : List Txt} {leaf : Nat → Txt} {k v : Txt} {t t' : Tok}
    (c : Cx w p loose mean mg mb cs outer A₀ base h₀ L m ((x, instObj 235 dx) :: (dx, trD w.params t1 t2 t3 t4 t5 t6 u1 u2 u3 u6 ks f db (hT T (node T leaf (8 * ks) 0))) :: (db, oD) :: (tab, oT) :: own) s.heap)
    (hoD : oD.IsDictOf (bytesKind PySem.Challenge.rw_lh0065_01.row.prog w) kvs) (hoT : oT.IsDictOf (bytesKind PySem.Challenge.rw_lh0065_01.row.prog w) kT) (hTR : TabRel kT T)
    (hdb : (db == sysModules) = false) (ht : TreeOk kvs T leaf (8 * ks)) (hks : ks = 1 ∨ ks = 2) (hk : k.length = ks) (hkl : num k < 2 ^ (8 * ks)) (hvl : v.length ≤ 64) (hTl : T.length < 90000) (hDl : kvs.length < 90000)
    (hoff : OwnOff own [x, dx, db, tab]) (hH : ∀ q ∈ H, q ∈ own) (hne : @LT.lt Nat _ tab dx ∧ @LT.lt Nat _ dx x ∧ @LT.lt Nat _ x db)
    (hdp : dp + 25 < recursionLimit) (hun : un + 250 < cLine)
    (ret : ∀ r vs oT' kT' oD' kD' u6' h' tk', oT'.IsDictOf (bytesKind PySem.Challenge.rw_lh0065_01.row.prog w) kT' → TabRel kT' (pst (num k) (sibs T leaf (8 * ks) (num k)) T v (8 * ks + 1)).1 →
      oD'.IsDictOf (bytesKind PySem.Challenge.rw_lh0065_01.row.prog w) kD' → DbGrown kvs T (num k) (sibs T leaf (8 * ks) (num k)) v (8 * ks + 1) kD' →
      Fr h₀ L h' m → News h₀ L h' ((r, tupObj vs) :: (x, instObj 235 dx) :: (dx, trD w.params t1 t2 t3 t4 t5 t6 u1 u2 u3 u6' ks f db (pg (num k) (sibs T leaf (8 * ks) (num k)) T v (8 * ks))) :: (db, oD') :: (tab, oT') :: own) →
      TxtsAre vs (((List.range (8 * ks)).map (pg (num k) (sibs T leaf (8 * ks) (num k)) T v)).reverse) → (∀ q ∈ own, q.1 < r) → @LT.lt Nat _ db r → Q (.ref r) { s with heap := h', toks := tk' }) :
    WP w none dp un gd cn cs L a ccd cl outer (call (.ref 190) [.ref x, .bytes k.toArray t, .bytes v.toArray t']) Q E s := by
  obtain ⟨cB, cF, cX, cN, cT, ck⟩ := c
  have hq1 := Nat.lt_trans hne.1 hne.2.1
  have hq2 := Nat.lt_trans hne.2.1 hne.2.2
  have hq3 := Nat.lt_trans hq1 hne.2.2
  refine wpAny_call ?_
  k_dflt ktr_enter
  k_steps
  refine go_ ?_
  rename_i bt vb _ _ _ hvb hvbl _ _ _ _ _ _ pl _ _ _ _ _ _ _ F9 N9 _
  have hbl : (sibs T leaf (8 * ks) (num k)).length = 8 * ks := sibs_length _ _ _ _
  have hb32 : ∀ b ∈ sibs T leaf (8 * ks) (num k), b.length ≤ 32 := fun b hb => Nat.le_of_eq (sibs_len32 b hb)
  generalize hbsd : sibs T leaf (8 * ks) (num k) = bs at hvb hbl hb32 ret
  refine' loop_revTx hvb (vs := vb) (br := bt) (news := (tab, oT) :: (db, oD) :: (pl, lstObj [] 0) :: (bt, tupObj vb) :: (x, instObj 235 dx) :: (dx, trD w.params t1 t2 t3 t4 t5 t6 u1 u2 u3 u6 ks f db (hT T (node T leaf (8 * ks) 0))) :: own) [Str.ofString "sibling_node", Str.ofString "node_hash", Str.ofString "node", Str.ofString "target_bit"] [(Str.ofString "node", _), (Str.ofString "target_bit", _)]
    (SetInv w tab db pl bt x dx vb (trD w.params t1 t2 t3 t4 t5 t6 u1 u2 u3 u6 ks f db (hT T (node T leaf (8 * ks) 0))) own kvs T (num k) (8 * ks) bs v)
    rfl (by omega) F9 (news_sub N9 ?n1) ?n4 ?n2 ?n3 ?h0 ?turn ?done
  case n4 => exact .tail _ (.tail _ (.tail _ (.head _)))
  case n1 => walk_at "MY mems"
  case n2 => k_all
  case n3 => walk_at "MY vals"
  case h0 => exact .mk rfl hoT hTR hoD (DbGrown.zero _ _ _ _ _) rfl (by rw [List.take_zero]; exact ⟨rfl, by intro i v h; simp at h⟩)
  case turn =>
    clear F9 N9
    intro i bd tv vals u news₁ h9 tk9 own9 hi hbd hR hown F1 N1
    show wpAny _ _ _ _ _ _
    k_fold
    refine hideG fun hG => ?_
    obtain @⟨oT₁, oD₁, kT₁, kD₁, pv, e, tn, tb, cT, cx, hc, hoT₁, hTR₁, hoD₁, hDb, hpl, hpv⟩ := hR
    refine hG ?_
    clear hG
    have hbb := getD_len hb32 (bs.length - 1 - i)
    rw [hbd] at hbb
    have hdbl := hDb.2.2
    have hpf := pst_facts hc hb32 hvl hDb (show T.length + i < 100000 by omega)
    have hcl := hpf.1
    have hxl := hpf.2.1
    have hsucc := hpf.2.2.1
    have hpg : ((List.range (8 * ks)).map (pg (num k) bs T v)).getD i [] = hT (addT cT cx) cx := pgs_at (by rw [← hbl]; exact hi) hpf.2.2.2
    clear hpf
    simp only [List.cons_append] at N1
    have hs1 : ∀ q ∈ own, q ∈ own ++ own9 := fun q h => List.mem_append_left _ h
    have hs2 : ∀ q ∈ own9, q ∈ own ++ own9 := fun q h => List.mem_append_right _ h
    have ho1 : ∀ p ∈ own ++ own9, p.1 ≠ pl := ne_app (by k_all) (fun p hp => by rcases hown p hp with e | e <;> rw [e] <;> (refine neN ?_; omega))
    have ho2 : ∀ p ∈ own ++ own9, p.1 ≠ db := ne_app (hoff.ne (.tail _ (.tail _ (.head _)))) (fun p hp => by rcases hown p hp with e | e <;> rw [e] <;> (refine neN ?_; omega))
    have ho3 : ∀ p ∈ own ++ own9, p.1 ≠ tab := ne_app (hoff.ne (.tail _ (.tail _ (.tail _ (.head _))))) (fun p hp => by rcases hown p hp with e | e <;> rw [e] <;> (refine neN ?_; omega))
    have hH9 : ∀ q ∈ H, q ∈ own ++ own9 := sub_app hH
    generalize own ++ own9 = own8 at N1 ho1 ho2 ho3 hs1 hs2 hH9
    have hpow : (0 : Int) < ((2 ^ i : Nat) : Int) := by exact_mod_cast Nat.pos_of_ne_zero (by simp)
    k_steps
    refine go_ ?_
    cases hbit : (num k).testBit i
    all_goals (
      have hcs := pst_next (v := v) hc hbd hbit
      simp only [if_true, if_false, Bool.false_eq_true] at hcs
      k_dflt (refine' and_bit hbit ?_)
      (try simp only [if_true, if_false, Bool.false_eq_true])
      k_steps
      refine go_ ?_
      rename Fr _ _ _ _ => F8
      rename News _ _ _ _ => N8
      rename TabRel _ _ => hT8
      refine' TurnEnd.intro F8 N8 ⟨[(Str.ofString "node", _), (Str.ofString "target_bit", _)], .mk hcs ?i1 hT8 ?i2 (hsucc _) ?e6 ?e7, ?e2, ?e3⟩ ?e8 ?e4 ?e5
      case e4 => walk_at "MY mems"
      case e8 => rfl
      case e2 => walk_at "MY vals"
      case i1 => assumption
      case i2 => assumption
      case e6 => rw [List.length_append, hpl]; rfl
      case e7 => exact hpv.snoc (by rw [List.length_map, List.length_range]; omega) hpg
      case e3 => walk_at "MY agree"
      case e5 => walk_at "MY mems")
  case done =>
    clear F9 N9
    intro vals u news₁ h9 tk9 hR F1 N1
    refine hideG fun hG => ?_
    obtain @⟨oT₁, oD₁, kT₁, kD₁, pv, e, tn, tb, cT, cx, hc, hoT₁, hTR₁, hoD₁, hDb, hpl, hpv⟩ := hR
    refine hG ?_
    clear hG
    rw [hbl] at hc hDb hpl hpv
    have hdbl := hDb.2.2
    have hpf := pst_facts hc hb32 hvl hDb (show T.length + 8 * ks < 100000 by omega)
    have hcl := hpf.1
    have hxl := hpf.2.1
    have hsucc := hpf.2.2.1
    have hpgd := hpf.2.2.2
    clear hpf
    have hcs := pst_next (v := v) hc rfl rfl
    rw [List.take_of_length_le (by rw [List.length_map, List.length_range]; exact Nat.le_refl _)] at hpv
    k_steps
    rename News _ _ _ _ => N8
    rename TabRel _ _ => hT8
    rename Obj.IsDictOf _ _ (stored _ _ _) => hd8
    refine ret _ _ _ _ _ _ _ _ _ ?_ (by rw [hcs]; exact hT8) hd8 (hsucc _) (by k_asm) (by rw [hpgd]; exact news_sub N8 (by walk_at "MY mems")) hpv.reverse (of_allLt (by walk_at "MY conj")) (by omega)
    assumption
end
end
theorem flush3 : True := by first | walk1 | trivial
section
local macro_rules | `(tactic| omega) => `(tactic| first | walk_at "MY om" | omega +splitDisjunctions)
/-- the empty tree's texts, from the leaf up -/
def ist (T : List Txt) : Nat → List Txt × Txt
  | 0 => (T, [])
  | i + 1 => (addT (ist T i).1 (ist T i).2, hT (addT (ist T i).1 (ist T i).2) (ist T i).2 ++ hT (addT (ist T i).1 (ist T i).2) (ist T i).2)
def ig (T : List Txt) (i : Nat) : Txt := hT (addT (ist T i).1 (ist T i).2) (ist T i).2
abbrev trD0 (P : Params) (t1 t2 t3 t4 t5 u1 u2 u3 : Tok) (ks : Nat) (f db : Addr) : Obj :=
  dictOf [⟨PyData.keyHash P (Str.ofString "_key_size"), Value.str (Str.ofString "_key_size") t1, Value.int (ks : Int) u1⟩, ⟨PyData.keyHash P (Str.ofString "depth"), Value.str (Str.ofString "depth") t2, Value.int ((ks : Int) * 8) u2⟩,
    ⟨PyData.keyHash P (Str.ofString "_default"), Value.str (Str.ofString "_default") t3, Value.bytes #[] u3⟩, ⟨PyData.keyHash P (Str.ofString "hash_of"), Value.str (Str.ofString "hash_of") t4, Value.ref f⟩,
    ⟨PyData.keyHash P (Str.ofString "db"), Value.str (Str.ofString "db") t5, Value.ref db⟩] 5
section
open PySem.W
theorem ist_len (T : List Txt) : ∀ i, (ist T i).1.length ≤ T.length + i
  | 0 => Nat.le_refl _
  | i + 1 => Nat.le_trans (addT_len _ _).2 (by have := ist_len T i; omega)
theorem ist_txt_len (T : List Txt) : ∀ i, (ist T i).2.length ≤ 64
  | 0 => Nat.zero_le _
  | i + 1 => by show (hT _ _ ++ hT _ _).length ≤ 64; rw [List.length_append, hT_length]; decide
def IstGrown (T : List Txt) (i : Nat) (kvs' : List (Txt × Value)) : Prop := (∀ j, j < i → DbHas kvs' (ist T i).1 (ist T j).2) ∧ kvs'.length ≤ i
theorem IstGrown.zero (T : List Txt) : IstGrown T 0 [] := ⟨fun _ h => absurd h (Nat.not_lt_zero _), Nat.le_refl _⟩
theorem IstGrown.succ {T : List Txt} {i : Nat} {kvs' : List (Txt × Value)} (h : IstGrown T i kvs') (hl : T.length + i < 2 ^ 199) (t : Tok) :
    IstGrown T (i + 1) (stored kvs' (ig T i) (Value.bytes (List.toArray (ist T i).2) t)) := by
  have hp := addT_pre (ist T i).1 (ist T i).2
  have hm := mem_addT (ist T i).1 (ist T i).2
  have hlen : (addT (ist T i).1 (ist T i).2).length < 2 ^ 200 := by
    have h1 := ist_len T i
    have h2 := (addT_len (ist T i).1 (ist T i).2).2
    omega +splitDisjunctions
  refine ⟨fun j hj => ?_, ?_⟩
  · rcases Nat.lt_succ_iff_lt_or_eq.mp hj with hj | rfl
    · exact ((h.1 j hj).grow hp).put hlen hm
    · exact DbHas.new hm
  · have := stored_len kvs' (ig T i) (Value.bytes (List.toArray (ist T i).2) t)
    have := h.2
    omega
end
inductive Tr0 (P : Params) (ks : Nat) (f db : Addr) : Obj → Prop
  | mk {t1 t2 t3 t4 t5 u1 u2 u3 : Tok} : Tr0 P ks f db (trD0 P t1 t2 t3 t4 t5 u1 u2 u3 ks f db)
inductive Tr0At (P : Params) (ks : Nat) (f : Addr) (h₀ : Heap) (L : Addr) (h : Heap) (db : Addr) (q1 q2 : Addr × Obj) (dx : Addr) (r : Led) : Prop
  | mk {t1 t2 t3 t4 t5 u1 u2 u3 : Tok} (N : News h₀ L h (q1 :: q2 :: (dx, trD0 P t1 t2 t3 t4 t5 u1 u2 u3 ks f db) :: r)) : Tr0At P ks f h₀ L h db q1 q2 dx r
inductive TreeInv (w : World) (tab db : Addr) (rest : Led) (T : List Txt) (i : Nat) : List (Str × Value) → Led → Prop
  | mk {oT₁ oD₁ : Obj} {kT₁ kD₁ : List (Txt × Value)} {tn : Tok} {cT : List Txt} {cx : Txt} (hc : ist T i = (cT, cx)) (h1 : oT₁.IsDictOf (bytesKind PySem.Challenge.rw_lh0065_01.row.prog w) kT₁) (h2 : TabRel kT₁ cT)
      (h3 : oD₁.IsDictOf (bytesKind PySem.Challenge.rw_lh0065_01.row.prog w) kD₁) (h4 : IstGrown T i kD₁) : TreeInv w tab db rest T i [(Str.ofString "node", .bytes (List.toArray cx) tn)] ((tab, oT₁) :: (db, oD₁) :: rest)
theorem ist_facts {T cT : List Txt} {cx : Txt} {i : Nat} {kD₁ : List (Txt × Value)} (hc : ist T i = (cT, cx)) (h4 : IstGrown T i kD₁) (hz : T.length + i < 100000) : cT.length ≤ T.length + i ∧ cx.length ≤ 64 ∧
    (∀ t : Tok, IstGrown T (i + 1) (stored kD₁ (hT (addT cT cx) cx) (Value.bytes (List.toArray cx) t))) ∧ ist T (i + 1) = (addT cT cx, hT (addT cT cx) cx ++ hT (addT cT cx) cx) ∧ ig T i = hT (addT cT cx) cx := by
  have a1 := ist_len T i
  have a2 := ist_txt_len T i
  have a3 := h4.succ (Nat.lt_of_lt_of_le hz (by decide))
  have hcs : ist T (i + 1) = (addT (ist T i).1 (ist T i).2, hT (addT (ist T i).1 (ist T i).2) (ist T i).2 ++ hT (addT (ist T i).1 (ist T i).2) (ist T i).2) := rfl
  unfold ig at a3 ⊢
  rw [hc] at a1 a2 a3 hcs ⊢
  exact ⟨a1, a2, a3, hcs, rfl⟩
section
variable {w : World} {p : Program} {loose : List Str} {mean : ExcName → Option Value} {mg mb : Str → Option Value} {dp un : Nat} {gd : Option (List Code)} {cn : Str} {cs : Scope} {a : Addr} {ccd : Value} {cl : List (Str × Addr)} {outer : List Env}
  {A₀ : Around} {base h₀ : Heap} {L : Addr} {m : Loc} {own : Led} {s : Shared} {Q E : Value → Shared → Prop}
theorem tree_spec {tab f : Addr} {H : Led} (hash : HashSpec w p loose mean mg mb f tab H) {ks : Nat} {oT : Obj} {kT : List (Txt × Value)} {T : List Txt} {t' : Tok}
    (c : Cx w p loose mean mg mb cs outer A₀ base h₀ L m ((tab, oT) :: own) s.heap)
    (hoT : oT.IsDictOf (bytesKind PySem.Challenge.rw_lh0065_01.row.prog w) kT) (hTR : TabRel kT T) (hks : ks = 1 ∨ ks = 2) (hTl : T.length < 90000)
    (hoff : ∀ q ∈ own, q.1 ≠ tab) (hH : ∀ q ∈ H, q ∈ own)
    (hdp : dp + 25 < recursionLimit) (hun : un + 250 < cLine)
    (ret : ∀ x dx db oT' kT' oD' kD' t1 t2 t3 t4 t5 t6 u1 u2 u3 u6 h' tk', oT'.IsDictOf (bytesKind PySem.Challenge.rw_lh0065_01.row.prog w) kT' → TabRel kT' (ist T (8 * ks + 1)).1 →
      oD'.IsDictOf (bytesKind PySem.Challenge.rw_lh0065_01.row.prog w) kD' → IstGrown T (8 * ks + 1) kD' → (db == sysModules) = false →
      Fr h₀ L h' m → News h₀ L h' ((x, instObj 235 dx) :: (dx, trD w.params t1 t2 t3 t4 t5 t6 u1 u2 u3 u6 ks f db (ig T (8 * ks))) :: (db, oD') :: (tab, oT') :: own) →
      (∀ q ∈ own, q.1 < dx) → @LT.lt Nat _ tab dx → @LT.lt Nat _ dx x → @LT.lt Nat _ x db → Q (.ref x) { s with heap := h', toks := tk' }) :
    WP w none dp un gd cn cs L a ccd cl outer (call (.ref 235) [.ref f, .int (ks : Int) t']) Q E s := by
  obtain ⟨cB, cF, cX, cN, cT, ck⟩ := c
  obtain ⟨ckd, cnm, cig, cic, cmo⟩ := cs
  cases ck
  unfold WP
  k_steps
  refine go_ ?_
  rename_i x dx _ _ _ _ _ _ _ _ _ _ _ _ _ _ _ _ _ _ db _ o1 _ _ _ hd9 _ _ _ _ _ _ _ _ _ _ _ hr9 F9 N9 _
  obtain @⟨t1, t2, t3, t4, t5, u1, u2, u3, N9⟩ : Tr0At w.params ks f _ _ _ db _ _ dx _ := .mk N9
  refine' loop_range (n := 8 * ks) (news := (tab, oT) :: (db, o1) :: (x, instObj 235 dx) :: (dx, trD0 w.params t1 t2 t3 t4 t5 u1 u2 u3 ks f db) :: own)
    [Str.ofString "_", Str.ofString "node", Str.ofString "node_hash"] [(Str.ofString "node", _)]
    (TreeInv w tab db ((x, instObj 235 dx) :: (dx, trD0 w.params t1 t2 t3 t4 t5 u1 u2 u3 ks f db) :: own) T)
    rfl hr9 (by omega) (by omega) F9 (news_sub N9 ?n1) ?n3 ?h0 ?turn ?done
  case n1 => walk_at "MY mems"
  case n3 => walk_at "MY vals"
  case h0 => exact .mk rfl hoT hTR (dict_empty hd9) (IstGrown.zero _)
  case turn =>
    clear F9 N9 hr9
    intro i ti vals u news₁ h9 tk9 own9 hi hR _ hown F1 N1
    show wpAny _ _ _ _ _ _
    k_fold
    refine hideG fun hG => ?_
    obtain @⟨oT₁, oD₁, kT₁, kD₁, tn, cT, cx, hc, hoT₁, hTR₁, hoD₁, hDb⟩ := hR
    refine hG ?_
    clear hG
    have hdbl := hDb.2
    have hpf := ist_facts hc hDb (show T.length + i < 100000 by omega)
    have hcl := hpf.1
    have hxl := hpf.2.1
    have hsucc := hpf.2.2.1
    have hcs := hpf.2.2.2.1
    clear hpf
    simp only [List.cons_append] at N1
    have hs1 : ∀ q ∈ own, q ∈ own ++ own9 := fun q h => List.mem_append_left _ h
    have hs2 : ∀ q ∈ own9, q ∈ own ++ own9 := fun q h => List.mem_append_right _ h
    have ho2 : ∀ p ∈ own ++ own9, p.1 ≠ db := ne_app (by k_all) (fun p hp => hown p hp (db, o1) (.tail _ (.head _)))
    have ho3 : ∀ p ∈ own ++ own9, p.1 ≠ tab := ne_app hoff (fun p hp => hown p hp (tab, oT) (.head _))
    have hH9 : ∀ q ∈ H, q ∈ own ++ own9 := sub_app hH
    generalize own ++ own9 = own8 at N1 ho2 ho3 hs1 hs2 hH9
    k_steps
    refine go_ ?_
    rename Fr _ _ _ _ => F8
    rename News _ _ _ _ => N8
    rename TabRel _ _ => hT8
    refine' TurnEnd.intro F8 N8 ⟨[(Str.ofString "node", _)], .mk hcs ?i1 hT8 ?i2 (hsucc _), ?e2, ?e3⟩ ?e8 ?e4 ?e5
    case e4 => walk_at "MY mems"
    case e8 => rfl
    case e2 => walk_at "MY vals"
    case i1 => assumption
    case i2 => assumption
    case e3 => walk_at "MY agree"
    case e5 => walk_at "MY mems"
  case done =>
    clear F9 N9 hr9
    intro vals u news₁ h9 tk9 hR _ F1 N1
    refine hideG fun hG => ?_
    obtain @⟨oT₁, oD₁, kT₁, kD₁, tn, cT, cx, hc, hoT₁, hTR₁, hoD₁, hDb⟩ := hR
    refine hG ?_
    clear hG
    have hdbl := hDb.2
    have hpf := ist_facts hc hDb (show T.length + 8 * ks < 100000 by omega)
    have hcl := hpf.1
    have hxl := hpf.2.1
    have hsucc := hpf.2.2.1
    have hcs := hpf.2.2.2.1
    have hpgd := hpf.2.2.2.2
    clear hpf
    have ho2 : ∀ p ∈ own, p.1 ≠ db := by k_all
    have ho4 : ∀ p ∈ own, p.1 ≠ dx := by k_all
    k_steps
    rename News _ _ _ _ => N8
    rename TabRel _ _ => hT8
    rename Obj.IsDictOf _ _ (stored _ _ _) => hd8
    have N8' := news_sub N8 (r := (x, instObj 235 dx) :: (dx, trD w.params t1 t2 t3 t4 t5 _ u1 u2 u3 _ ks f db (ig T (8 * ks))) :: (db, _) :: (tab, _) :: own) (by rw [hpgd]; walk_at "MY mems")
    rename Fr _ _ _ _ => F8
    have hx9 := of_allLt (d := dx) (l := own) (by walk_at "MY conj")
    have hlo : (db == sysModules) = false := by with_reducible assumption
    exact ret _ _ _ _ _ _ _ _ _ _ _ _ _ _ _ _ _ _ _ (by with_reducible assumption) (by rw [hcs]; exact hT8) hd8 (hsucc _) hlo F8 N8' hx9 (by omega) (by omega) (by omega)
end
end
section
local macro_rules | `(tactic| omega) => `(tactic| first | walk_at "MY om" | omega +splitDisjunctions)
theorem pick3_sub {news r1 r2 own : Led} {x dx db : Addr} {o1 o2 o3 : Obj} (P1 : Pick x o1 news r1) (P2 : Pick dx o2 r1 r2) (P3 : Pick db o3 r2 own) : ∀ q ∈ (x, o1) :: (dx, o2) :: (db, o3) :: own, q ∈ news := fun q hq => by
  refine P1.sub q ?_
  rcases List.mem_cons.mp hq with e | h1
  · rw [e]; exact .head _
  · refine .tail _ (P2.sub q ?_)
    rcases List.mem_cons.mp h1 with e | h2
    · rw [e]; exact .head _
    · exact .tail _ (P3.sub q h2)
theorem pick3_mem {news r1 r2 own : Led} {x dx db : Addr} {o1 o2 o3 : Obj} (P1 : Pick x o1 news r1) (P2 : Pick dx o2 r1 r2) (P3 : Pick db o3 r2 own) : ∀ q ∈ news, q ∈ (x, o1) :: (dx, o2) :: (db, o3) :: own := fun q hq => by
  rcases List.mem_cons.mp (P1.mem q hq) with e | h1
  · rw [e]; exact .head _
  · rcases List.mem_cons.mp (P2.mem q h1) with e | h2
    · rw [e]; exact .tail _ (.head _)
    · exact .tail _ (.tail _ (P3.mem q h2))
section
variable {w : World} {p : Program} {loose : List Str} {mean : ExcName → Option Value} {mg mb : Str → Option Value} {dp un : Nat} {gd : Option (List Code)} {cn : Str} {cs : Scope} {a : Addr} {ccd : Value} {cl : List (Str × Addr)} {outer : List Env}
  {A₀ : Around} {base h₀ : Heap} {L : Addr} {m : Loc} {own : Led} {s : Shared} {Q E : Value → Shared → Prop}
theorem branch_spec {news r1 r2 : Led} {x dx f db : Addr} {t1 t2 t3 t4 t5 t6 u1 u2 u3 u6 : Tok} {ks : Nat} {oD : Obj} {kvs : List (Txt × Value)} {T : List Txt} {leaf : Nat → Txt} {k : Txt} {t : Tok}
    (c : Cx w p loose mean mg mb cs outer A₀ base h₀ L m news s.heap) (P1 : Pick x (instObj 235 dx) news r1) (P2 : Pick dx (trD w.params t1 t2 t3 t4 t5 t6 u1 u2 u3 u6 ks f db (hT T (node T leaf (8 * ks) 0))) r1 r2) (P3 : Pick db oD r2 own)
    (hoD : oD.IsDictOf (bytesKind PySem.Challenge.rw_lh0065_01.row.prog w) kvs) (ht : TreeOk kvs T leaf (8 * ks)) (hdb : (db == sysModules) = false) (hks : ks = 1 ∨ ks = 2) (hk : k.length = ks) (hkl : num k < 2 ^ (8 * ks))
    (hlf : leaf (num k) ≠ []) (hdp : dp + 20 < recursionLimit) (hun : un + 200 < cLine)
    (ret : ∀ bt vs h' tk', Fr h₀ L h' m → News h₀ L h' ((bt, tupObj vs) :: news) →
      TxtsAre vs (sibs T leaf (8 * ks) (num k)) → vs.length = 8 * ks → (∀ q ∈ news, q.1 < bt) → Q (.ref bt) { s with heap := h', toks := tk' }) :
    WP w none dp un gd cn cs L a ccd cl outer (call (.ref 176) [.ref x, .bytes k.toArray t]) Q E s := by
  obtain ⟨cB, cF, cX, cN, cT, ck⟩ := c
  have hsub := pick3_mem P1 P2 P3
  have cN1 := news_sub cN (pick3_sub P1 P2 P3)
  clear cN P1 P2 P3
  refine wpAny_call ?_
  k_dflt ktr_enter
  k_steps
  rename TxtsAre _ _ => hv
  rename News _ _ _ _ => N8
  rename Fr _ _ _ _ => F8
  obtain ⟨bt, e9⟩ := name2 N8
  subst e9
  have hlt : ∀ q ∈ news, q.1 < bt := fun q hq => of_allLt (l := (x, instObj 235 dx) :: (dx, trD w.params t1 t2 t3 t4 t5 t6 u1 u2 u3 u6 ks f db (hT T (node T leaf (8 * ks) 0))) :: (db, oD) :: own) (by simp only [AllLt]; exact ⟨by omega, by omega, by omega, by walk_at "MY conj"⟩) q (hsub q hq)
  refine ret _ _ _ _ F8 (fun q hq => ?_) hv (by with_reducible assumption) hlt
  cases hq with
  | head => exact N8 _ (.tail _ (.head _))
  | tail _ hq => exact N8 _ (.tail _ (.tail _ (hsub q hq)))
theorem tget_spec {news r1 r2 : Led} {x dx f db : Addr} {t1 t2 t3 t4 t5 t6 u1 u2 u3 u6 : Tok} {ks : Nat} {oD : Obj} {kvs : List (Txt × Value)} {T : List Txt} {leaf : Nat → Txt} {k : Txt} {t : Tok}
    (c : Cx w p loose mean mg mb cs outer A₀ base h₀ L m news s.heap) (P1 : Pick x (instObj 235 dx) news r1) (P2 : Pick dx (trD w.params t1 t2 t3 t4 t5 t6 u1 u2 u3 u6 ks f db (hT T (node T leaf (8 * ks) 0))) r1 r2) (P3 : Pick db oD r2 own)
    (hoD : oD.IsDictOf (bytesKind PySem.Challenge.rw_lh0065_01.row.prog w) kvs) (ht : TreeOk kvs T leaf (8 * ks)) (hdb : (db == sysModules) = false) (hks : ks = 1 ∨ ks = 2) (hk : k.length = ks) (hkl : num k < 2 ^ (8 * ks))
    (hlf : leaf (num k) ≠ []) (hdp : dp + 20 < recursionLimit) (hun : un + 200 < cLine)
    (ret : ∀ h' tk' t', Fr h₀ L h' m → News h₀ L h' news → Q (.bytes (List.toArray (leaf (num k))) t') { s with heap := h', toks := tk' }) :
    WP w none dp un gd cn cs L a ccd cl outer (call (.ref 169) [.ref x, .bytes k.toArray t]) Q E s := by
  obtain ⟨cB, cF, cX, cN, cT, ck⟩ := c
  have hsub := pick3_mem P1 P2 P3
  have cN1 := news_sub cN (pick3_sub P1 P2 P3)
  clear cN P1 P2 P3
  refine wpAny_call ?_
  k_dflt ktr_enter
  k_steps
  rename News _ _ _ _ => N8
  rename Fr _ _ _ _ => F8
  exact ret _ _ _ F8 (fun q hq => N8 _ (.tail _ (.tail _ (hsub q hq))))
end
end
section
local macro_rules | `(tactic| omega) => `(tactic| first | walk_at "MY om" | omega +splitDisjunctions)
/-- the def that law makes, out of law's own body -/
noncomputable def hashDef (P : Params) : Option Stmt := match (Mine.hd.heap_1 P).lookup 266 with
  | some ⟨_, _, .func fd, _⟩ => match fd.body with
    | .stmts (_ :: d :: _) => some d
    | _ => none
  | _ => none
local macro_rules | `(tactic| walk_at "compareOp NotIn bytes ref") => `(tactic| (k_here; k_dflt (refine' kdg_notin (knd := bytesKind _ _) ?k1 ?k2 ?k3 ?k4 (bytes_is _ _) _ ?k5 ?_; (case k1 => k_asm); (case k2 => k_mem); (case k3 => k_asm); (case k4 => k_asm); (case k5 => exact (tabRel_has (by with_reducible assumption) _).trans (by with_reducible assumption)); k_whole)))
local macro_rules | `(tactic| walk_at "call builtin:len") => `(tactic| exists gd1, kda_len (knd := bytesKind _ _), "amaao!")
local macro_rules | `(tactic| walk_at "eval Name") => `(tactic| exists nameX_G, "afmaff!")
theorem be_room : 200000 ≤ 256 ^ 32 := by decide
local macro_rules | `(tactic| walk_at "Xh") => `(tactic| exact Nat.lt_of_lt_of_le (by omega) be_room)
local macro_rules | `(tactic| walk_at "call builtin:int.to_bytes") => `(tactic| exists to_be_int (n := _ + 1) (k := 32), "RRDh/2")
local macro_rules | `(tactic| walk_at "subscriptTail") => `(tactic| exists gd12, kda_item (knd := bytesKind _ _), "amabv!")
section
variable {w : World} {p : Program} {loose : List Str} {mean : ExcName → Option Value} {mg mb : Str → Option Value}
theorem hash_spec {f c' tab ce : Addr} {nm qual : Str} {params : Arguments} {body : List Stmt} {tps : List TypeParam} {dl : List Expr} {rt : Option Expr} {scope : Scope} {ts : Option Scope} {bd : Str} {pos : Pos} {doc pm ctv : Value} {oc ocell : Obj} {vs : Array Value} {tq : Tok}
    (hd : hashDef w.params = some (.FunctionDef nm params body dl rt tps scope ts bd pos)) (h1 : oc.data = .fields vs) (h2 : vs[1]? = some (.str qual tq)) (h3 : ocell.data = .cell (some (.ref tab))) (hlo : (tab == sysModules) = false) :
    HashSpec w p loose mean mg mb f tab [(f, fnMade nm qual params body scope [(Str.ofString "table", ce)] doc pm c' ctv), (c', oc), (ce, ocell)] := by
  cases hd
  refine ⟨fun h₀ h L l N hH => FnAt.of N (hH _ (.head _)), ?_⟩
  intro hd dp un gd cn cs a ccd cl outer A₀ base h₀ L m own s x t T kvs o Q E cB cF cX cN cT ck hoff hH ho hTR hl hx hdp hun ret
  obtain ⟨ckd, cnm, cig, cic, cmo⟩ := cs
  cases ck
  have hf := hoff _ (hH _ (.head _))
  have hc := hoff _ (hH _ (.tail _ (.head _)))
  have hce := hoff _ (hH _ (.tail _ (.tail _ (.head _))))
  dsimp only at hf hc hce
  have N := news_sub cN (r := (f, fnMade _ qual _ _ _ [(Str.ofString "table", ce)] doc pm c' ctv) :: (c', oc) :: (ce, ocell) :: (tab, o) :: own) (mems_cons (.tail _ (hH _ (.head _))) (mems_cons (.tail _ (hH _ (.tail _ (.head _)))) (mems_cons (.tail _ (hH _ (.tail _ (.tail _ (.head _))))) (fun _ h => h))))
  clear cN
  refine wpAny_call ?_
  kn_enter
  have hkn : kvs.length = T.length := by rw [← hTR.1, List.length_map]
  cases hxd : decide (x ∈ T)
  · have hxT := of_decide_eq_false hxd
    k_steps
    rename News _ _ _ _ => N8
    rename Fr _ _ _ _ => F8
    rename Obj.IsDictOf _ _ (stored _ _ _) => hd8
    have e : be 32 (kvs.length + 1) = hT (addT T x) x := by
      unfold hT addT
      rw [if_neg hxT, hkn, List.idxOf_append, if_neg hxT]
      simp
    rw [e] at hd8 ⊢
    have hT8 := tabRel_add hTR hxT
    rw [e] at hT8
    exact ret _ _ _ _ _ hd8 (hT8 _) F8 (news_sub N8 (by walk_at "MY mems"))
  · have hxT := of_decide_eq_true hxd
    obtain ⟨tv, htv⟩ := tabRel_get hTR hxT
    k_steps
    rename News _ _ _ _ => N8
    rename Fr _ _ _ _ => F8
    have e : addT T x = T := addT_of_mem hxT
    have e2 : hT T x = hT (addT T x) x := by rw [e]
    rw [e2]
    exact ret _ _ _ _ _ ho (by rw [e]; exact hTR) F8 (news_sub N8 (by walk_at "MY mems"))
end
end
theorem flush4 : True := by first | walk1 | trivial
section
local macro_rules | `(tactic| omega) => `(tactic| first | walk_at "MY om" | omega +splitDisjunctions)
abbrev prD (P : Params) (t1 t2 t3 t4 t5 t6 u1 u2 u3 u5 : Tok) (k v : Txt) (ks : Nat) (bl f : Addr) : Obj :=
  dictOf [⟨PyData.keyHash P (Str.ofString "_key"), Value.str (Str.ofString "_key") t1, Value.bytes (List.toArray k) u1⟩, ⟨PyData.keyHash P (Str.ofString "_key_size"), Value.str (Str.ofString "_key_size") t2, Value.int ((k.length : Nat) : Int) u2⟩,
    ⟨PyData.keyHash P (Str.ofString "_value"), Value.str (Str.ofString "_value") t3, Value.bytes (List.toArray v) u3⟩, ⟨PyData.keyHash P (Str.ofString "_branch"), Value.str (Str.ofString "_branch") t4, Value.ref bl⟩,
    ⟨PyData.keyHash P (Str.ofString "_branch_size"), Value.str (Str.ofString "_branch_size") t5, Value.int ((8 * ks : Nat) : Int) u5⟩, ⟨PyData.keyHash P (Str.ofString "hash_of"), Value.str (Str.ofString "hash_of") t6, Value.ref f⟩] 6
section
variable {w : World} {p : Program} {loose : List Str} {mean : ExcName → Option Value} {mg mb : Str → Option Value} {dp un : Nat} {gd : Option (List Code)} {cn : Str} {cs : Scope} {a : Addr} {ccd : Value} {cl : List (Str × Addr)} {outer : List Env}
  {A₀ : Around} {base h₀ : Heap} {L : Addr} {m : Loc} {news own : Led} {s : Shared} {Q E : Value → Shared → Prop}
theorem proof_spec {f bl : Addr} {ks e : Nat} {k v : Txt} {t t' : Tok} {vs : List Value}
    (c : Cx w p loose mean mg mb cs outer A₀ base h₀ L m news s.heap) (hm : (bl, lstObj vs e) ∈ news) (hks : ks = 1 ∨ ks = 2) (hk : k.length = ks) (hv : vs.length = 8 * ks)
    (hdp : dp + 25 < recursionLimit) (hun : un + 250 < cLine)
    (ret : ∀ x dx b2 c2 t1 t2 t3 t4 t5 t6 u1 u2 u3 u5 h' tk', Fr h₀ L h' m →
      News h₀ L h' ((x, instObj 132 dx) :: (dx, prD w.params t1 t2 t3 t4 t5 t6 u1 u2 u3 u5 k v ks b2 f) :: (b2, lstObj vs c2) :: news) →
      (∀ q ∈ news, q.1 < dx) → @LT.lt Nat _ dx x → @LT.lt Nat _ x b2 → Q (.ref x) { s with heap := h', toks := tk' }) :
    WP w none dp un gd cn cs L a ccd cl outer (call (.ref 132) [.bytes k.toArray t, .bytes v.toArray t', .ref bl, .ref f]) Q E s := by
  obtain ⟨cB, cF, cX, cN, cT, ck⟩ := c
  obtain ⟨ckd, cnm, cig, cic, cmo⟩ := cs
  cases ck
  have cN1 := news_sub cN (mems_cons hm (fun _ h => h))
  clear cN hm
  unfold WP
  k_steps
  rename News _ _ _ _ => N8
  rename Fr _ _ _ _ => F8
  refine hideG fun hG => ?_
  obtain ⟨b2, e9⟩ := name1 N8
  subst e9
  obtain ⟨x, e9⟩ := name2 N8
  subst e9
  obtain ⟨dx, e9⟩ := name3 N8
  subst e9
  refine hG ?_
  clear hG
  have hlt := of_allLt (d := dx) (l := news) (by walk_at "MY conj")
  exact ret _ _ _ _ _ _ _ _ _ _ _ _ _ _ _ _ F8 (news_sub N8 (by walk_at "MY mems")) hlt (by omega) (by omega)
end
end
local macro_rules | `(tactic| walk_at "binaryOp BitXor int int") => `(tactic| exists xor_nat, "!")
local macro_rules | `(tactic| walk_at "binaryOp LShift int int") => `(tactic| exists shl_one, "Ro!")
local macro_rules | `(tactic| walk_at "call type:reversed") => `(tactic| exists rev_rng, "aarRo!/d")
local macro_rules | `(tactic| walk_at "exec For Name Call cons nil") => `(tactic| (k_here; (fail_if_success (fail_if_success (with_reducible refine gdF ?_))); (rename Fr _ _ _ _ => lF'); (with_unfolding_all refine' for_brkF lF' ?k1 ?k2 ?_; (case k1 => exact rfl); (case k2 => exact rfl); k_whole)))
local macro_rules | `(tactic| walk_at "BrkAt") => `(tactic| refine stop_ ?_)
local macro_rules | `(tactic| walk_at "pyIter ref") => `(tactic| exists stB)
local macro_rules | `(tactic| walk_at "subscriptTail") => `(tactic| exists gd13, tup_at, "amRor!")
local macro_rules | `(tactic| walk_at "setItem ref int") => `(tactic| exists gd14, lst_set, "aapRoo/n")
section
local macro_rules | `(tactic| omega) => `(tactic| first | walk_at "MY om" | omega +splitDisjunctions)
theorem raised_sub {base h : Heap} {l : List Env} {e t : Addr} {c : Value} {vs : List Value} {news r : Led} (R : RaisedK base l e c t vs news h) (hs : ∀ q ∈ r, q ∈ news) : RaisedK base l e c t vs r h := by
  obtain ⟨⟨B, h1, h2, h3⟩, h4⟩ := R
  exact ⟨⟨B, h1, fun q hq => h2 q (hs q hq), h3⟩, h4⟩
section
variable {w : World} {p : Program} {loose : List Str} {mean : ExcName → Option Value} {mg mb : Str → Option Value} {hd : Option Value} {dp un : Nat} {gd : Option (List Code)} {cn : Str} {cs : Scope} {a : Addr} {ccd : Value} {cl : List (Str × Addr)} {outer : List Env}
  {A₀ : Around} {base h₀ : Heap} {L : Addr} {m : Loc} {own : Led} {s : Shared} {Q E : Value → Shared → Prop}
theorem upd_same {x dx b2 f : Addr} {t1 t2 t3 t4 t5 t6 u1 u2 u3 u5 : Tok} {ks : Nat} {k k2 v v2 : Txt} {pa : Addr} {t t' : Tok}
    (c : Cx w p loose mean mg mb cs outer A₀ base h₀ L m ((x, instObj 132 dx) :: (dx, prD w.params t1 t2 t3 t4 t5 t6 u1 u2 u3 u5 k v ks b2 f) :: own) s.heap)
    (hks : ks = 1 ∨ ks = 2) (hk : k.length = ks) (hk2 : k2.length = ks) (hd : num k ^^^ num k2 = 0) (hoff : ∀ p ∈ own, p.1 ≠ dx) (hxd : @LT.lt Nat _ dx x)
    (hdp : dp + 15 < recursionLimit) (hun : un + 150 < cLine)
    (ret : ∀ h' tk' u3', Fr h₀ L h' m → News h₀ L h' ((x, instObj 132 dx) :: (dx, prD w.params t1 t2 t3 t4 t5 t6 u1 u2 u3' u5 k v2 ks b2 f) :: own) → Q .none { s with heap := h', toks := tk' }) :
    WP w none dp un gd cn cs L a ccd cl outer (call (.ref 129) [.ref x, .bytes k2.toArray t, .bytes v2.toArray t', .ref pa]) Q E s := by
  obtain ⟨cB, cF, cX, cN, cT, ck⟩ := c
  refine wpAny_call ?_
  k_dflt ktr_enter
  k_steps
  rename News _ _ _ _ => N8
  rename Fr _ _ _ _ => F8
  exact ret _ _ _ F8 N8
theorem upd_any {x dx b2 f : Addr} {t1 t2 t3 t4 t5 t6 u1 u2 u3 u5 : Tok} {ks e np bp : Nat} {k k2 v v2 : Txt} {pa : Addr} {vs ps : List Value} {t t' : Tok}
    (c : Cx w p loose mean mg mb cs outer A₀ base h₀ L m ((x, instObj 132 dx) :: (dx, prD w.params t1 t2 t3 t4 t5 t6 u1 u2 u3 u5 k v ks b2 f) :: (b2, lstObj vs e) :: (pa, tupObj ps) :: own) s.heap)
    (hks : ks = 1 ∨ ks = 2) (hk : k.length = ks) (hk2 : k2.length = ks) (hv : vs.length = 8 * ks) (hb : bp < 8 * ks)
    (hbit : (num k ^^^ num k2).testBit (8 * ks - 1 - bp) = true) (hlow : ∀ i, i < bp → (num k ^^^ num k2).testBit (8 * ks - 1 - i) = false)
    (hpn : ps.length = np) (hnp : np ≤ 10000)
    (hoff : ∀ p ∈ own, p.1 ≠ b2) (hxd : @LT.lt Nat _ dx x ∧ @LT.lt Nat _ x b2 ∧ @LT.lt Nat _ b2 pa)
    (hdp : dp + 15 < recursionLimit) (hun : un + 150 < cLine)
    (ret : bp < np → ∀ pv, ps[bp]? = some pv → ∀ h' tk', Fr h₀ L h' m → News h₀ L h' ((x, instObj 132 dx) :: (dx, prD w.params t1 t2 t3 t4 t5 t6 u1 u2 u3 u5 k v ks b2 f) :: (b2, lstObj (vs.set bp pv) e) :: (pa, tupObj ps) :: own) → Q .none { s with heap := h', toks := tk' })
    (hnn : np ≤ bp → hd = none)
    (exc : np ≤ bp → ∀ g e' t arg h' tk', Fr h₀ L g m → RaisedK base (envX cn cs L a ccd cl :: outer) e' (.ref 52) t arg ((x, instObj 132 dx) :: (dx, prD w.params t1 t2 t3 t4 t5 t6 u1 u2 u3 u5 k v ks b2 f) :: (b2, lstObj vs e) :: (pa, tupObj ps) :: own) h' → g.UpToSlots h' → E (.ref e') { s with heap := h', toks := tk' }) :
    WP w hd dp un gd cn cs L a ccd cl outer (call (.ref 129) [.ref x, .bytes k2.toArray t, .bytes v2.toArray t', .ref pa]) Q E s := by
  obtain ⟨cB, cF, cX, cN, cT, ck⟩ := c
  have hd0 : num k ^^^ num k2 ≠ 0 := fun e => by rw [e] at hbit; simp at hbit
  refine wpAny_call ?_
  k_dflt ktr_enter
  k_steps
  refine go_ ?_
  rename Fr _ _ _ _ => F9
  rename News _ _ _ _ => N9
  refine hideG fun hG => ?_
  obtain ⟨D, e9⟩ := name1 N9
  subst e9
  refine hG ?_
  clear hG
  refine wpAny_pyIter_rangeiter (N9 _ (.head _)).1 ?_
  refine ⟨D, 8 * ks, bp, _, _, rfl, hb, F9, N9, ?f1, ?_⟩
  case f1 => k_all
  clear F9 N9
  intro i h9 tk9 tv hi F1 N1
  have hj : ((8 * ks : Nat) : Int) - 1 - i = ((8 * ks - 1 - i : Nat) : Int) := by omega
  rw [hj] at F1
  have hjz : 8 * ks - 1 - i ≤ 100 := by omega
  have hbp : ((8 * ks : Nat) : Int) - 1 - ((8 * ks - 1 - i : Nat) : Int) = (i : Int) := by omega
  rcases Nat.lt_or_eq_of_le hi with hlt | rfl
  · have hbb := hlow i hlt
    generalize hjd : 8 * ks - 1 - i = j at hbb F1 hjz
    have hpow : (0 : Int) < ((2 ^ j : Nat) : Int) := by exact_mod_cast Nat.pos_of_ne_zero (by simp)
    refine wpAny_mono (Q := fun f s' => Stop (f = .next ∧ _)) ?_ (fun f s' h => by rw [if_neg (Nat.ne_of_lt hlt)]; exact h) fun _ _ h => h
    k_steps
    rename News _ _ _ _ => N8
    rename Fr _ _ _ _ => F8
    refine go_ ⟨rfl, _, _, tv, rfl, ?_, N8⟩
    rw [hj, hjd]
    exact F8
  · generalize hjd : 8 * ks - 1 - i = j at hbit F1 hjz hbp
    have hpow : (0 : Int) < ((2 ^ j : Nat) : Int) := by exact_mod_cast Nat.pos_of_ne_zero (by simp)
    refine wpAny_mono (Q := fun f s' => Stop (f = .brk ∧ _)) ?_ (fun f s' h => by rw [if_pos rfl]; exact h) fun _ _ h => h
    k_steps
    dsimp only
    refine go_ ⟨rfl, ?_⟩
    rename Fr _ _ _ _ => F7
    rw [hbp] at F7
    rcases Nat.lt_or_ge i np with hbn | hbn
    · obtain ⟨pv, hpv⟩ : ∃ pv, ps[i]? = some pv := ⟨_, List.getElem?_eq_getElem (by omega)⟩
      k_steps
      rename News _ _ _ _ => N8
      rename Fr _ _ _ _ => F8
      exact ret hbn _ hpv _ _ F8 (fun q hq => N8 q (.tail _ hq))
    · obtain rfl := hnn hbn
      k_steps
      rename RaisedK _ _ _ _ _ _ _ _ => R8
      rename Heap.UpToSlots _ _ => U8
      exact exc hbn _ _ _ _ _ _ (by with_reducible assumption) (raised_sub R8 fun q hq => .tail _ hq) U8
theorem upd_deep {x dx b2 f : Addr} {t1 t2 t3 t4 t5 t6 u1 u2 u3 u5 : Tok} {ks e np bp : Nat} {k k2 v v2 : Txt} {pa : Addr} {vs ps : List Value} {pv : Value} {t t' : Tok}
    (c : Cx w p loose mean mg mb cs outer A₀ base h₀ L m ((x, instObj 132 dx) :: (dx, prD w.params t1 t2 t3 t4 t5 t6 u1 u2 u3 u5 k v ks b2 f) :: (b2, lstObj vs e) :: (pa, tupObj ps) :: own) s.heap)
    (hks : ks = 1 ∨ ks = 2) (hk : k.length = ks) (hk2 : k2.length = ks) (hv : vs.length = 8 * ks) (hb : bp < 8 * ks)
    (hbit : (num k ^^^ num k2).testBit (8 * ks - 1 - bp) = true) (hlow : ∀ i, i < bp → (num k ^^^ num k2).testBit (8 * ks - 1 - i) = false)
    (hpn : ps.length = np) (hnp : np ≤ 10000) (hbn : bp < np) (hpv : ps[bp]? = some pv)
    (hoff : ∀ p ∈ own, p.1 ≠ b2) (hxd : @LT.lt Nat _ dx x ∧ @LT.lt Nat _ x b2 ∧ @LT.lt Nat _ b2 pa)
    (hdp : dp + 15 < recursionLimit) (hun : un + 150 < cLine)
    (ret : ∀ h' tk', Fr h₀ L h' m → News h₀ L h' ((x, instObj 132 dx) :: (dx, prD w.params t1 t2 t3 t4 t5 t6 u1 u2 u3 u5 k v ks b2 f) :: (b2, lstObj (vs.set bp pv) e) :: (pa, tupObj ps) :: own) → Q .none { s with heap := h', toks := tk' }) :
    WP w hd dp un gd cn cs L a ccd cl outer (call (.ref 129) [.ref x, .bytes k2.toArray t, .bytes v2.toArray t', .ref pa]) Q E s :=
  upd_any c hks hk hk2 hv hb hbit hlow hpn hnp hoff hxd hdp hun (fun _ pv' h => by rw [hpv] at h; injection h with h; subst h; exact ret) (fun h => absurd hbn (Nat.not_lt.mpr h)) (fun h => absurd hbn (Nat.not_lt.mpr h))
theorem upd_short {x dx b2 f : Addr} {t1 t2 t3 t4 t5 t6 u1 u2 u3 u5 : Tok} {ks e np bp : Nat} {k k2 v v2 : Txt} {pa : Addr} {vs ps : List Value} {t t' : Tok}
    (c : Cx w p loose mean mg mb cs outer A₀ base h₀ L m ((x, instObj 132 dx) :: (dx, prD w.params t1 t2 t3 t4 t5 t6 u1 u2 u3 u5 k v ks b2 f) :: (b2, lstObj vs e) :: (pa, tupObj ps) :: own) s.heap)
    (hks : ks = 1 ∨ ks = 2) (hk : k.length = ks) (hk2 : k2.length = ks) (hv : vs.length = 8 * ks) (hb : bp < 8 * ks)
    (hbit : (num k ^^^ num k2).testBit (8 * ks - 1 - bp) = true) (hlow : ∀ i, i < bp → (num k ^^^ num k2).testBit (8 * ks - 1 - i) = false)
    (hpn : ps.length = np) (hnp : np ≤ 10000) (hbn : np ≤ bp)
    (hoff : ∀ p ∈ own, p.1 ≠ b2) (hxd : @LT.lt Nat _ dx x ∧ @LT.lt Nat _ x b2 ∧ @LT.lt Nat _ b2 pa)
    (hdp : dp + 15 < recursionLimit) (hun : un + 150 < cLine)
    (exc : ∀ g e' t arg h' tk', Fr h₀ L g m → RaisedK base (envX cn cs L a ccd cl :: outer) e' (.ref 52) t arg ((x, instObj 132 dx) :: (dx, prD w.params t1 t2 t3 t4 t5 t6 u1 u2 u3 u5 k v ks b2 f) :: (b2, lstObj vs e) :: (pa, tupObj ps) :: own) h' → g.UpToSlots h' → E (.ref e') { s with heap := h', toks := tk' }) :
    WP w none dp un gd cn cs L a ccd cl outer (call (.ref 129) [.ref x, .bytes k2.toArray t, .bytes v2.toArray t', .ref pa]) Q E s :=
  upd_any c hks hk hk2 hv hb hbit hlow hpn hnp hoff hxd hdp hun (fun h => absurd h (Nat.not_lt.mpr hbn)) (fun _ => rfl) (fun _ => exc)
end
end
section
section
variable {w : World} {p : Program} {loose : List Str} {mean : ExcName → Option Value} {mg mb : Str → Option Value} {hd : Option Value} {dp un : Nat} {gd : Option (List Code)} {cn : Str} {cs : Scope} {a : Addr} {ccd : Value} {cl : List (Str × Addr)} {outer : List Env}
  {A₀ : Around} {base h₀ : Heap} {L : Addr} {m : Loc} {own : Led} {s : Shared} {Q E : Value → Shared → Prop}
theorem upd_wrong {x dx b2 f : Addr} {t1 t2 t3 t4 t5 t6 u1 u2 u3 u5 : Tok} {ks : Nat} {k k2 v : Txt} {v9 : Value} {pa : Addr} {t : Tok}
    (c : Cx w p loose mean mg mb cs outer A₀ base h₀ L m ((x, instObj 132 dx) :: (dx, prD w.params t1 t2 t3 t4 t5 t6 u1 u2 u3 u5 k v ks b2 f) :: own) s.heap)
    (hks : ks = 1 ∨ ks = 2) (hk : k.length = ks) (hk2 : k2.length ≠ ks) (hk3 : k2.length ≤ 8)
    (hdp : dp + 15 < recursionLimit) (hun : un + 150 < cLine)
    (exc : ∀ g e' t arg h' tk', Fr h₀ L g m → RaisedK base (envX cn cs L a ccd cl :: outer) e' (.ref 52) t arg ((x, instObj 132 dx) :: (dx, prD w.params t1 t2 t3 t4 t5 t6 u1 u2 u3 u5 k v ks b2 f) :: own) h' → g.UpToSlots h' → E (.ref e') { s with heap := h', toks := tk' }) :
    WP w none dp un gd cn cs L a ccd cl outer (call (.ref 129) [.ref x, .bytes k2.toArray t, v9, .ref pa]) Q E s := by
  obtain ⟨cB, cF, cX, cN, cT, ck⟩ := c
  have hkk : (k2.length : Int) ≠ (k.length : Int) := by omega
  refine wpAny_call ?_
  k_dflt ktr_enter
  k_steps
  rename RaisedK _ _ _ _ _ _ _ _ => R8
  rename Heap.UpToSlots _ _ => U8
  exact exc _ _ _ _ _ _ (by with_reducible assumption) R8 U8
theorem calc_wrong {f bl : Addr} {ks e nn : Nat} {k v : Txt} {t t' : Tok} {vs : List Value}
    (c : Cx w p loose mean mg mb cs outer A₀ base h₀ L m ((bl, lstObj vs e) :: own) s.heap) (hks : ks = 1 ∨ ks = 2) (hk : k.length = ks) (hv : vs.length = nn) (hnn : nn ≠ 8 * ks) (hnz : nn ≤ 1000)
    (hdp : dp + 25 < recursionLimit) (hun : un + 250 < cLine)
    (exc : ∀ g e' t arg h' tk', Fr h₀ L g m → RaisedK base (envX cn cs L a ccd cl :: outer) e' (.ref 52) t arg ((bl, lstObj vs e) :: own) h' → g.UpToSlots h' → E (.ref e') { s with heap := h', toks := tk' }) :
    WP w none dp un gd cn cs L a ccd cl outer (call (.ref 76) [.bytes k.toArray t, .bytes v.toArray t', .ref bl, .ref f]) Q E s := by
  obtain ⟨cB, cF, cX, cN, cT, ck⟩ := c
  have hkk : (nn : Int) ≠ (k.length : Int) * 8 := by omega
  refine wpAny_call ?_
  k_dflt ktr_enter
  k_steps
  rename RaisedK _ _ _ _ _ _ _ _ => R8
  rename Heap.UpToSlots _ _ => U8
  exact exc _ _ _ _ _ _ (by with_reducible assumption) R8 U8
theorem proof_wrong {f bl : Addr} {ks e nn : Nat} {k v : Txt} {t t' : Tok} {vs : List Value}
    (c : Cx w p loose mean mg mb cs outer A₀ base h₀ L m ((bl, lstObj vs e) :: own) s.heap) (hks : ks = 1 ∨ ks = 2) (hk : k.length = ks) (hv : vs.length = nn) (hnn : nn ≠ 8 * ks) (hnz : nn ≤ 1000)
    (hdp : dp + 25 < recursionLimit) (hun : un + 250 < cLine)
    (exc : ∀ g e' t arg h' tk', Fr h₀ L g m → RaisedK base (envX cn cs L a ccd cl :: outer) e' (.ref 52) t arg ((bl, lstObj vs e) :: own) h' → g.UpToSlots h' → E (.ref e') { s with heap := h', toks := tk' }) :
    WP w none dp un gd cn cs L a ccd cl outer (call (.ref 132) [.bytes k.toArray t, .bytes v.toArray t', .ref bl, .ref f]) Q E s := by
  obtain ⟨cB, cF, cX, cN, cT, ck⟩ := c
  obtain ⟨ckd, cnm, cig, cic, cmo⟩ := cs
  cases ck
  have hkk : (nn : Int) ≠ (k.length : Int) * 8 := by omega
  unfold WP
  k_steps
  rename RaisedK _ _ _ _ _ _ _ _ => R8
  rename Heap.UpToSlots _ _ => U8
  show E _ _
  exact exc _ _ _ _ _ _ (by with_reducible assumption) (raised_sub R8 (by walk_at "MY mems")) U8
end
end
section
local macro_rules | `(tactic| omega) => `(tactic| first | walk_at "MY om" | omega +splitDisjunctions)
local macro_rules | `(tactic| walk_at "call type:reversed") => `(tactic| exists gd11, rev_lst, "aam!/d")
local macro_rules | `(tactic| walk_at "binaryOp BitAnd int int") => `(tactic| refine stop_ ?_)
theorem calc_root_list {e : Nat} {w : World} {p : Program} {loose : List Str} {mean : ExcName → Option Value} {mg mb : Str → Option Value} {f tab : Addr} {H : List (Addr × Obj)} (hash : HashSpec w p loose mean mg mb f tab H)
  (dp un : Nat) (gd : Option (List Code)) (cn : Str) (cs : Scope) (a : Addr) (ccd : Value) (cl : List (Str × Addr)) (outer : List Env) (A₀ : Around) (base h₀ : Heap) (L : Addr) (m : Str → Option Value) (own : List (Addr × Obj)) (s : Shared)
    (k v : Txt) (t t' : Tok) (br : Addr) (vs : List Value) (bs : List Txt) (T : List Txt) (kvs : List (Txt × Value)) (o : Obj) (Q E : Value → Shared → Prop) 
    (B : Below A₀ base outer h₀) (F : Fr h₀ L s.heap m) (X : (Mine.hd.heap_1 w.params).In h₀) (N : News h₀ L s.heap ((tab, o) :: (br, lstObj vs e) :: own)) (TT : Top p loose mean mg mb h₀) (hk : cs.kind = .function)
    (hoff : OwnOff own [tab, br]) (htb : @LT.lt Nat _ tab br) (hH : ∀ q ∈ H, q ∈ own) (ho : o.IsDictOf (bytesKind PySem.Challenge.rw_lh0065_01.row.prog w) kvs) (hTR : TabRel kvs T) (hl : T.length < 90000) (hd1 : dp + 15 < recursionLimit) (hu1 : un + 150 < cLine)
    (hkl : k.length = 1 ∨ k.length = 2) (hvs : vs.length = 8 * k.length) (hb : TxtsAre vs bs) (hvl : v.length ≤ 500) (hbl : ∀ b ∈ bs, b.length ≤ 200)
    (ret : ∀ o' kvs' h' tk' t', o'.IsDictOf (bytesKind PySem.Challenge.rw_lh0065_01.row.prog w) kvs' → TabRel kvs' (cst (num k) bs (addT T v) (hT (addT T v) v) bs.length).1 → Fr h₀ L h' m → News h₀ L h' ((tab, o') :: (br, lstObj vs e) :: own) → Q (.bytes (cst (num k) bs (addT T v) (hT (addT T v) v) bs.length).2.toArray t') { s with heap := h', toks := tk' })
    : wpAny (model PySem.Challenge.rw_lh0065_01.row.prog w) (top5 none dp un gd cn cs L a ccd cl outer) (call (.ref 76) [.bytes k.toArray t, .bytes v.toArray t', .ref br, .ref f]) Q E s := by
  refine wpAny_call ?_
  k_dflt ktr_enter
  k_steps
  refine go_ ?_
  rename Fr _ _ _ _ => F9
  rename News _ _ _ _ => N9
  rename Obj.IsDictOf _ _ _ => ho9
  rename TabRel _ _ => hT9
  rename _ ∧ _ ≤ _ => hl9
  refine' loop_revLx hb (news := (tab, _) :: (br, lstObj vs e) :: own) [Str.ofString "sibling_node", Str.ofString "node_hash", Str.ofString "target_bit"] [(Str.ofString "node_hash", _), (Str.ofString "target_bit", _)]
    (CalcInv w tab ((br, lstObj vs e) :: own) (num k) bs (addT T v) (hT (addT T v) v))
    rfl (by omega) F9 (news_sub N9 ?n1) (.tail _ (.head _)) ?n2 ?n3 ?h0 ?turn ?done
  case n1 => walk_at "MY mems"
  case n2 => k_all
  case n3 => walk_at "MY vals"
  case h0 => exact .mk rfl ho9 hT9
  case turn =>
    clear F9 N9 ho9 hT9
    intro i bd tv vals u news₁ h9 tk9 own9 hi hbd hR hown F1 N1
    show wpAny _ _ _ _ _ _
    k_fold
    refine hideG fun hG => ?_
    obtain @⟨o₁, kvs₁, tn, tb, cT, ch, hc, ho₁, hT₁⟩ := hR
    refine hG ?_
    clear hG
    have hvb := hb.1
    have hbb := getD_len hbl (bs.length - 1 - i)
    rw [hbd] at hbb
    have hcf := cst_facts (hT_length _ _) hc hbd
    have hcl := hcf.1
    have hcn := hcf.2
    clear hcf
    simp only [List.cons_append] at N1
    have hoff9 : ∀ p ∈ own ++ own9, p.1 ≠ tab := ne_app (hoff.ne (.head _)) (fun p hp => by rcases hown p hp with e | e <;> rw [e] <;> (refine neN ?_; omega))
    have hH9 : ∀ q ∈ H, q ∈ own ++ own9 := sub_app hH
    have hs1 : ∀ q ∈ own, q ∈ own ++ own9 := fun q h => List.mem_append_left _ h
    have hs2 : ∀ q ∈ own9, q ∈ own ++ own9 := fun q h => List.mem_append_right _ h
    generalize own ++ own9 = own8 at N1 hoff9 hH9 hs1 hs2
    have hpow : (0 : Int) < ((2 ^ i : Nat) : Int) := by exact_mod_cast Nat.pos_of_ne_zero (by simp)
    k_steps
    refine go_ ?_
    cases hbit : (num k).testBit i
    all_goals (
      have hcs := hcn _ hbit
      simp only [if_true, if_false, Bool.false_eq_true] at hcs
      k_dflt (refine' and_bit hbit ?_)
      (try simp only [if_true, if_false, Bool.false_eq_true])
      k_steps
      refine go_ ?_
      rename Fr _ _ _ _ => F8
      rename News _ _ _ _ => N8
      rename Obj.IsDictOf _ _ _ => ho8
      rename TabRel _ _ => hT8
      refine' TurnEnd.intro F8 N8 ⟨[(Str.ofString "node_hash", _), (Str.ofString "target_bit", _)], .mk hcs ho8 hT8, ?e2, ?e3⟩ rfl ?e4 ?e5
      case e2 => walk_at "MY vals"
      case e3 => walk_at "MY agree"
      case e4 => walk_at "MY mems"
      case e5 => walk_at "MY mems")
  case done =>
    clear F9 N9 ho9 hT9
    intro vals u news₁ h9 tk9 hR F1 N1
    refine hideG fun hG => ?_
    obtain @⟨o₁, kvs₁, tn, tb, cT, ch, hc, ho₁, hT₁⟩ := hR
    refine hG ?_
    clear hG
    k_steps
    rw [hc] at ret
    exact ret _ _ _ _ _ ho₁ hT₁ (by k_asm) (by k_asm)
end
theorem flush5 : True := by first | walk1 | trivial
local macro_rules | `(tactic| walk_at "subscriptTail") => `(tactic| exists gd15, lst_last, "amor!")
section
local macro_rules | `(tactic| omega) => `(tactic| first | walk_at "MY om" | omega +splitDisjunctions)
inductive BlankInv (w : World) (tab rl : Addr) (own : Led) (T : List Txt) (i : Nat) : List (Str × Value) → Led → Prop
  | mk {oT₁ : Obj} {kT₁ : List (Txt × Value)} {vs : List Value} {e : Nat} {tl : Tok} {cT : List Txt} {cx : Txt} (hc : bst T i = (cT, cx)) (h1 : oT₁.IsDictOf (bytesKind PySem.Challenge.rw_lh0065_01.row.prog w) kT₁) (h2 : TabRel kT₁ cT) (h3 : vs.length = i + 1)
      (h4 : TxtsAre vs ((List.range (i + 1)).map fun j => (bst T j).2)) (h5 : vs.getLast? = some (Value.bytes (List.toArray cx) tl)) : BlankInv w tab rl own T i [] ((rl, lstObj vs e) :: (tab, oT₁) :: own)
theorem bst_facts {T cT : List Txt} {cx : Txt} {i : Nat} (hc : bst T i = (cT, cx)) : (cT.length ≤ T.length + i + 1 ∧ cx.length = 32) ∧ bst T (i + 1) = (addT cT (cx ++ cx), hT (addT cT (cx ++ cx)) (cx ++ cx)) ∧
    (List.range (i + 1 + 1)).map (fun j => (bst T j).2) = (List.range (i + 1)).map (fun j => (bst T j).2) ++ [hT (addT cT (cx ++ cx)) (cx ++ cx)] := by
  have h1 := bst_len T i
  have hcs : bst T (i + 1) = (addT (bst T i).1 ((bst T i).2 ++ (bst T i).2), hT (addT (bst T i).1 ((bst T i).2 ++ (bst T i).2)) ((bst T i).2 ++ (bst T i).2)) := rfl
  have hra := range_app (fun j => (bst T j).2) (i + 1)
  rw [hcs] at hra
  rw [hc] at h1 hcs hra
  exact ⟨h1, hcs, hra⟩
section
variable {w : World} {p : Program} {loose : List Str} {mean : ExcName → Option Value} {mg mb : Str → Option Value} {dp un : Nat} {gd : Option (List Code)} {cn : Str} {cs : Scope} {a : Addr} {ccd : Value} {cl : List (Str × Addr)} {outer : List Env}
  {A₀ : Around} {base h₀ : Heap} {L : Addr} {m : Loc} {own : Led} {s : Shared} {Q E : Value → Shared → Prop}
theorem blanks_spec {tab f : Addr} {H : Led} (hash : HashSpec w p loose mean mg mb f tab H) {ks : Nat} {oT : Obj} {kT : List (Txt × Value)} {T : List Txt} {t t' : Tok}
    (c : Cx w p loose mean mg mb cs outer A₀ base h₀ L m ((tab, oT) :: own) s.heap)
    (hoT : oT.IsDictOf (bytesKind PySem.Challenge.rw_lh0065_01.row.prog w) kT) (hTR : TabRel kT T) (hks : ks = 1 ∨ ks = 2) (hTl : T.length < 90000)
    (hoff : ∀ q ∈ own, q.1 ≠ tab) (hH : ∀ q ∈ H, q ∈ own)
    (hdp : dp + 15 < recursionLimit) (hun : un + 150 < cLine)
    (ret : ∀ r vs e oT' kT' h' tk', oT'.IsDictOf (bytesKind PySem.Challenge.rw_lh0065_01.row.prog w) kT' → TabRel kT' (bst T (8 * ks)).1 →
      Fr h₀ L h' m → News h₀ L h' ((r, lstObj vs e) :: (tab, oT') :: own) → TxtsAre vs ((List.range (8 * ks + 1)).map fun j => (bst T j).2) → (∀ q ∈ own, q.1 < r) → @LT.lt Nat _ tab r → Q (.ref r) { s with heap := h', toks := tk' }) :
    WP w none dp un gd cn cs L a ccd cl outer (call (.ref 247) [.int ((8 * ks : Nat) : Int) t, .bytes #[] t', .ref f]) Q E s := by
  obtain ⟨cB, cF, cX, cN, cT, ck⟩ := c
  refine wpAny_call ?_
  k_dflt ktr_enter
  k_steps
  refine go_ ?_
  rename_i ho9 hT9 _ _ rl _ _ _ _ _ _ _ _ _ _ hr9 F9 N9 _
  refine' loop_range (n := 8 * ks) (news := (rl, lstObj [_] _) :: (tab, _) :: own)
    [Str.ofString "k"] []
    (BlankInv w tab rl own T)
    rfl hr9 (by omega) (by omega) F9 N9 ?n3 ?h0 ?turn ?done
  case n3 => walk_at "MY vals"
  case h0 => exact .mk rfl ho9 hT9 rfl (TxtsAre.app (vs := []) (l := []) ⟨rfl, by intro i v h; simp at h⟩) rfl
  case turn =>
    clear F9 N9 hr9
    intro i ti vals u news₁ h9 tk9 own9 hi hR _ hown F1 N1
    show wpAny _ _ _ _ _ _
    k_fold
    refine hideG fun hG => ?_
    obtain @⟨oT₁, kT₁, vs, e, tl, cT, cx, hc, hoT₁, hTR₁, hvl, hvs, hlast⟩ := hR
    refine hG ?_
    clear hG
    have hpf := bst_facts hc
    have hbl := hpf.1
    have hcs := hpf.2.1
    have hra := hpf.2.2
    clear hpf
    simp only [List.cons_append] at N1
    have hs1 : ∀ q ∈ own, q ∈ own ++ own9 := fun q h => List.mem_append_left _ h
    have hs2 : ∀ q ∈ own9, q ∈ own ++ own9 := fun q h => List.mem_append_right _ h
    have ho2 : ∀ p ∈ own ++ own9, p.1 ≠ rl := ne_app (by k_all) (fun p hp => hown p hp (rl, lstObj [_] _) (.head _))
    have ho3 : ∀ p ∈ own ++ own9, p.1 ≠ tab := ne_app hoff (fun p hp => hown p hp (tab, _) (.tail _ (.head _)))
    have hH9 : ∀ q ∈ H, q ∈ own ++ own9 := sub_app hH
    generalize own ++ own9 = own8 at N1 ho2 ho3 hs1 hs2 hH9
    k_steps
    refine go_ ?_
    rename Fr _ _ _ _ => F8
    rename News _ _ _ _ => N8
    rename TabRel _ _ => hT8
    refine' TurnEnd.intro F8 N8 ⟨[], .mk hcs ?i1 hT8 ?i3 ?i4 ?i5, ?e2, ?e3⟩ ?e8 ?e4 ?e5
    case e4 => walk_at "MY mems"
    case e8 => rfl
    case i1 => with_reducible assumption
    case i3 => rw [List.length_append, hvl]; rfl
    case i4 => rw [hra]; exact hvs.app
    case i5 => exact List.getLast?_concat
    case e2 => walk_at "MY vals"
    case e3 => walk_at "MY agree"
    case e5 => walk_at "MY mems"
  case done =>
    clear F9 N9 hr9
    intro vals u news₁ h9 tk9 hR _ F1 N1
    refine hideG fun hG => ?_
    obtain @⟨oT₁, kT₁, vs, e, tl, cT, cx, hc, hoT₁, hTR₁, hvl, hvs, hlast⟩ := hR
    refine hG ?_
    clear hG
    k_steps
    rename Fr _ _ _ _ => F8
    rename News _ _ _ _ => N8
    have hx9 := of_allLt (d := rl) (l := own) (by walk_at "MY conj")
    exact ret _ _ _ _ _ _ _ hoT₁ (by rw [hc]; exact hTR₁) F8 N8 hvs hx9 (by omega)
end
end
local macro_rules | `(tactic| walk_at "compareOp Eq ref ref") => `(tactic| exists gd16, eq_empty, "ammaarrur!")
section
local macro_rules | `(tactic| omega) => `(tactic| first | walk_at "MY om" | omega +splitDisjunctions)
local macro_rules | `(tactic| walk_at "exec Assign cons DictComp") => `(tactic| refine stop_ ?_)
local macro_rules | `(tactic| walk_at "call ref") => `(tactic| exists st1)
local macro_rules | `(tactic| walk_at "setItem ref ref") => `(tactic| refine stop_ ?_)
local macro_rules | `(tactic| walk_at "subscriptTail") => `(tactic| exists gd17, kda_item (knd := intKind _ _), "amair!")
local macro_rules | `(tactic| walk_at "subscriptTail") => `(tactic| exists gd13, lst_at, "amRor!")
theorem nameL {h₀ h : Heap} {L : Addr} {l : Led} (_N : News h₀ L h l) : ∃ z : Addr, z = L := ⟨L, rfl⟩
/-- the contract of _law_top at a height -/
def TopAt (w : World) (p : Program) (loose : List Str) (mean : ExcName → Option Value) (mg mb : Str → Option Value) (f tab : Addr) (H : Led) (fd bl : Addr) (vs : List Value) (e : Nat) (T : List Txt) (leaf : Nat → Txt) (D : Nat) (ne : Bool) (dep : Nat) : Prop :=
  ∀ {dp un : Nat} {gd : Option (List Code)} {cn : Str} {cs : Scope} {L a : Addr} {ccd : Value} {cl : List (Str × Addr)} {outer : List Env} {A₀ : Around} {base h₀ : Heap} {m : Loc} {own : Led} {s : Shared} {Q E : Value → Shared → Prop}
    {hh : Addr} {oT oH : Obj} {kT : List (Txt × Value)} {kH : List (Int × Value)} {kF : List (List Int × Value)} {q : Nat} {low dz : Int} {t t' : Tok},
    Cx w p loose mean mg mb cs outer A₀ base h₀ L m ((tab, oT) :: (bl, lstObj vs e) :: (hh, oH) :: own) s.heap → oT.IsDictOf (bytesKind PySem.Challenge.rw_lh0065_01.row.prog w) kT → TabRel kT T →
    oH.IsDictOf (intKind PySem.Challenge.rw_lh0065_01.row.prog w) kH → (hh == sysModules) = false → kH.length ≤ 1000 → (∀ q ∈ own, q.1 ≠ tab) → (∀ q ∈ H, q ∈ own) → @Ne Nat hh fd → @Ne Nat hh tab →
    FTab PySem.Challenge.rw_lh0065_01.row.prog w own fd kF → kF.length + 2 ^ (dep + 1) ≤ 500000 → HeldIs kH leaf (q * 2 ^ dep) ((q + 1) * 2 ^ dep) → Fresh kF dep q → q < 2 ^ (D - dep) → low = ((q * 2 ^ dep : Nat) : Int) → dz = ((dep : Nat) : Int) →
    (ne = true → (kH.length == 0) = false) → dp + 15 + dep < recursionLimit → un + 150 + 40 * dep < cLine →
    (∀ oT' kT' own' kF' h' tk' t', oT'.IsDictOf (bytesKind PySem.Challenge.rw_lh0065_01.row.prog w) kT' → TabRel kT' T → Fr h₀ L h' m → News h₀ L h' ((tab, oT') :: (bl, lstObj vs e) :: (hh, oH) :: own') →
      FTab PySem.Challenge.rw_lh0065_01.row.prog w own' fd kF' → FPost T leaf kF kF' dep q → (∀ p ∈ own, p.1 ≠ fd → p ∈ own') → (∀ p ∈ own', p.1 ≠ tab) → Q (.bytes (List.toArray (hT T (node T leaf dep q))) t') { s with heap := h', toks := tk' }) →
    WP w none dp un gd cn cs L a ccd cl outer (call (.ref 252) [.ref hh, .int low t, .int dz t', .ref bl, .ref f, .ref fd]) Q E s
section
variable {w : World} {p : Program} {loose : List Str} {mean : ExcName → Option Value} {mg mb : Str → Option Value} {f tab : Addr} {H : Led} {fd bl : Addr} {vs : List Value} {e : Nat} {T : List Txt} {leaf : Nat → Txt} {D : Nat}
theorem top_any {dep : Nat} (hd : dep ≤ D) (hash : HashSpec w p loose mean mg mb f tab H) (hTl : T.length < 90000) (hbt : @Ne Nat bl tab) (hHf : ∀ q ∈ H, q.1 ≠ fd) (hD : D ≤ 16) (hlf : ∀ n, (leaf n).length ≤ 64)
    (hmem : ∀ d, d ≤ D → ∀ q, q < 2 ^ (D - d) → node T leaf d q ∈ T) (hbv : ∀ j, j ≤ D → ∃ t, vs[j]? = some (Value.bytes (List.toArray (hT T (node T (fun _ => []) j 0))) t))
    (h : TopAt w p loose mean mg mb f tab H fd bl vs e T leaf D true dep) : TopAt w p loose mean mg mb f tab H fd bl vs e T leaf D false dep := by
  intro dp un gd cn cs L a ccd cl outer A₀ base h₀ m own s Q E hh oT oH kT kH kF q low dz t t' c hoT hTR hoH hhl hHz hoff hH hhf hht hFT hFz hHe hFr hq hlow hdz hne hdp hun ret
  cases hb : (kH.length == 0)
  · exact h c hoT hTR hoH hhl hHz hoff hH hhf hht hFT hFz hHe hFr hq hlow hdz (fun _ => hb) hdp hun ret
  subst hlow hdz
  obtain ⟨tb, hb0⟩ := hbv dep hd
  have hdz : dep ≤ 100000 := by omega
  obtain ⟨cB, cF, cX, cN, cT, ck⟩ := c
  obtain ⟨ckd, cnm, cig, cic, cmo⟩ := cs
  cases ck
  refine wpAny_call ?_
  k_dflt k_enter
  rename News _ _ _ _ => N9
  refine hideG fun hG => ?_
  obtain ⟨L9, e9⟩ := nameL N9
  subst e9
  refine hG ?_
  clear hG
  have hown := of_allLt (d := L9) (l := own) (by walk_at "MY conj")
  have ho1 : ∀ p ∈ own, p.1 ≠ L9 + 1 := fun p hp => Nat.ne_of_lt (Nat.lt_succ_of_lt (hown p hp))
  have ho2 : ∀ p ∈ own, p.1 ≠ L9 + 1 + 1 := fun p hp => Nat.ne_of_lt (Nat.lt_succ_of_lt (Nat.lt_succ_of_lt (hown p hp)))
  have hF9 : @LT.lt Nat _ fd L9 := hFT.lt hown
  have hem := hHe.empty (by simpa using hb)
  k_steps
  rename News _ _ _ _ => N8
  rename Fr _ _ _ _ => F8
  rw [← node_blank dep q hem]
  exact ret _ _ _ _ _ _ _ hoT hTR F8 (news_sub N8 (by walk_at "MY mems")) hFT (FPost.blank hFr hem) (fun p hp _ => hp) hoff
theorem top_zero (hash : HashSpec w p loose mean mg mb f tab H) (hTl : T.length < 90000) (hbt : @Ne Nat bl tab) (hHf : ∀ q ∈ H, q.1 ≠ fd) (hD : D ≤ 16) (hlf : ∀ n, (leaf n).length ≤ 64)
    (hmem : ∀ d, d ≤ D → ∀ q, q < 2 ^ (D - d) → node T leaf d q ∈ T) (hbv : ∀ j, j ≤ D → ∃ t, vs[j]? = some (Value.bytes (List.toArray (hT T (node T (fun _ => []) j 0))) t)) :
    TopAt w p loose mean mg mb f tab H fd bl vs e T leaf D true 0 := by
  intro dp un gd cn cs L a ccd cl outer A₀ base h₀ m own s Q E hh oT oH kT kH kF q low dz t t' c hoT hTR hoH hhl hHz hoff hH hhf hht hFT hFz hHe hFr hq hlow hdz hne hdp hun ret
  have hb := hne rfl
  subst hlow hdz
  have hx := hlf q
  have hnm := hmem 0 (Nat.zero_le _) q hq
  obtain ⟨t0, hv0⟩ := hHe.one hb
  have hnm : leaf q ∈ T := hnm
  obtain ⟨cB, cF, cX, cN, cT, ck⟩ := c
  obtain ⟨ckd, cnm, cig, cic, cmo⟩ := cs
  cases ck
  refine wpAny_call ?_
  k_dflt k_enter
  rename News _ _ _ _ => N9
  refine hideG fun hG => ?_
  obtain ⟨L9, e9⟩ := nameL N9
  subst e9
  refine hG ?_
  clear hG
  have hown := of_allLt (d := L9) (l := own) (by walk_at "MY conj")
  have ho1 : ∀ p ∈ own, p.1 ≠ L9 + 1 := fun p hp => Nat.ne_of_lt (Nat.lt_succ_of_lt (hown p hp))
  have ho2 : ∀ p ∈ own, p.1 ≠ L9 + 1 + 1 := fun p hp => Nat.ne_of_lt (Nat.lt_succ_of_lt (Nat.lt_succ_of_lt (hown p hp)))
  have hF9 : @LT.lt Nat _ fd L9 := hFT.lt hown
  k_steps
  refine go_ ?_
  rename News _ _ _ _ => N8
  rename Fr _ _ _ _ => F8
  refine hideG fun hG => ?_
  obtain ⟨tp, e9⟩ := name1 N8
  subst e9
  refine hG ?_
  clear hG
  rename TabRel _ _ => hT8
  rename Obj.IsDictOf _ _ _ => ho8
  rw [addT_of_mem hnm] at hT8 F8 ⊢
  have N7 := news_sub N8 (r := [(tp, tupObj [_, _]), (tab, _), (bl, lstObj vs e), (hh, oH)] ++ own) (by walk_at "MY mems")
  refine ftab_set F8 N7 hFT (.head _) ?f1 ?f2 (by omega) ?_
  case f1 =>
    refine ne_cons ?_ (ne_cons (Ne.symm (hFT.neq hoff)) (ne_cons ?_ (ne_cons hhf ne_nil)))
    · exact hFT.ne N7 (fun q hq => List.mem_append_right _ hq) (.head _) (by intro e; injection e with e2; exact absurd e2 (by decide))
    · exact hFT.ne N7 (fun q hq => List.mem_append_right _ hq) (.tail _ (.tail _ (.head _))) (by intro e; injection e with e2; exact absurd e2 (by decide))
  case f2 => k_units
  clear N7 N8 F8
  intro h9 own9 k9 F8 N8 FT9 src9 keep9
  have htp : @Ne Nat tp tab := by omega
  simp only [List.cons_append, List.nil_append] at N8
  k_steps
  rename News _ _ _ _ => N8
  rename Fr _ _ _ _ => F8
  refine ret _ _ ((tp, tupObj [_, _]) :: own9) _ _ _ _ ho8 hT8 F8 (news_sub N8 (by walk_at "MY mems")) FT9 (FPost.leaf _) (fun p hp hne => .tail _ (keep9 p hp hne)) (ne_cons htp fun q hq => ?_)
  obtain ⟨p, hp, e⟩ := src9 q hq
  rw [e]; exact hoff p hp
end
end
theorem flush6 : True := by first | walk1 | trivial
section
local macro_rules | `(tactic| omega) => `(tactic| first | walk_at "MY om" | omega +splitDisjunctions)
local macro_rules | `(tactic| walk_at "newTuple") => `(tactic| exists newTup, "aak/d")
local macro_rules | `(tactic| walk_at "exec Assign cons DictComp") => `(tactic| refine stop_ ?_)
local macro_rules | `(tactic| walk_at "call ref") => `(tactic| exists st1)
local macro_rules | `(tactic| walk_at "setItem ref ref") => `(tactic| refine stop_ ?_)
local macro_rules | `(tactic| walk_at "subscriptTail") => `(tactic| exists gd17, kda_item (knd := intKind _ _), "amair!")
local macro_rules | `(tactic| walk_at "subscriptTail") => `(tactic| exists gd13, lst_at, "amRor!")
section
variable {w : World} {p : Program} {loose : List Str} {mean : ExcName → Option Value} {mg mb : Str → Option Value} {f tab : Addr} {H : Led} {fd bl : Addr} {vs : List Value} {e : Nat} {T : List Txt} {leaf : Nat → Txt} {D : Nat}
theorem top_succ {n : Nat} (hn : n + 1 ≤ D) (hash : HashSpec w p loose mean mg mb f tab H) (hTl : T.length < 90000) (hbt : @Ne Nat bl tab) (hHf : ∀ q ∈ H, q.1 ≠ fd) (hD : D ≤ 16) (hlf : ∀ n, (leaf n).length ≤ 64)
    (hmem : ∀ d, d ≤ D → ∀ q, q < 2 ^ (D - d) → node T leaf d q ∈ T) (hbv : ∀ j, j ≤ D → ∃ t, vs[j]? = some (Value.bytes (List.toArray (hT T (node T (fun _ => []) j 0))) t))
    (ih : TopAt w p loose mean mg mb f tab H fd bl vs e T leaf D false n) : TopAt w p loose mean mg mb f tab H fd bl vs e T leaf D true (n + 1) := by
  intro dp un gd cn cs L a ccd cl outer A₀ base h₀ m own s Q E hh oT oH kT kH kF q low dz t t' c hoT hTR hoH hhl hHz hoff hH hhf hht hFT hFz hHe hFr hq hlow hdz hne hdp hun ret
  have hb := hne rfl
  subst hlow hdz
  have hdz : n ≤ 16 := by omega
  have hnm := hmem (n + 1) hn q hq
  have hq1 : 2 ^ (D - n) = 2 * 2 ^ (D - (n + 1)) := by
    have : D - n = (D - (n + 1)) + 1 := by omega
    rw [this, Nat.pow_succ, Nat.mul_comm]
  have hmid : ((q * 2 ^ (n + 1) : Nat) : Int) + 2 ^ (((n + 1 : Nat) : Int) - 1).toNat = (((2 * q + 1) * 2 ^ n : Nat) : Int) := by
    have e1 : (((n + 1 : Nat) : Int) - 1).toNat = n := by omega
    have e2 : (2 * q + 1) * 2 ^ n = q * 2 ^ (n + 1) + 2 ^ n := by
      rw [Nat.pow_succ, Nat.add_mul, Nat.one_mul, Nat.mul_comm (2 ^ n) 2, ← Nat.mul_assoc, Nat.mul_comm q 2]
    rw [e1, e2]; push_cast; rfl
  have hlo0 : ((q * 2 ^ (n + 1) : Nat) : Int) = ((2 * q * 2 ^ n : Nat) : Int) := by
    have : q * 2 ^ (n + 1) = 2 * q * 2 ^ n := by rw [Nat.pow_succ, Nat.mul_comm (2 ^ n) 2, ← Nat.mul_assoc, Nat.mul_comm q 2]
    rw [this]
  have hde1 : ((n + 1 : Nat) : Int) - 1 = ((n : Nat) : Int) := by omega
  have hdp1 : dp + 15 < recursionLimit := Nat.lt_of_le_of_lt (Nat.le_add_right _ _) hdp
  have hun1 : un + 150 < cLine := Nat.lt_of_le_of_lt (Nat.le_add_right _ _) hun
  obtain ⟨cB, cF, cX, cN, cT, ck⟩ := c
  obtain ⟨ckd, cnm, cig, cic, cmo⟩ := cs
  cases ck
  refine wpAny_call ?_
  k_dflt k_enter
  rename News _ _ _ _ => N9
  refine hideG fun hG => ?_
  obtain ⟨L9, e9⟩ := nameL N9
  subst e9
  refine hG ?_
  clear hG
  have hown := of_allLt (d := L9) (l := own) (by walk_at "MY conj")
  have ho1 : ∀ p ∈ own, p.1 ≠ L9 + 1 := fun p hp => Nat.ne_of_lt (Nat.lt_succ_of_lt (hown p hp))
  have ho2 : ∀ p ∈ own, p.1 ≠ L9 + 1 + 1 := fun p hp => Nat.ne_of_lt (Nat.lt_succ_of_lt (Nat.lt_succ_of_lt (hown p hp)))
  have hF9 : @LT.lt Nat _ fd L9 := hFT.lt hown
  k_steps
  refine go_ ?_
  rename News _ _ _ _ => N8
  rename Fr _ _ _ _ => F8
  refine' held_comp (hh := hh) (test := fun k => decide (k < ((q * 2 ^ (n + 1) : Nat) : Int) + 2 ^ (((n + 1 : Nat) : Int) - 1).toNat)) rfl (Top.nolimit (by with_reducible assumption)) F8 N8 ?pH hoH hhl ?pch ?hoh ?pcm ?hom rfl rfl ?hcell rfl ?hnames rfl rfl rfl rfl rfl rfl rfl rfl (fun _ => rfl) (fun _ => rfl) ?hop ?hmk hHz ?_
  case pH => k_mem
  case pch => k_mem
  case hoh => k_asm
  case pcm => k_mem
  case hom => k_asm
  case hcell => decide
  case hnames => decide
  case hop => exact fun k A E s Q t u h => PyProof.Rows.lt_int h
  case hmk => rfl
  intro D1 h9 oD1 kD1 tk9 F8 N8 hoD1 hlo1 hlt1 hv1 hl1
  have hd1 := hHe.left hmid (by
    rw [Nat.pow_succ, Nat.mul_comm (2 ^ n) 2, ← Nat.mul_assoc]; exact Nat.mul_le_mul_right _ (by omega)) hv1
  k_lt hlt1
  dsimp only
  k_steps
  refine go_ ?_
  rename News _ _ _ _ => N8
  rename Fr _ _ _ _ => F8
  refine' held_comp (hh := hh) (test := fun k => decide (((q * 2 ^ (n + 1) : Nat) : Int) + 2 ^ (((n + 1 : Nat) : Int) - 1).toNat ≤ k)) rfl (Top.nolimit (by with_reducible assumption)) F8 N8 ?pH hoH hhl ?pch ?hoh ?pcm ?hom rfl rfl ?hcell rfl ?hnames rfl rfl rfl rfl rfl rfl rfl rfl (fun _ => rfl) (fun _ => rfl) ?hop ?hmk hHz ?_
  case pH => k_mem
  case pch => k_mem
  case hoh => k_asm
  case pcm => k_mem
  case hom => k_asm
  case hcell => decide
  case hnames => decide
  case hop => exact fun k A E s Q t u h => PyProof.Rows.ge_int h
  case hmk => rfl
  intro D2 h9 oD2 kD2 tk9 F8 N8 hoD2 hlo2 hlt2 hv2 hl2
  have hd2 := hHe.right hmid (by
    rw [Nat.pow_succ, Nat.mul_comm (2 ^ n) 2, ← Nat.mul_assoc]; exact Nat.mul_le_mul_right _ (by omega)) hv2
  k_lt hlt2
  dsimp only
  k_steps
  refine go_ ?_
  rename News _ _ _ _ => N8
  rename Fr _ _ _ _ => F8
  refine hideG fun hG => ?_
  obtain ⟨dd, e9⟩ := name3 N8
  subst e9
  refine hG ?_
  clear hG
  have hp2 : 2 ^ (n + 1 + 1) = 2 * 2 ^ (n + 1) := by rw [Nat.pow_succ, Nat.mul_comm]
  have hq2 : 2 * q + 1 < 2 ^ (D - n) := by rw [hq1]; omega
  have hL1 : @Ne Nat (L9 + 1) fd := by omega
  have hL2 : @Ne Nat (L9 + 1 + 1) fd := by omega
  have hDf1 : @Ne Nat D1 fd := by omega
  have hDf2 : @Ne Nat D2 fd := by omega
  have hDt1 : @Ne Nat D1 tab := by omega
  have hDt2 : @Ne Nat D2 tab := by omega
  have N7 := news_sub N8 (r := (tab, oT) :: (bl, lstObj vs e) :: (D1, oD1) :: (D2, oD2) :: (L9 + 1 + 1, _) :: (L9 + 1, _) :: (hh, oH) :: own) (by walk_at "MY mems")
  have hd1' : HeldIs kD1 leaf (2 * q * 2 ^ n) ((2 * q + 1) * 2 ^ n) := by rw [← Int.ofNat.inj hlo0]; exact hd1
  have hd2' : HeldIs kD2 leaf ((2 * q + 1) * 2 ^ n) ((2 * q + 1 + 1) * 2 ^ n) := by
    have : (2 * q + 1 + 1) * 2 ^ n = (q + 1) * 2 ^ (n + 1) := by
      rw [Nat.pow_succ, Nat.mul_comm (2 ^ n) 2, ← Nat.mul_assoc, Nat.mul_comm (q + 1) 2]
      exact congrArg (· * 2 ^ n) (by omega)
    rw [this]; exact hd2
  k_here
  k_dflt (refine' ih (q := 2 * q) ⟨?k1, F8, ?k3, N7, ?k5, rfl⟩ hoT hTR hoD1 hlo1 ?z1 ?z2 ?z3 hDf1 hDt1 (hFT.mono ?z6) ?z7 hd1' hFr.left ?z8 hlo0 hde1 ?z9 ?z10 ?z11 ?_)
  case k1 => k_asm
  case k3 => k_asm
  case k5 => k_asm
  case z1 => omega
  case z2 => exact ne_cons hDt2 (ne_cons (by omega) (ne_cons (by omega) (ne_cons hht hoff)))
  case z3 => walk_at "MY sub"
  case z6 => walk_at "MY sub"
  case z7 => omega
  case z8 => omega
  case z9 => exact fun h => nomatch h
  case z10 => k_room
  case z11 => k_units
  intro oT1 kT1 own1 kF1 h9 tk9 tv9 hoT1 hTR1 F8 N8 FT1 FP1 keep1 off1
  have N7 := news_sub N8 (r := (tab, oT1) :: (bl, lstObj vs e) :: (D1, oD1) :: (D2, oD2) :: (L9 + 1 + 1, _) :: (L9 + 1, _) :: (hh, oH) :: own1)
    (mems_cons (.head _) (mems_cons (.tail _ (.head _)) (mems_cons (.tail _ (.tail _ (.head _))) (mems_cons (.tail _ (.tail _ (.tail _ (keep1 _ (.head _) hDf2)))) (mems_cons (.tail _ (.tail _ (.tail _ (keep1 _ (.tail _ (.head _)) hL2)))) (mems_cons (.tail _ (.tail _ (.tail _ (keep1 _ (.tail _ (.tail _ (.head _))) hL1))))
      (mems_cons (.tail _ (.tail _ (.tail _ (keep1 _ (.tail _ (.tail _ (.tail _ (.head _)))) hhf)))) (fun q h => .tail _ (.tail _ (.tail _ h))))))))))
  have hH1 : ∀ q ∈ H, q ∈ own1 := fun q hq => keep1 q (.tail _ (.tail _ (.tail _ (.tail _ (hH q hq))))) (hHf q hq)
  clear N8
  k_steps
  refine go_ ?_
  rename News _ _ _ _ => N8
  rename Fr _ _ _ _ => F8
  have hz1 := FP1.2.2
  k_here
  k_dflt (refine' ih (q := 2 * q + 1) (own := (D1, oD1) :: (hh, oH) :: own1) ⟨?k1, F8, ?k3, news_sub N8 ?ns, ?k5, rfl⟩ hoT1 hTR1 hoD2 hlo2 ?z1 ?z2 ?z3 hDf2 hDt2 (FT1.mono ?z6) ?z7 hd2' (hFr.right FP1) ?z8 hmid hde1 ?z9 ?z10 ?z11 ?_)
  case k1 => k_asm
  case k3 => k_asm
  case k5 => k_asm
  case ns => walk_at "MY mems"
  case z1 => omega
  case z2 => exact ne_cons hDt1 (ne_cons hht off1)
  case z3 => walk_at "MY sub"
  case z6 => walk_at "MY sub"
  case z7 => omega
  case z8 => omega
  case z9 => exact fun h => nomatch h
  case z10 => k_room
  case z11 => k_units
  intro oT2 kT2 own2 kF2 h9 tk9 tv9 hoT2 hTR2 F8 N8 FT2 FP2 keep2 off2
  have N7 := news_sub N8 (r := (tab, oT2) :: (bl, lstObj vs e) :: (hh, oH) :: own2)
    (mems_cons (.head _) (mems_cons (.tail _ (.head _)) (mems_cons (.tail _ (.tail _ (.tail _ (keep2 _ (.tail _ (.head _)) hhf)))) (fun q h => .tail _ (.tail _ (.tail _ h))))))
  have hH2 : ∀ q ∈ H, q ∈ own2 := fun q hq => keep2 q (.tail _ (.tail _ (hH1 q hq))) (hHf q hq)
  have hz2 := FP2.2.2
  clear N8
  k_steps
  refine go_ ?_
  rename News _ _ _ _ => N8
  rename Fr _ _ _ _ => F8
  refine hideG fun hG => ?_
  obtain ⟨tp, e9⟩ := name1 N8
  subst e9
  refine hG ?_
  clear hG
  rename TabRel _ _ => hT8
  rename Obj.IsDictOf _ _ _ => ho8
  have hnm' : hT T (node T leaf n (2 * q)) ++ hT T (node T leaf n (2 * q + 1)) ∈ T := hnm
  rw [addT_of_mem hnm'] at hT8 F8 ⊢
  have N6 := news_sub N8 (r := [(tp, tupObj [_, _]), (tab, _), (bl, lstObj vs e), (hh, oH)] ++ own2) (by walk_at "MY mems")
  refine ftab_set F8 N6 FT2 (.head _) ?f1 ?f2 (by omega) ?_
  case f1 =>
    refine ne_cons ?_ (ne_cons (Ne.symm (FT2.neq off2)) (ne_cons ?_ (ne_cons hhf ne_nil)))
    · exact FT2.ne N6 (fun q hq => List.mem_append_right _ hq) (.head _) (by intro e; injection e with e2; exact absurd e2 (by decide))
    · exact FT2.ne N6 (fun q hq => List.mem_append_right _ hq) (.tail _ (.tail _ (.head _))) (by intro e; injection e with e2; exact absurd e2 (by decide))
  case f2 => k_units
  clear N6 N7 N8 F8
  intro h9 own9 k9 F8 N8 FT9 src9 keep9
  have htp : @Ne Nat tp tab := by omega
  simp only [List.cons_append, List.nil_append] at N8
  k_steps
  rename News _ _ _ _ => N8
  rename Fr _ _ _ _ => F8
  refine ret _ _ ((tp, tupObj [_, _]) :: own9) _ _ _ _ ho8 hT8 F8 (news_sub N8 (by walk_at "MY mems")) FT9 (FP1.step FP2 _) (fun p hp hne => .tail _ (keep9 p (keep2 p (.tail _ (.tail _ (keep1 p (.tail _ (.tail _ (.tail _ (.tail _ hp)))) hne))) hne) hne)) (ne_cons htp fun q hq => ?_)
  obtain ⟨p, hp, e⟩ := src9 q hq
  rw [e]; exact off2 p hp
theorem top_all (hash : HashSpec w p loose mean mg mb f tab H) (hTl : T.length < 90000) (hbt : @Ne Nat bl tab) (hHf : ∀ q ∈ H, q.1 ≠ fd) (hD : D ≤ 16) (hlf : ∀ n, (leaf n).length ≤ 64)
    (hmem : ∀ d, d ≤ D → ∀ q, q < 2 ^ (D - d) → node T leaf d q ∈ T) (hbv : ∀ j, j ≤ D → ∃ t, vs[j]? = some (Value.bytes (List.toArray (hT T (node T (fun _ => []) j 0))) t)) : ∀ n, n ≤ D → TopAt w p loose mean mg mb f tab H fd bl vs e T leaf D false n
  | 0, h => top_any h hash hTl hbt hHf hD hlf hmem hbv (top_zero hash hTl hbt hHf hD hlf hmem hbv)
  | n + 1, h => top_any h hash hTl hbt hHf hD hlf hmem hbv (top_succ h hash hTl hbt hHf hD hlf hmem hbv (top_all hash hTl hbt hHf hD hlf hmem hbv n (by omega)))
end
end
theorem flush7 : True := by first | walk1 | trivial
local macro_rules | `(tactic| walk_at "binaryOp Pow int int") => `(tactic| exists gd18, pow_nat, "o!")
local macro_rules | `(tactic| walk_at "binaryOp FloorDiv int int") => `(tactic| exists gd19, fdiv_nat, "rr!")
local macro_rules | `(tactic| walk_at "binaryOp Mod int int") => `(tactic| exists gd20, mod_two, "!")
local macro_rules | `(tactic| walk_at "binaryOp Mult int int") => `(tactic| exists gd19, mul_nat, "rr!")
local macro_rules | `(tactic| walk_at "binaryOp Add int int") => `(tactic| exists gd19, add_nat, "!")
local macro_rules | `(tactic| walk_at "binaryOp Sub int int") => `(tactic| exists gd19, sub_nat, "r!")
local macro_rules | `(tactic| walk_at "newTuple") => `(tactic| exists newTup, "aak/d")
local macro_rules | `(tactic| walk_at "subscriptTail") => `(tactic| exists gd13, lst_at, "amRor!")
local macro_rules | `(tactic| walk_at "getMethod ref") => `(tactic| exists gdM, ftab_meth, "ars!")
local macro_rules | `(tactic| walk_at "call builtin:dict.get") => `(tactic| exists gdD, ftab_get, "arsmuR!/1")
section
local macro_rules | `(tactic| omega) => `(tactic| first | walk_at "MY om" | omega +splitDisjunctions)
local macro_rules | `(tactic| walk_at "eval IfExp") => `(tactic| refine stop_ ?_)
inductive WaysInv (lb lo : Addr) (rest : Led) (f : Nat → Txt) (i : Nat) : List (Str × Value) → Led → Prop
  | mk {v1 v2 : List Value} {e1 e2 : Nat} (h1 : v1.length = i) (h2 : v2.length = i) (h3 : TxtsAre v2 ((List.range i).map f)) : WaysInv lb lo rest f i [] ((lb, lstObj v2 e2) :: (lo, lstObj v1 e1) :: rest)
theorem cut_int {M : Model} {A : Around} {α : Sem Value} {P : Value → Shared → Prop} {E : Value → Shared → Prop} {s : Shared} (z : Nat) (h1 : wpAny M A α (fun v s' => Stop (∃ t' tk, v = .int (z : Int) t' ∧ s' = { s with toks := tk })) E s) (h2 : ∀ t' tk, P (.int (z : Int) t') { s with toks := tk }) : wpAny M A α P E s :=
  wpAny_mono h1 (fun v s' h => by obtain ⟨t', tk, rfl, rfl⟩ := h; exact h2 t' tk) (fun _ _ h => h)
section
variable {w : World} {p : Program} {loose : List Str} {mean : ExcName → Option Value} {mg mb : Str → Option Value} {dp un : Nat} {gd : Option (List Code)} {cn : Str} {cs : Scope} {a : Addr} {ccd : Value} {cl : List (Str × Addr)} {outer : List Env}
  {A₀ : Around} {base h₀ : Heap} {L : Addr} {m : Loc} {own : Led} {s : Shared} {Q E : Value → Shared → Prop}
theorem fhas_val {kF : List (List Int × Value)} {T : List Txt} {leaf : Nat → Txt} {d p z : Nat} {tb : Tok} (h : FHas T leaf kF d p) (hz : z = p * 2 ^ d) :
    ∃ t, (valueAt kF [((z : Nat) : Int), ((d : Nat) : Int)]).getD (Value.bytes (List.toArray (hT T (node T (fun _ => []) d 0))) tb) = Value.bytes (List.toArray (hT T (node T leaf d p))) t := by
  subst hz
  rcases h with ⟨t, h⟩ | ⟨h, hb⟩
  · exact ⟨t, by rw [h]; rfl⟩
  · exact ⟨tb, by rw [h, node_blank d p hb]; rfl⟩
theorem ways_spec {fd bl : Addr} {bvs : List Value} {be : Nat} {kF : List (List Int × Value)} {T : List Txt} {leaf : Nat → Txt} {d k : Nat} {t t' : Tok}
    (c : Cx w p loose mean mg mb cs outer A₀ base h₀ L m ((bl, lstObj bvs be) :: own) s.heap) (hFT : FTab PySem.Challenge.rw_lh0065_01.row.prog w own fd kF)
    (hd : d ≤ 16) (hk : k < 100000) (hbv : ∀ j, j ≤ d → ∃ t, bvs[j]? = some (Value.bytes (List.toArray (hT T (node T (fun _ => []) j 0))) t)) (hFH : ∀ b, b < d → FHas T leaf kF b (flip1 (k / 2 ^ b)))
    (hdp : dp + 15 < recursionLimit) (hun : un + 150 < cLine)
    (ret : ∀ r t1 t2 vs2 h' tk', Fr h₀ L h' m → News h₀ L h' ((r, tupObj [.ref t1, .ref t2]) :: (t2, tupObj vs2) :: (bl, lstObj bvs be) :: own) → TxtsAre vs2 (sibs T leaf d k) → (∀ q ∈ own, q.1 < t2) → @LT.lt Nat _ t2 r → @LT.lt Nat _ bl t2 → Q (.ref r) { s with heap := h', toks := tk' }) :
    WP w none dp un gd cn cs L a ccd cl outer (call (.ref 259) [.ref fd, .int (k : Int) t, .int (d : Int) t', .ref bl]) Q E s := by
  obtain ⟨cB, cF, cX, cN, cT, ck⟩ := c
  refine wpAny_call ?_
  k_dflt ktr_enter
  k_steps
  rename_i lo _ _ _ _ lb _ _ _ _ _ _ _ _ _ _ hr9 F9 N9 _
  refine' loop_down (n := d) (news := (lb, lstObj [] 0) :: (lo, lstObj [] 0) :: (bl, lstObj bvs be) :: own)
    [Str.ofString "below", Str.ofString "low", Str.ofString "other"] []
    (WaysInv lb lo ((bl, lstObj bvs be) :: own) fun j => hT T (node T leaf (d - 1 - j) (flip1 (k / 2 ^ (d - 1 - j)))))
    rfl hr9 rfl (by omega) F9 N9 ?n3 ?h0 ?turn ?done
  case n3 => walk_at "MY vals"
  case h0 => exact .mk rfl rfl ⟨rfl, by intro i v h; simp at h⟩
  case turn =>
    clear F9 N9 hr9
    intro i ti vals u news₁ h9 tk9 own9 hi hR _ hown F1 N1
    show wpAny _ _ _ _ _ _
    k_fold
    refine hideG fun hG => ?_
    obtain @⟨v1, v2, e1, e2, hv1, hv2, hvs⟩ := hR
    refine hG ?_
    clear hG
    simp only [List.cons_append] at N1
    have hs1 : ∀ q ∈ own, q ∈ own ++ own9 := fun q h => List.mem_append_left _ h
    have hs2 : ∀ q ∈ own9, q ∈ own ++ own9 := fun q h => List.mem_append_right _ h
    have ho1 : ∀ p ∈ own ++ own9, p.1 ≠ lb := ne_app (by k_all) (fun p hp => hown p hp (lb, lstObj [] 0) (.head _))
    have ho2 : ∀ p ∈ own ++ own9, p.1 ≠ lo := ne_app (by k_all) (fun p hp => hown p hp (lo, lstObj [] 0) (.tail _ (.head _)))
    have hFT9 := hFT.mono (r := own ++ own9) (fun q hq => List.mem_append_left _ hq)
    generalize own ++ own9 = own8 at N1 ho1 ho2 hs1 hs2 hFT9
    have hra := range_app (fun j => hT T (node T leaf (d - 1 - j) (flip1 (k / 2 ^ (d - 1 - j))))) i
    refine hideG fun hG => ?_
    obtain ⟨tb, hbb⟩ := hbv (d - 1 - i) (by omega)
    refine hG ?_
    clear hG
    have hfh := hFH (d - 1 - i) (by omega)
    have hbz : d - 1 - i ≤ 16 := by omega
    generalize d - 1 - i = b at hra hbb hfh F1 hbz
    have hp0 : 0 < 2 ^ b := Nat.pos_of_ne_zero (by simp)
    have hp1 : 2 ^ b < 1073741824 := Nat.lt_of_le_of_lt (Nat.pow_le_pow_right (by decide) hbz) (by decide)
    have hx1 : k / 2 ^ b < 1073741824 := Nat.lt_of_le_of_lt (Nat.div_le_self _ _) (by omega)
    refine hideG fun hG => ?_
    obtain ⟨tv, hval⟩ := fhas_val (tb := tb) (z := flip1 (k / 2 ^ b) * 2 ^ b) hfh rfl
    refine hG ?_
    clear hG
    k_steps
    refine go_ ?_
    refine cut_int (flip1 (k / 2 ^ b) * 2 ^ b) ?_ ?_
    · rcases Nat.mod_two_eq_zero_or_one (k / 2 ^ b) with hpar | hpar
      · have hfl : flip1 (k / 2 ^ b) = k / 2 ^ b + 1 := by unfold flip1; rw [if_neg (by omega)]
        refine IfExp_ ?_
        k_steps
        exact go_ ⟨_, _, by rw [hfl, Nat.add_mul, Nat.one_mul], rfl⟩
      · have hfl : flip1 (k / 2 ^ b) = k / 2 ^ b - 1 := by unfold flip1; rw [if_pos hpar]
        have hsub : 2 ^ b ≤ k / 2 ^ b * 2 ^ b := by
          have : 1 ≤ k / 2 ^ b := Nat.pos_of_ne_zero (fun e => by rw [e] at hpar; cases hpar)
          calc 2 ^ b = 1 * 2 ^ b := by rw [Nat.one_mul]
            _ ≤ k / 2 ^ b * 2 ^ b := Nat.mul_le_mul_right _ this
        refine IfExp_ ?_
        k_steps
        exact go_ ⟨_, _, by rw [hfl, Nat.sub_mul, Nat.one_mul], rfl⟩
    intro _ _
    k_steps
    refine go_ ?_
    rename Fr _ _ _ _ => F8
    rename News _ _ _ _ => N8
    rw [hval] at N8
    refine' TurnEnd.intro F8 N8 ⟨[], .mk ?i1 ?i2 ?i3, ?e2, ?e3⟩ ?e8 ?e4 ?e5
    case e4 => walk_at "MY mems"
    case e8 => rfl
    case i1 => rw [List.length_append, hv1]; rfl
    case i2 => rw [List.length_append, hv2]; rfl
    case i3 => rw [hra]; exact hvs.app
    case e2 => walk_at "MY vals"
    case e3 => walk_at "MY agree"
    case e5 => walk_at "MY mems"
  case done =>
    clear F9 N9 hr9
    intro vals u news₁ h9 tk9 hR _ F1 N1
    refine hideG fun hG => ?_
    obtain @⟨v1, v2, e1, e2, hv1, hv2, hvs⟩ := hR
    refine hG ?_
    clear hG
    k_steps
    rename Fr _ _ _ _ => F8
    rename News _ _ _ _ => N8
    refine hideG fun hG => ?_
    obtain ⟨r9, e9⟩ := name1 N8
    subst e9
    obtain ⟨t9, e9⟩ := name2 N8
    subst e9
    refine hG ?_
    clear hG
    have hlt := of_allLt (d := t9) (l := own) (by walk_at "MY conj")
    exact ret _ _ _ _ _ _ F8 (news_sub N8 (by walk_at "MY mems")) hvs hlt (by omega) (by omega)
end
end
theorem flush8 : True := by first | walk1 | trivial
section
theorem bnode_const (T : List Txt) (k p : Nat) : node T (fun _ => []) k p = node T (fun _ => []) k 0 := node_blank k p (fun _ _ _ => rfl)
section
variable {T T' : List Txt} {D : Nat}
theorem ist_pre (T : List Txt) (i : Nat) : ∀ k, (ist T i).1 <+: (ist T (i + k)).1
  | 0 => List.prefix_refl _
  | k + 1 => (ist_pre T i k).trans (addT_pre _ _)
theorem ist_node : ∀ j, j ≤ D → (ist T j).2 = node (ist T (D + 1)).1 (fun _ => []) j 0
  | 0, _ => rfl
  | j + 1, h => by
    have ih := ist_node j (by omega +splitDisjunctions)
    have hp : (addT (ist T j).1 (ist T j).2) <+: (ist T (D + 1)).1 := by
      have := ist_pre T (j + 1) (D - j)
      have e : j + 1 + (D - j) = D + 1 := by omega +splitDisjunctions
      rw [e] at this; exact this
    show hT (addT (ist T j).1 (ist T j).2) (ist T j).2 ++ hT (addT (ist T j).1 (ist T j).2) (ist T j).2 = hT _ (node _ _ j (2 * 0)) ++ hT _ (node _ _ j (2 * 0 + 1))
    rw [bnode_const _ j (2 * 0), bnode_const _ j (2 * 0 + 1), ← ih, hT_pre hp (mem_addT _ _)]
theorem ist_ok {kD : List (Txt × Value)} (h : IstGrown T (D + 1) kD) : TreeOk kD (ist T (D + 1)).1 (fun _ => []) D := by
  intro k hk p _
  rw [bnode_const, ← ist_node k hk]
  exact h.1 k (by omega +splitDisjunctions)
theorem ist_root : ig T D = hT (ist T (D + 1)).1 (node (ist T (D + 1)).1 (fun _ => []) D 0) := by
  rw [← ist_node D (Nat.le_refl _)]
  exact (hT_pre (List.prefix_refl _) (mem_addT _ _)).symm
theorem blank_grow (h : NodesIn T (fun _ => []) D) (hp : T <+: T') : NodesIn T' (fun _ => []) D := fun k hk p hpl => by
  rw [node_same hp h k hk p hpl (fun _ _ => rfl)]
  exact pre_mem hp (h k hk p hpl)
theorem bst_same (h : NodesIn T (fun _ => []) D) : ∀ j, j ≤ D → bst T j = (T, hT T (node T (fun _ => []) j 0))
  | 0, hj => by
    have hm := h 0 hj 0 (pow2_pos _)
    show (addT T [], hT (addT T []) []) = (T, hT T [])
    rw [addT_of_mem (show [] ∈ T from hm)]
  | j + 1, hj => by
    have ih := bst_same h j (by omega +splitDisjunctions)
    have hm := h (j + 1) hj 0 (pow2_pos _)
    have e : node T (fun _ => []) (j + 1) 0 = hT T (node T (fun _ => []) j 0) ++ hT T (node T (fun _ => []) j 0) := by
      show hT T (node T (fun _ => []) j (2 * 0)) ++ hT T (node T (fun _ => []) j (2 * 0 + 1)) = _
      rw [bnode_const T j (2 * 0), bnode_const T j (2 * 0 + 1)]
    rw [e] at hm
    show (addT (bst T j).1 ((bst T j).2 ++ (bst T j).2), hT (addT (bst T j).1 ((bst T j).2 ++ (bst T j).2)) ((bst T j).2 ++ (bst T j).2)) = _
    rw [ih, e]
    show (addT T _, hT (addT T _) _) = _
    rw [addT_of_mem hm]
variable {leaf : Nat → Txt} {mine : Nat}
theorem node_path (T : List Txt) (leaf : Nat → Txt) (j q : Nat) : node T leaf (j + 1) (q / 2) = comb (q % 2) 0 (hT T (node T leaf j (flip1 q))) (hT T (node T leaf j q)) := by
  show hT T (node T leaf j (2 * (q / 2))) ++ hT T (node T leaf j (2 * (q / 2) + 1)) = _
  unfold comb
  rcases Nat.mod_two_eq_zero_or_one q with h | h
  · have a : 2 * (q / 2) + 1 = flip1 q := by unfold flip1; rw [if_neg (by omega +splitDisjunctions)]; omega +splitDisjunctions
    have b : 2 * (q / 2) = q := by omega +splitDisjunctions
    rw [h, a, b]; rfl
  · have a : 2 * (q / 2) = flip1 q := by unfold flip1; rw [if_pos h]; omega +splitDisjunctions
    have b : 2 * (q / 2) + 1 = q := by omega +splitDisjunctions
    rw [h, b, a]; rfl
theorem comb_bit (n j : Nat) (a b : Txt) : comb n j a b = comb (n / 2 ^ j % 2) 0 a b := by
  unfold comb
  rw [testBit_div]
  rcases Nat.mod_two_eq_zero_or_one (n / 2 ^ j) with h | h <;> rw [h] <;> rfl
theorem comb_inj {z : Nat} {a b a' b' : Txt} (h1 : a.length = 32) (h2 : b.length = 32) (h3 : a'.length = 32) (h4 : b'.length = 32) (h : comb z 0 a b = comb z 0 a' b') : a = a' ∧ b = b' := by
  unfold comb at h
  split at h
  · exact List.append_inj h (by rw [h1, h3])
  · exact (List.append_inj h (by rw [h2, h4])).symm
theorem cst_eq (path : Nat) (bs : List Txt) (T₀ : List Txt) (g₀ : Txt) (i : Nat) : cst path bs T₀ g₀ (i + 1) = (addT (cst path bs T₀ g₀ i).1 (comb path i (bs.getD (bs.length - 1 - i) []) (cst path bs T₀ g₀ i).2), hT (addT (cst path bs T₀ g₀ i).1 (comb path i (bs.getD (bs.length - 1 - i) []) (cst path bs T₀ g₀ i).2)) (comb path i (bs.getD (bs.length - 1 - i) []) (cst path bs T₀ g₀ i).2)) := rfl
theorem sibs_at {i : Nat} (hi : i < D) : (sibs T leaf D mine).getD (D - 1 - i) [] = hT T (node T leaf i (flip1 (mine / 2 ^ i))) := by
  rw [sibs_get (by omega +splitDisjunctions)]
  have e : D - 1 - (D - 1 - i) = i := by omega +splitDisjunctions
  rw [e]
theorem calc_own (hin : NodesIn T leaf D) (hm : mine < 2 ^ D) : ∀ j, j ≤ D → cst mine (sibs T leaf D mine) (addT T (leaf mine)) (hT (addT T (leaf mine)) (leaf mine)) j = (T, hT T (node T leaf j (mine / 2 ^ j)))
  | 0, h => by
    have h0 : leaf mine ∈ T := hin 0 (Nat.zero_le _) mine (by simpa using hm)
    show (addT T (leaf mine), hT (addT T (leaf mine)) (leaf mine)) = (T, hT T (leaf (mine / 2 ^ 0)))
    rw [addT_of_mem h0]; simp
  | j + 1, h => by
    have ih := calc_own hin hm j (by omega +splitDisjunctions)
    have hmem := hin (j + 1) h (mine / 2 ^ (j + 1)) (div_lt hm h)
    have e : comb mine j ((sibs T leaf D mine).getD ((sibs T leaf D mine).length - 1 - j) []) (hT T (node T leaf j (mine / 2 ^ j))) = node T leaf (j + 1) (mine / 2 ^ (j + 1)) := by
      rw [sibs_length, sibs_at (by omega +splitDisjunctions), ← div_div2, node_path, ← comb_bit]
    rw [cst_eq, ih]
    show (addT T (comb mine j _ (hT T (node T leaf j (mine / 2 ^ j)))), hT (addT T (comb mine j _ (hT T (node T leaf j (mine / 2 ^ j))))) (comb mine j _ (hT T (node T leaf j (mine / 2 ^ j))))) = _
    rw [e, addT_of_mem hmem]
theorem cst_pre (path : Nat) (bs : List Txt) (T₀ : List Txt) (g₀ : Txt) : ∀ i, T₀ <+: (cst path bs T₀ g₀ i).1
  | 0 => List.prefix_refl _
  | i + 1 => (cst_pre path bs T₀ g₀ i).trans (addT_pre _ _)
theorem calc_only (hin : NodesIn T leaf D) (hm : mine < 2 ^ D) (hl : T.length + D + 1 < 200000) {v : Txt} {bs : List Txt} (hb : bs.length = D) (h32 : ∀ b ∈ bs, b.length = 32)  (j : Nat) :
    j ≤ D → (cst mine bs (addT T v) (hT (addT T v) v) j).2 = hT T (node T leaf j (mine / 2 ^ j)) → v = leaf mine ∧ ∀ i, i < j → bs.getD (D - 1 - i) [] = (sibs T leaf D mine).getD (D - 1 - i) [] := by
  induction j with
  | zero =>
    intro _ h
    have h0 : leaf mine ∈ T := hin 0 (Nat.zero_le _) mine (by simpa using hm)
    have h : hT (addT T v) v = hT T (leaf (mine / 2 ^ 0)) := h
    rw [Nat.pow_zero, Nat.div_one, ← hT_pre (addT_pre T v) h0] at h
    have hlen := (addT_len T v).2
    exact ⟨hT_inj (Nat.lt_of_lt_of_le (show _ < 200010 by omega +splitDisjunctions) (by decide)) (mem_addT _ _) (pre_mem (addT_pre T v) h0) h, fun i hi => absurd hi (Nat.not_lt_zero _)⟩
  | succ j ih0 =>
    intro hj h
    have hmem := hin (j + 1) hj (mine / 2 ^ (j + 1)) (div_lt hm hj)
    have hc := cst_len mine bs (addT T v) (hT (addT T v) v) (hT_length _ _) j
    have hlen := (addT_len T v).2
    rw [cst_eq] at h
    have hp : T <+: (cst mine bs (addT T v) (hT (addT T v) v) j).1 := (addT_pre T v).trans (cst_pre _ _ _ _ _)
    have ih := ih0 (by omega +splitDisjunctions)
    clear ih0
    generalize cst mine bs (addT T v) (hT (addT T v) v) j = c at h hc hp ih
    dsimp only at h
    have hl2 := (addT_len c.1 (comb mine j (bs.getD (bs.length - 1 - j) []) c.2)).2
    have hp2 := hp.trans (addT_pre c.1 (comb mine j (bs.getD (bs.length - 1 - j) []) c.2))
    rw [← hT_pre hp2 hmem] at h
    have hx := hT_inj (Nat.lt_of_lt_of_le (show _ < 200010 by omega +splitDisjunctions) (by decide)) (mem_addT _ _) (pre_mem hp2 hmem) h
    rw [← div_div2, node_path, comb_bit, hb] at hx
    have hbl : (bs.getD (D - 1 - j) []).length = 32 := by
      rw [List.getD_eq_getElem?_getD, List.getElem?_eq_getElem (by omega +splitDisjunctions)]
      exact h32 _ (List.getElem_mem _)
    have hs := comb_inj hbl hc.2 (hT_length _ _) (hT_length _ _) hx
    obtain ⟨e1, e2⟩ := ih hs.2
    refine ⟨e1, fun i hi => ?_⟩
    rcases Nat.lt_succ_iff_lt_or_eq.mp hi with hi | rfl
    · exact e2 i hi
    · rw [sibs_at (by omega +splitDisjunctions)]; exact hs.1
theorem list_of_getD {a b : List Txt} (hl : a.length = b.length) (h : ∀ i, i < a.length → a.getD i [] = b.getD i []) : a = b := by
  refine List.ext_getElem hl fun i h1 h2 => ?_
  have := h i h1
  rw [List.getD_eq_getElem?_getD, List.getD_eq_getElem?_getD, List.getElem?_eq_getElem h1, List.getElem?_eq_getElem h2] at this
  exact this
theorem calc_iff (hin : NodesIn T leaf D) (hm : mine < 2 ^ D) (hl : T.length + D + 1 < 200000) {v : Txt} {bs : List Txt} (hb : bs.length = D) (h32 : ∀ b ∈ bs, b.length = 32) :
    (cst mine bs (addT T v) (hT (addT T v) v) D).2 = hT T (node T leaf D 0) ↔ v = leaf mine ∧ bs = sibs T leaf D mine := by
  constructor
  · intro h
    rw [show (0 : Nat) = mine / 2 ^ D from (Nat.div_eq_of_lt hm).symm] at h
    obtain ⟨e1, e2⟩ := calc_only hin hm hl hb h32 D (Nat.le_refl _) h
    refine ⟨e1, list_of_getD (by rw [hb, sibs_length]) fun i hi => ?_⟩
    have := e2 (D - 1 - i) (by omega +splitDisjunctions)
    have e : D - 1 - (D - 1 - i) = i := by omega +splitDisjunctions
    rw [e] at this; exact this
  · rintro ⟨rfl, rfl⟩
    rw [calc_own hin hm D (Nat.le_refl _), Nat.div_eq_of_lt hm]
end
end
section
local macro_rules | `(tactic| omega) => `(tactic| first | walk_at "MY om" | omega +splitDisjunctions)
section
variable {T : List Txt} {leaf : Nat → Txt} {D key mine : Nat} {v : Txt}
theorem sibs_own (hin : NodesIn T leaf D) (hm : mine < 2 ^ D) : sibs (setT T leaf D mine v) (updL leaf mine v) D mine = sibs T leaf D mine := by
  refine list_of_getD (by rw [sibs_length, sibs_length]) fun i hi => ?_
  rw [sibs_length] at hi
  rw [sibs_set hin hm hm hi, if_neg (flip1_ne _)]
theorem sibs_part (hin : NodesIn T leaf D) (hkey : key < 2 ^ D) (hm : mine < 2 ^ D) {bp : Nat} (hp : Part D mine key bp) {vs told : List Value} {pv : Value} (hv : TxtsAre vs (sibs T leaf D mine))
    (ht : TxtsAre told (((List.range D).map (pg key (sibs T leaf D key) T v)).reverse)) (hpv : told[bp]? = some pv) : TxtsAre (vs.set bp pv) (sibs (setT T leaf D key v) (updL leaf key v) D mine) := by
  refine ⟨by rw [List.length_set, hv.1, sibs_length, sibs_length], fun i x hx => ?_⟩
  rw [List.getElem?_set] at hx
  by_cases hi : bp = i
  · subst hi
    rw [if_pos rfl] at hx
    split at hx
    · injection hx with hx
      subst hx
      obtain ⟨t, e⟩ := ht.2 bp pv hpv
      refine ⟨t, e.trans ?_⟩
      rw [sibs_set hin hkey hm hp.1, if_pos ((hp.flip hkey hm hp.1).mpr rfl)]
      have e2 : (((List.range D).map (pg key (sibs T leaf D key) T v)).reverse).getD bp [] = pg key (sibs T leaf D key) T v (D - 1 - bp) := by
        rw [List.getD_eq_getElem?_getD, List.getElem?_reverse (by simp; exact hp.1)]
        simp only [List.length_map, List.length_range, List.getElem?_map]
        rw [List.getElem?_range (by have := hp.1; omega)]
        rfl
      rw [e2]
    · cases hx
  · rw [if_neg hi] at hx
    have hlt : i < D := by
      have := (List.getElem?_eq_some_iff.mp hx).1
      rw [hv.1, sibs_length] at this; exact this
    rw [sibs_set hin hkey hm hlt, if_neg (fun e => hi ((hp.flip hkey hm hlt).mp e).symm)]
    exact hv.2 i x hx
theorem HeldIs.set {kH : List (Int × Value)} {n : Nat} (h : HeldIs kH leaf 0 n) (hk : key < n) (t : Tok) : HeldIs (stored kH ((key : Nat) : Int) (Value.bytes (List.toArray v) t)) (updL leaf key v) 0 n := by
  refine ⟨fun k x hx => ?_, fun z _ hz hx => ?_⟩
  · rw [valueAt_stored] at hx
    by_cases hkk : k = ((key : Nat) : Int)
    · rw [if_pos hkk] at hx
      injection hx with hx
      exact ⟨key, t, hkk, Nat.zero_le _, hk, by rw [← hx]; simp [updL]⟩
    · rw [if_neg hkk] at hx
      obtain ⟨z, t', e1, e2, e3, e4⟩ := h.1 k x hx
      refine ⟨z, t', e1, e2, e3, ?_⟩
      have : z ≠ key := fun e => hkk (by rw [e1, e])
      rw [e4]; simp [updL, this]
  · rw [valueAt_stored] at hx
    by_cases hkk : ((z : Nat) : Int) = ((key : Nat) : Int)
    · rw [if_pos hkk] at hx; cases hx
    · rw [if_neg hkk] at hx
      have : z ≠ key := fun e => hkk (by rw [e])
      show (if z = key then v else leaf z) = []
      rw [if_neg this]
      exact h.2 z (Nat.zero_le _) hz hx
theorem part_take {told : List Value} {c bp : Nat} (h : bp < (told.take c).length) : (told.take c)[bp]? = told[bp]? := by
  rw [List.length_take] at h
  rw [List.getElem?_take, if_pos (by omega)]
end
end
section
local macro_rules | `(tactic| omega) => `(tactic| first | walk_at "MY om" | omega +splitDisjunctions)
theorem all_eq {l r : List Txt} : ((List.range (min l.length r.length)).all (fun j => decide (l.getD j [] = r.getD j [])) && l.length == r.length) = decide (l = r) := by
  by_cases h : l = r
  · subst h
    simp
  · rw [decide_eq_false h]
    by_cases hl : l.length = r.length
    · have hf : ((List.range (min l.length r.length)).all (fun j => decide (l.getD j [] = r.getD j []))) = false := by
        rw [List.all_eq_false]
        by_cases hx : ∀ i, i < l.length → l.getD i [] = r.getD i []
        · exact absurd (list_of_getD hl hx) h
        · obtain ⟨i, hi⟩ := Classical.not_forall.mp hx
          obtain ⟨hi1, hi2⟩ := Classical.not_imp.mp hi
          exact ⟨i, List.mem_range.mpr (by omega), by simpa using hi2⟩
      rw [hf]; rfl
    · rw [beq_false_of_ne hl, Bool.and_false]
section
open PySem.W
variable {prog : Program} {w : World} {A : Around} {E : Value → Shared → Prop} {s : Shared} {h₀ : Heap} {L a b : Addr} {news : Led} {vs us : List Value} {l r : List Txt} {bb : Bool} {Q : Value → Shared → Prop}
theorem eqat_txt (x y : Txt) (t u : Tok) : SeqAt.EqAt A s (.bytes x.toArray t) (.bytes y.toArray u) (decide (x = y)) := fun prog w E Q h => (bytesKind prog w).eqBool (bytes_is x t) (bytes_is y u) h
theorem eqat_all (hv : TxtsAre vs l) (hu : TxtsAre us r) : ∀ j (h1 : j < vs.toArray.size) (h2 : j < us.toArray.size), SeqAt.EqAt A s vs.toArray[j] us.toArray[j] (decide (l.getD j [] = r.getD j [])) := by
  intro j h1 h2
  have h1' : j < vs.length := by simpa using h1
  have h2' : j < us.length := by simpa using h2
  obtain ⟨t, e1⟩ := hv.2 j vs[j] (List.getElem?_eq_getElem h1')
  obtain ⟨u, e2⟩ := hu.2 j us[j] (List.getElem?_eq_getElem h2')
  have f1 : vs.toArray[j] = Value.bytes (List.toArray (l.getD j [])) t := by simpa using e1
  have f2 : us.toArray[j] = Value.bytes (List.toArray (r.getD j [])) u := by simpa using e2
  rw [f1, f2]
  exact eqat_txt _ _ _ _
theorem eq_tups (N : News h₀ L s.heap news) (h1 : (a, tupObj vs) ∈ news) (h2 : (b, tupObj us) ∈ news) (hv : TxtsAre vs l) (hu : TxtsAre us r) (hun : A.units < cLine) (hb : decide (l = r) = bb) (h : Q (.bool bb) s) :
    wpAny (model prog w) A (compareOp .Eq (.ref a) (.ref b)) Q E s := by
  refine SeqAt.eq_tupleAt (e := fun j => decide (l.getD j [] = r.getD j [])) (News.isTup N h1) (News.isTup N h2) hun (eqat_all hv hu) ?_
  have e : ((List.range (min vs.toArray.size us.toArray.size)).all (fun j => decide (l.getD j [] = r.getD j [])) && vs.toArray.size == us.toArray.size) = bb := by
    rw [← hb, ← all_eq, ← hv.1, ← hu.1]; simp
  rw [e]; exact h
theorem ne_tups (N : News h₀ L s.heap news) (h1 : (a, tupObj vs) ∈ news) (h2 : (b, tupObj us) ∈ news) (hv : TxtsAre vs l) (hu : TxtsAre us r) (hun : A.units < cLine) (hb : decide (l = r) = bb) (h : Q (.bool (!bb)) s) :
    wpAny (model prog w) A (compareOp .NotEq (.ref a) (.ref b)) Q E s := by
  have e : ((List.range (min vs.toArray.size us.toArray.size)).all (fun j => decide (l.getD j [] = r.getD j [])) && vs.toArray.size == us.toArray.size) = bb := by
    rw [← hb, ← all_eq, ← hv.1, ← hu.1]; simp
  refine richCompare_meets_room (op := .NotEq) ⟨_, (N _ h1).1, rfl⟩ ⟨_, (N _ h2).1, rfl⟩ PySem.F.slot_tuple_ne PySem.F.entry_tuple_ne (PySem.F.args_tuple_ne_2 _ _)
    (SeqAt.tuple_neAt a b vs.toArray us.toArray _ _ none none _ _ (fun j => decide (l.getD j [] = r.getD j [])))
    ⟨(N _ h1).1, (N _ h2).1, eqat_all hv hu, show Value.bool _ ≠ Value.notImplemented ∧ Q (.bool _) s from ⟨(fun x => nomatch x), ?_⟩⟩ hun
  rw [e]; exact h
theorem ne_lsts {n1 n2 : Nat} (N : News h₀ L s.heap news) (h1 : (a, lstObj vs n1) ∈ news) (h2 : (b, lstObj us n2) ∈ news) (hv : TxtsAre vs l) (hu : TxtsAre us r) (hlen : l.length = r.length) (hun : A.units < cLine) (hb : decide (l = r) = bb) (h : Q (.bool (!bb)) s) :
    wpAny (model prog w) A (compareOp .NotEq (.ref a) (.ref b)) Q E s := by
  have e : (List.range vs.toArray.size).all (fun j => decide (l.getD j [] = r.getD j [])) = bb := by
    have := all_eq (l := l) (r := r)
    rw [hlen, beq_self_eq_true, Bool.and_true, Nat.min_self, ← hlen] at this
    rw [← hb, ← this, ← hv.1]; simp
  refine richCompare_meets_room (op := .NotEq) ⟨_, (N _ h1).1, rfl⟩ ⟨_, (N _ h2).1, rfl⟩ PySem.F.slot_list_ne PySem.F.entry_list_ne (PySem.F.args_list_ne_2 _ _)
    (SeqAt.list_neAt a b vs.toArray us.toArray _ _ none none _ _ (by simp; rw [hv.1, hu.1, hlen]) (fun j => decide (l.getD j [] = r.getD j [])))
    ⟨(N _ h1).1, (N _ h2).1, eqat_all hv hu, show Value.bool _ ≠ Value.notImplemented ∧ Q (.bool _) s from ⟨(fun x => nomatch x), ?_⟩⟩ hun
  rw [e]; exact h
end
end
section
local macro_rules | `(tactic| omega) => `(tactic| first | walk_at "MY om" | omega +splitDisjunctions)
/-- the walk is to stand still at a place of our own -/
def Mark : Prop := True
theorem stop_m {P : Prop} (_ : Mark) (h : Stop P) : P := h
noncomputable def lawFd (P : Params) : Option (Scope × List Stmt) := match (Mine.hd.heap_1 P).lookup 266 with
  | some ⟨_, _, .func fd, _⟩ => match fd.body with
    | .stmts b => some (fd.scope, b)
    | _ => none
  | _ => none
def forBody : List Stmt → Option (List Stmt)
  | [] => none
  | .For _ _ b _ _ :: _ => some b
  | _ :: r => forBody r
noncomputable def deedBody (P : Params) : Option (Scope × List Stmt) := match lawFd P with
  | some (sc, b) => match forBody b with
    | some d => some (sc, d)
    | none => none
  | none => none
theorem ownOff_cons {own : Led} {adr : List Addr} {a : Addr} {o : Obj} (h : ∀ b ∈ adr, a ≠ b) (t : OwnOff own adr) : OwnOff ((a, o) :: own) adr := by
  intro p hp b hb
  cases hp with
  | head => exact h b hb
  | tail _ hp => exact t p hp b hb
theorem ne4 {a x y z v : Addr} (h1 : @Ne Nat a x) (h2 : @Ne Nat a y) (h3 : @Ne Nat a z) (h4 : @Ne Nat a v) : ∀ b ∈ [x, y, z, v], a ≠ b := by
  intro b hb
  rcases List.mem_cons.mp hb with rfl | hb
  · exact h1
  rcases List.mem_cons.mp hb with rfl | hb
  · exact h2
  rcases List.mem_cons.mp hb with rfl | hb
  · exact h3
  rcases List.mem_cons.mp hb with rfl | hb
  · exact h4
  cases hb
theorem two_256 {ks kn : Nat} (hks : ks = 1 ∨ ks = 2) (h : kn < 2 ^ (8 * ks)) : kn < 256 ^ ks := by rcases hks with rfl | rfl <;> exact h
abbrev lawA (d0 u0 : Nat) (gd : Option (List Code)) (outer : List Env) : Around := { handled := none, depth := d0, frames := some outer, guards := gd, units := u0 }
theorem ne2 {a x y : Addr} (h1 : @Ne Nat a x) (h2 : @Ne Nat a y) : ∀ b ∈ [x, y], a ≠ b := by
  intro b hb
  rcases List.mem_cons.mp hb with rfl | hb
  · exact h1
  rcases List.mem_cons.mp hb with rfl | hb
  · exact h2
  cases hb
theorem ownOff_two {own : Led} {x y : Addr} (h1 : ∀ q ∈ own, q.1 ≠ x) (h2 : ∀ q ∈ own, q.1 ≠ y) : OwnOff own [x, y] := by
  intro p hp b hb
  rcases List.mem_cons.mp hb with rfl | hb
  · exact h1 p hp
  rcases List.mem_cons.mp hb with rfl | hb
  · exact h2 p hp
  cases hb
theorem agree_app {S1 S2 : List Str} {a b c : Loc} (h1 : Agree S1 a b) (h2 : Agree S2 b c) : Agree (S1 ++ S2) a c := fun z hz => by
  rw [List.contains_append, Bool.or_eq_false_iff] at hz
  exact (h1 z hz.1).trans (h2 z hz.2)
theorem agree_of {S : List Str} {m' mm : Loc} {vals : List (Str × Value)} (hag : Agree S m' (frOf vals [] mm mm)) (hv : ∀ p ∈ vals, mm p.1 = some p.2) : Agree S m' mm := by
  rw [← frOf_eq (S := []) hv Agree.refl] at hag; exact hag
section
open PySem.W
theorem ne_same {prog : Program} {w : World} {A : Around} {E : Value → Shared → Prop} {s : Shared} {h₀ : Heap} {L a b : Addr} {news : Led} {vs us : List Value} {l : List Txt} {Q : Value → Shared → Prop} (N : News h₀ L s.heap news) (h1 : (a, tupObj vs) ∈ news) (h2 : (b, tupObj us) ∈ news) (hv : TxtsAre vs l) (hu : TxtsAre us l) (hun : A.units < cLine) (h : Q (.bool false) s) :
    wpAny (model prog w) A (compareOp .NotEq (.ref a) (.ref b)) Q E s := ne_tups (bb := true) N h1 h2 hv hu hun (decide_eq_true rfl) h
theorem ne_same_txt {prog : Program} {w : World} {A : Around} {E : Value → Shared → Prop} {s : Shared} {x : Array UInt8} {t u : Tok} {Q : Value → Shared → Prop} (h : Q (.bool false) s) : wpAny (model prog w) A (compareOp .NotEq (.bytes x t) (.bytes x u)) Q E s :=
  ne_bytes (by rw [bne_self_eq_false]; exact h)
end
end
section
local macro_rules | `(tactic| omega) => `(tactic| first | walk_at "MY om" | omega +splitDisjunctions)
theorem txts_at {vs : List Value} {l : List Txt} {n : Nat} (h : TxtsAre vs l) (hn : n < l.length) : ∃ t, vs[n]? = some (Value.bytes (List.toArray (l.getD n [])) t) := by
  have hjv : vs[n]? = some (vs[n]'(by rw [h.1]; exact hn)) := List.getElem?_eq_getElem (by rw [h.1]; exact hn)
  obtain ⟨t, ht⟩ := h.2 n _ hjv
  exact ⟨t, by rw [hjv, ht]⟩
theorem txts_set {vs : List Value} {l : List Txt} {n : Nat} {y : Txt} {t : Tok} (h : TxtsAre vs l) : TxtsAre (vs.set n (Value.bytes (List.toArray y) t)) (l.set n y) := by
  refine ⟨by rw [List.length_set, List.length_set, h.1], fun i v hv => ?_⟩
  rw [List.getElem?_set] at hv
  by_cases hi : n = i
  · subst hi
    rw [if_pos rfl] at hv
    split at hv
    · rename_i hlt
      injection hv with hv
      subst hv
      refine ⟨t, ?_⟩
      rw [List.getD_eq_getElem?_getD, List.getElem?_set, if_pos rfl, if_pos (by rw [← h.1]; exact hlt)]
      rfl
    · cases hv
  · rw [if_neg hi] at hv
    obtain ⟨t', ht⟩ := h.2 i v hv
    refine ⟨t', ht.trans ?_⟩
    rw [List.getD_eq_getElem?_getD, List.getD_eq_getElem?_getD, List.getElem?_set, if_neg hi]
theorem txts_app {vs us : List Value} {l r : List Txt} (h : TxtsAre vs l) (h' : TxtsAre us r) : TxtsAre (vs ++ us) (l ++ r) := by
  refine ⟨by rw [List.length_append, List.length_append, h.1, h'.1], fun i v hv => ?_⟩
  rw [List.getElem?_append] at hv
  split at hv
  · rename_i hlt
    obtain ⟨t, ht⟩ := h.2 i v hv
    refine ⟨t, ht.trans ?_⟩
    rw [List.getD_eq_getElem?_getD, List.getD_eq_getElem?_getD, List.getElem?_append, if_pos (by rw [← h.1]; exact hlt)]
  · rename_i hlt
    obtain ⟨t, ht⟩ := h'.2 _ v hv
    refine ⟨t, ht.trans ?_⟩
    rw [List.getD_eq_getElem?_getD, List.getD_eq_getElem?_getD, List.getElem?_append, if_neg (by rw [← h.1]; exact hlt), h.1]
theorem txts_nil : TxtsAre [] [] := ⟨rfl, by intro i v h; simp at h⟩
theorem txts_cons {x : Txt} {t : Tok} {vs : List Value} {l : List Txt} (h : TxtsAre vs l) : TxtsAre (Value.bytes (List.toArray x) t :: vs) (x :: l) := by
  refine ⟨by rw [List.length_cons, List.length_cons, h.1], fun i v hv => ?_⟩
  cases i with
  | zero =>
    injection hv with hv
    exact ⟨t, hv.symm⟩
  | succ i => exact h.2 i v hv
theorem txts_drop {vs : List Value} {l : List Txt} (n : Nat) (h : TxtsAre vs l) : TxtsAre (vs.drop n) (l.drop n) := by
  refine ⟨by rw [List.length_drop, List.length_drop, h.1], fun i v hv => ?_⟩
  rw [List.getElem?_drop] at hv
  obtain ⟨t, ht⟩ := h.2 _ v hv
  refine ⟨t, ht.trans ?_⟩
  rw [List.getD_eq_getElem?_getD, List.getD_eq_getElem?_getD, List.getElem?_drop]
theorem set_len32 {l : List Txt} {n : Nat} {y : Txt} (h : ∀ b ∈ l, b.length = 32) (hy : y.length = 32) : ∀ b ∈ l.set n y, b.length = 32 := by
  intro b hb
  rcases List.mem_or_eq_of_mem_set hb with hb | rfl
  · exact h b hb
  · exact hy
theorem getD_len32 {l : List Txt} {n : Nat} (h : ∀ b ∈ l, b.length = 32) (hn : n < l.length) : (l.getD n []).length = 32 := by
  rw [List.getD_eq_getElem?_getD, List.getElem?_eq_getElem hn]
  exact h _ (List.getElem_mem _)
section
open PySem.W
variable {prog : Program} {w : World} {A : Around} {E : Value → Shared → Prop} {s : Shared} {h₀ : Heap} {L : Addr} {m : Loc} {news : Led}
theorem lst_txt {D : Addr} {vs : List Value} {l : List Txt} {e n : Nat} {z : Int} {u : Tok} {Q : Value → Shared → Prop} {value slice : PySem.Expr} (N : News h₀ L s.heap news) (hm : (D, lstObj vs e) ∈ news) (hv : TxtsAre vs l) (hz : z = (n : Int)) (hn : n < l.length) (hnz : n ≤ 100000) (h : ∀ t, Q (.bytes (List.toArray (l.getD n [])) t) s)
    (hs : subscripted slice false (.ref D) (.int z u) = operate [.ref D, .int z u] (getItem (.ref D) (.int z u)) := by with_unfolding_all rfl) :
    wpAny (model prog w) A (subscriptTail value slice (.ref D) (.int z u)) Q E s := by
  obtain ⟨t, ht⟩ := txts_at hv hn
  exact lst_at N hm hz hnz ht (h t) hs
theorem tup_txt {D : Addr} {vs : List Value} {l : List Txt} {n : Nat} {z : Int} {u : Tok} {Q : Value → Shared → Prop} {value slice : PySem.Expr} (N : News h₀ L s.heap news) (hm : (D, tupObj vs) ∈ news) (hv : TxtsAre vs l) (hz : z = (n : Int)) (hn : n < l.length) (hnz : n ≤ 100000) (h : ∀ t, Q (.bytes (List.toArray (l.getD n [])) t) s)
    (hs : subscripted slice false (.ref D) (.int z u) = operate [.ref D, .int z u] (getItem (.ref D) (.int z u)) := by with_unfolding_all rfl) :
    wpAny (model prog w) A (subscriptTail value slice (.ref D) (.int z u)) Q E s := by
  obtain ⟨t, ht⟩ := txts_at hv hn
  exact tup_at N hm hz hnz ht (h t) hs
theorem list_of_tup {b : Addr} {vs : List Value} {Q : Value → Shared → Prop} (F : Fr h₀ L s.heap m) (N : News h₀ L s.heap news) (hm : (b, tupObj vs) ∈ news) (hz : vs.length ≤ 10000)
    (h : ∀ D c h', Fr h₀ L h' m → News h₀ L h' ((D, lstObj vs c) :: news) → (∀ q ∈ news, q.1 < D) → Q (.ref D) { s with heap := h' }) : wpAny (model prog w) A (call (.type "list") [.ref b]) Q E s :=
  kup_listOfT (its2 := vs.toArray) (n2 := 0) (zs := vs) F N hm rfl h (by rw [sizeLine_eq]; show vs.length ≤ _; omega)
theorem lst_cut {D : Addr} {vs zs : List Value} {e : Nat} {lo hi : Option Int} {vl vu : Value} {Q : Value → Shared → Prop} {value slice : PySem.Expr} (F : Fr h₀ L s.heap m) (N : News h₀ L s.heap news) (hm : (D, lstObj vs e) ∈ news) (hz : vs.length ≤ 10000) (pl : IsPart vl lo) (pu : IsPart vu hi) (hp : kms_pick vs lo hi = zs)
    (h : ∀ D' h', Fr h₀ L h' m → News h₀ L h' ((D', lstObj zs 0) :: news) → (∀ q ∈ news, q.1 < D') → Q (.ref D') { s with heap := h' })
    (hs : subscripted slice false (.ref D) (.ref s.heap.objs.size) = operate [.ref s.heap.objs.size, .ref D] (getItem (.ref D) (.ref s.heap.objs.size)) := by with_unfolding_all rfl) (ht : ∀ r, letTemporaryGo value (.ref D) r = pure () := by intro _; with_unfolding_all rfl) :
    wpAny (model prog w) A (subscriptTail value slice (.ref D) (.ref s.heap.objs.size)) Q E { s with heap := s.heap.push { cls := .type "slice", data := .fields #[vl, vu, .none] } } :=
  kms_slice_lit (its := vs.toArray) F N (News.isList N hm) pl pu hp h hs ht (by rw [sizeLine_eq]; show vs.length ≤ _; omega)
theorem add_lsts {x y : Addr} {vs us : List Value} {Q : Value → Shared → Prop} (F : Fr h₀ L s.heap m) (N : News h₀ L s.heap news) (hx : s.heap.IsList x vs.toArray) (hy : s.heap.IsList y us.toArray) (hz : vs.length + us.length ≤ 10000)
    (h : ∀ D h', Fr h₀ L h' m → News h₀ L h' ((D, lstObj (vs ++ us) 0) :: news) → (∀ q ∈ news, q.1 < D) → Q (.ref D) { s with heap := h' }) : wpAny (model prog w) A (binaryOp .Add (.ref x) (.ref y)) Q E s :=
  kmk_add_lit (its := vs.toArray) (its2 := us.toArray) F N hx hy rfl h (by rw [sizeLine_eq]; show vs.length + us.length ≤ _; omega)
theorem pick_from1 (vs : List Value) : kms_pick vs (some 1) none = vs.drop 1 := by
  unfold kms_pick kms_lo kms_hi
  simp only [show ¬ ((1 : Int) < 0) by omega, if_false]
  have : (1 : Int).toNat = 1 := rfl
  rw [this]
  cases vs with
  | nil => simp
  | cons v vs => simp
theorem pick_to1 (vs : List Value) : kms_pick vs none (some 1) = vs.take 1 := by
  unfold kms_pick kms_lo kms_hi
  simp only [show ¬ ((1 : Int) < 0) by omega, if_false]
  have : (1 : Int).toNat = 1 := rfl
  rw [this]
  cases vs with
  | nil => simp
  | cons v vs => simp
theorem eq_txt {x y : Txt} {t u : Tok} {b : Bool} {Q : Value → Shared → Prop} (hb : decide (x = y) = b) (h : Q (.bool b) s) : wpAny (model prog w) A (compareOp .Eq (.bytes x.toArray t) (.bytes y.toArray u)) Q E s :=
  eq_bytes (by
    have e : (x.toArray.toList == y.toArray.toList) = b := by
      rw [← hb]
      show (x == y) = _
      by_cases hxy : x = y
      · rw [decide_eq_true hxy]; exact beq_iff_eq.mpr hxy
      · rw [decide_eq_false hxy]
        exact beq_eq_false_iff_ne.mpr hxy
    rw [e]; exact h)
end
end
local macro_rules | `(tactic| walk_at "binaryOp Mod int int") => `(tactic| exists mod_any, "w!/2")
local macro_rules | `(tactic| walk_at "binaryOp Mod int int") => `(tactic| exists gd20, mod_two, "!")
local macro_rules | `(tactic| walk_at "binaryOp Pow int int") => `(tactic| exists gd18, pow_gen, "o!/4")
local macro_rules | `(tactic| walk_at "exec Try") => `(tactic| exists tryX)
section
local macro_rules | `(tactic| omega) => `(tactic| first | walk_at "MY om" | omega +splitDisjunctions)
local macro_rules | `(tactic| walk_at "call ref") => `(tactic| exists st2)
section
variable {w : World} {p : Program} {loose : List Str} {mean : ExcName → Option Value} {mg mb : Str → Option Value} {hd : Option Value} {dp un : Nat} {gd : Option (List Code)} {cn : Str} {cs : Scope} {a : Addr} {ccd : Value} {cl : List (Str × Addr)} {outer : List Env}
  {A₀ : Around} {base h₀ : Heap} {L : Addr} {m : Loc} {news own : Led} {s : Shared} {Q E : Value → Shared → Prop} {x dx b2 f : Addr} {t1 t2 t3 t4 t5 t6 u1 u2 u3 u5 : Tok} {ks e : Nat} {k v : Txt} {vs : List Value}
theorem prop_key (c : Cx w p loose mean mg mb cs outer A₀ base h₀ L m news s.heap) (hx : (x, instObj 132 dx) ∈ news) (hp : (dx, prD w.params t1 t2 t3 t4 t5 t6 u1 u2 u3 u5 k v ks b2 f) ∈ news) (hdp : dp + 15 < recursionLimit) (hun : un + 150 < cLine)
    (ret : ∀ h' tk', Fr h₀ L h' m → News h₀ L h' news → Q (.bytes k.toArray u1) { s with heap := h', toks := tk' }) :
    WP w hd dp un gd cn cs L a ccd cl outer (getAttr (.ref x) (Str.ofString "key") true) Q E s := by
  obtain ⟨cB, cF, cX, cN, cT, ck⟩ := c
  obtain ⟨ckd, cnm, cig, cic, cmo⟩ := cs
  cases ck
  have N1 := news_sub cN (mems_cons hx (mems_cons hp (fun _ h => h)))
  clear cN hx hp
  unfold WP
  k_steps
  rename News _ _ _ _ => N8
  rename Fr _ _ _ _ => F8
  exact ret _ _ F8 (news_sub N8 (fun _ h => .tail _ (.tail _ h)))
theorem prop_value (c : Cx w p loose mean mg mb cs outer A₀ base h₀ L m news s.heap) (hx : (x, instObj 132 dx) ∈ news) (hp : (dx, prD w.params t1 t2 t3 t4 t5 t6 u1 u2 u3 u5 k v ks b2 f) ∈ news) (hdp : dp + 15 < recursionLimit) (hun : un + 150 < cLine)
    (ret : ∀ h' tk', Fr h₀ L h' m → News h₀ L h' news → Q (.bytes v.toArray u3) { s with heap := h', toks := tk' }) :
    WP w hd dp un gd cn cs L a ccd cl outer (getAttr (.ref x) (Str.ofString "value") true) Q E s := by
  obtain ⟨cB, cF, cX, cN, cT, ck⟩ := c
  obtain ⟨ckd, cnm, cig, cic, cmo⟩ := cs
  cases ck
  have N1 := news_sub cN (mems_cons hx (mems_cons hp (fun _ h => h)))
  clear cN hx hp
  unfold WP
  k_steps
  rename News _ _ _ _ => N8
  rename Fr _ _ _ _ => F8
  exact ret _ _ F8 (news_sub N8 (fun _ h => .tail _ (.tail _ h)))
theorem prop_branch (c : Cx w p loose mean mg mb cs outer A₀ base h₀ L m news s.heap) (hx : (x, instObj 132 dx) ∈ news) (hp : (dx, prD w.params t1 t2 t3 t4 t5 t6 u1 u2 u3 u5 k v ks b2 f) ∈ news) (hb : (b2, lstObj vs e) ∈ news) (hz : vs.length ≤ 10000) (hdp : dp + 15 < recursionLimit) (hun : un + 150 < cLine)
    (ret : ∀ D h' tk', Fr h₀ L h' m → News h₀ L h' ((D, tupObj vs) :: news) → (∀ q ∈ news, q.1 < D) → Q (.ref D) { s with heap := h', toks := tk' }) :
    WP w hd dp un gd cn cs L a ccd cl outer (getAttr (.ref x) (Str.ofString "branch") true) Q E s := by
  obtain ⟨cB, cF, cX, cN, cT, ck⟩ := c
  obtain ⟨ckd, cnm, cig, cic, cmo⟩ := cs
  cases ck
  have N1 := news_sub cN (mems_cons hx (mems_cons hp (mems_cons hb (fun _ h => h))))
  clear cN hx hp hb
  unfold WP
  k_steps
  rename News _ _ _ _ => N8
  rename Fr _ _ _ _ => F8
  exact ret _ _ _ F8 (news_sub N8 (mems_cons (.head _) (fun _ h => .tail _ (.tail _ (.tail _ (.tail _ h)))))) (of_allLt (by walk_at "MY conj"))
theorem prop_root {tab : Addr} {H : Led} (hash : HashSpec w p loose mean mg mb f tab H) {oT : Obj} {kT : List (Txt × Value)} {T T' : List Txt} {bs : List Txt} {g : Txt} (c : Cx w p loose mean mg mb cs outer A₀ base h₀ L m ((tab, oT) :: own) s.heap)
    (hx : (x, instObj 132 dx) ∈ own) (hp : (dx, prD w.params t1 t2 t3 t4 t5 t6 u1 u2 u3 u5 k v ks b2 f) ∈ own) (hb : (b2, lstObj vs e) ∈ own) (hks : ks = 1 ∨ ks = 2) (hk : k.length = ks) (hv : vs.length = 8 * ks) (hoT : oT.IsDictOf (bytesKind PySem.Challenge.rw_lh0065_01.row.prog w) kT) (hTR : TabRel kT T) (hTl : T.length < 90000)
    (hB : TxtsAre vs bs) (hvl : v.length ≤ 500) (hbl : ∀ b ∈ bs, b.length ≤ 200) (hc : cst (num k) bs (addT T v) (hT (addT T v) v) bs.length = (T', g)) (hoff : ∀ q ∈ own, q.1 ≠ tab) (hH : ∀ q ∈ H, q ∈ own) (hdp : dp + 30 < recursionLimit) (hun : un + 300 < cLine)
    (ret : ∀ oT' kT' h' tk' t', oT'.IsDictOf (bytesKind PySem.Challenge.rw_lh0065_01.row.prog w) kT' → TabRel kT' T' → Fr h₀ L h' m → News h₀ L h' ((tab, oT') :: own) → Q (.bytes g.toArray t') { s with heap := h', toks := tk' }) :
    WP w none dp un gd cn cs L a ccd cl outer (getAttr (.ref x) (Str.ofString "root_hash") true) Q E s := by
  obtain ⟨cB, cF, cX, cN, cT, ck⟩ := c
  obtain ⟨ckd, cnm, cig, cic, cmo⟩ := cs
  cases ck
  have N1 := news_sub cN (mems_cons (.tail _ hx) (mems_cons (.tail _ hp) (mems_cons (.tail _ hb) (fun _ h => h))))
  have hxt := hoff _ hx
  have hpt := hoff _ hp
  have hbt := hoff _ hb
  dsimp only at hxt hpt hbt
  clear cN hx hp hb
  unfold WP
  k_steps
  refine go_ ?_
  rename News _ _ _ _ => N8
  rename Fr _ _ _ _ => F8
  refine hideG fun hG => ?_
  obtain ⟨D9, e9⟩ := name1 N8
  subst e9
  refine hG ?_
  clear hG
  have hDl : ∀ q ∈ own, q.1 ≠ D9 := by k_all
  have N7 := news_sub N8 (r := (tab, oT) :: (D9, tupObj vs) :: own) (by walk_at "MY mems")
  k_here
  k_dflt (refine' calc_root_spec hash _ _ _ _ _ _ _ _ _ _ _ _ _ _ _ _ k v _ _ D9 vs bs T kT oT _ _ ?k1 F8 ?k3 N7 ?k5 ?hk ?z1 ?z2 ?z3 hoT hTR ?z4 ?z5 ?z6 ?z7 ?z8 hB ?z9 ?z10 ?_)
  case k1 => k_asm
  case k3 => k_asm
  case k5 => k_asm
  case hk => rfl
  case z1 => exact ownOff_two hoff hDl
  case z2 => omega
  case z3 => exact hH
  case z4 => exact hTl
  case z5 => k_room
  case z6 => k_units
  case z7 => rw [hk]; exact hks
  case z8 => rw [hk]; exact hv
  case z9 => exact hvl
  case z10 => exact hbl
  rw [hc]
  clear N7 N8 F8
  intro oT1 kT1 h9 tk9 t9 hoT1 hTR1 F8 N8
  k_steps
  rename News _ _ _ _ => N8
  rename Fr _ _ _ _ => F8
  exact ret _ _ _ _ _ hoT1 hTR1 F8 (news_sub N8 (by walk_at "MY mems"))
end
end
theorem flush9 : True := by first | walk1 | trivial
local macro_rules | `(tactic| walk_at "getAttr ref") => `(tactic| exists gd21, prop_key, "Cmmdu!/h")
local macro_rules | `(tactic| walk_at "getAttr ref") => `(tactic| exists gd22, prop_value, "Cmmdu!/h")
local macro_rules | `(tactic| walk_at "getAttr ref") => `(tactic| exists gd23, prop_branch, "Cmmmodu!/D")
section
local macro_rules | `(tactic| omega) => `(tactic| first | walk_at "MY om" | omega +splitDisjunctions)
local macro_rules | `(tactic| walk_at "execs cons") => `(tactic| exists st3)
section
variable {w : World} {p : Program} {loose : List Str} {mean : ExcName → Option Value} {mg mb : Str → Option Value} {dp un : Nat} {gd : Option (List Code)} {a : Addr} {ccd : Value} {outer : List Env}
  {A₀ : Around} {base h₀ : Heap} {L : Addr} {m u : Loc} {own : Led} {s : Shared} {Q E : Value → Shared → Prop}
theorem deed_one {sc : Scope} {body : List Stmt} {P : Flow → Shared → Prop} {cl : List (Str × Addr)} {number : Int} {ks mine : Nat} {vals : List (Str × Value)} {x px hh f : Addr} {t1 t2 t3 t4 t5 : Tok} (hd : deedBody w.params = some (sc, body))
    (hks : ks = 1 ∨ ks = 2) (hm : mine < 2 ^ (8 * ks))
    (B : Below A₀ base outer h₀) (F : Fr h₀ L s.heap (frOf [(Str.ofString "number", .int number t1), (Str.ofString "depth", .int ((8 * ks : Nat) : Int) t3), (Str.ofString "mine", .int (mine : Int) t4)] [] u m)) (X : (Mine.hd.heap_1 w.params).In h₀) (T : Top p loose mean mg mb h₀) (N : News h₀ L s.heap own)
    (hdp : dp + 40 < recursionLimit) (hun : un + 400 < cLine)
    (ret : ∀ (kn : Nat) (t : Tok) h' m' tk', kn < 2 ^ (8 * ks) → Fr h₀ L h' m' → News h₀ L h' own → m' (Str.ofString "key") = some (.int (kn : Int) t) → Agree [Str.ofString "key", Str.ofString "place"] m' (frOf [(Str.ofString "number", .int number t1), (Str.ofString "depth", .int ((8 * ks : Nat) : Int) t3), (Str.ofString "mine", .int (mine : Int) t4)] [] u m) →
      wpAny (model PySem.Challenge.rw_lh0065_01.row.prog w) (top5 none dp un gd (Str.ofString "law") sc L a ccd cl outer) (execs (body.drop 2) (envX (Str.ofString "law") sc L a ccd cl)) P E { s with heap := h', toks := tk' }) :
    wpAny (model PySem.Challenge.rw_lh0065_01.row.prog w) (top5 none dp un gd (Str.ofString "law") sc L a ccd cl outer) (execs body (envX (Str.ofString "law") sc L a ccd cl)) P E s := by
  cases hd
  k_steps
  all_goals (
    refine go_ ?_
    rename News _ _ _ _ => N8
    rename Fr _ _ _ _ => F8)
  · rename_i n9 hn9 P9 hP hP0 hP1 hx hpar hy
    have hp1 : mine / P9 % 2 = 1 := by exact_mod_cast hpar
    have hle := bit_sub hp1 hP0
    have e : (mine : Int) - (P9 : Int) = ((mine - P9 : Nat) : Int) := by omega
    rw [e] at F8
    exact ret (mine - P9) _ _ _ _ (by omega) F8 N8 rfl (by walk_at "MY agree")
  · rename_i n9 hn9 P9 hP hP0 hP1 hx hpar hy
    have hp1 : mine / P9 % 2 = 0 := by
      rcases Nat.mod_two_eq_zero_or_one (mine / P9) with h | h
      · exact h
      · exact absurd (by exact_mod_cast h) hpar
    exact ret (mine + P9) _ _ _ _ (bit_add hP (by omega) hm hp1) F8 N8 rfl (by walk_at "MY agree")
  · exact ret mine _ _ _ _ hm F8 N8 rfl (by walk_at "MY agree")
  · trace_state
    exact ret _ _ _ _ _ (by omega) F8 N8 rfl (by walk_at "MY agree")
end
end
theorem flush10 : True := by first | walk1 | trivial
section
local macro_rules | `(tactic| omega) => `(tactic| first | walk_at "MY om" | omega +splitDisjunctions)
local macro_rules | `(tactic| walk_at "execs cons") => `(tactic| exists st4)
local macro_rules | `(tactic| walk_at "call ref") => `(tactic| exists st5)
section
variable {w : World} {p : Program} {loose : List Str} {mean : ExcName → Option Value} {mg mb : Str → Option Value} {dp un : Nat} {gd : Option (List Code)} {cn : Str} {cs : Scope} {a : Addr} {ccd : Value} {cl : List (Str × Addr)} {outer : List Env}
  {A₀ : Around} {base h₀ : Heap} {L : Addr} {m : Loc} {own : Led} {s : Shared} {Q E : Value → Shared → Prop}
theorem vals_at {A : Around} {z : Int} {n : Nat} {u : Tok} {value slice : PySem.Expr} (F : Fr h₀ L s.heap m) (X : (Mine.hd.heap_1 w.params).In h₀) (hz : z = (n : Int)) (hn : (n : Int) < 4) (h : ∀ x t, x.length ≤ 64 → x ≠ [] → Q (.bytes (List.toArray x) t) s)
    (hs : subscripted slice false (.ref 240) (.int z u) = operate [.ref 240, .int z u] (getItem (.ref 240) (.int z u)) := by with_unfolding_all rfl) :
    wpAny (model PySem.Challenge.rw_lh0065_01.row.prog w) A (subscriptTail value slice (.ref 240) (.int z u)) Q E s := by
  subst hz
  have h4 : n = 0 ∨ n = 1 ∨ n = 2 ∨ n = 3 := by omega
  rcases h4 with rfl | rfl | rfl | rfl
  all_goals exact topList_K F X rfl (by decide) (by decide) rfl (h _ _ (by decide) (by decide)) hs
theorem set_use {tab f x dx db : Addr} {H : Led} (hash : HashSpec w p loose mean mg mb f tab H) {t1 t2 t3 t4 t5 t6 u1 u2 u3 u6 : Tok} {ks : Nat} {oD oT : Obj} {kvs kT : List (Txt × Value)} {T : List Txt} {leaf : Nat → Txt} {key : Nat} {v : Txt} {t t' : Tok}
    (c : Cx w p loose mean mg mb cs outer A₀ base h₀ L m ((tab, oT) :: (x, instObj 235 dx) :: (dx, trD w.params t1 t2 t3 t4 t5 t6 u1 u2 u3 u6 ks f db (hT T (node T leaf (8 * ks) 0))) :: (db, oD) :: own) s.heap)
    (hoD : oD.IsDictOf (bytesKind PySem.Challenge.rw_lh0065_01.row.prog w) kvs) (hoT : oT.IsDictOf (bytesKind PySem.Challenge.rw_lh0065_01.row.prog w) kT) (hTR : TabRel kT T)
    (hdb : (db == sysModules) = false) (ht : TreeOk kvs T leaf (8 * ks)) (hks : ks = 1 ∨ ks = 2) (hkey : key < 2 ^ (8 * ks)) (hvl : v.length ≤ 64) (hTl : T.length < 90000) (hDl : kvs.length < 90000)
    (hoff : OwnOff own [x, dx, db, tab]) (hH : ∀ q ∈ H, q ∈ own) (hne : @LT.lt Nat _ tab dx ∧ @LT.lt Nat _ dx x ∧ @LT.lt Nat _ x db)
    (hdp : dp + 25 < recursionLimit) (hun : un + 250 < cLine)
    (ret : ∀ r vs oT' kT' oD' kD' u6' h' tk', oT'.IsDictOf (bytesKind PySem.Challenge.rw_lh0065_01.row.prog w) kT' → TabRel kT' (setT T leaf (8 * ks) key v) →
      oD'.IsDictOf (bytesKind PySem.Challenge.rw_lh0065_01.row.prog w) kD' → TreeOk kD' (setT T leaf (8 * ks) key v) (updL leaf key v) (8 * ks) → kD'.length ≤ kvs.length + 17 → (setT T leaf (8 * ks) key v).length ≤ T.length + 17 →
      Fr h₀ L h' m → News h₀ L h' ((r, tupObj vs) :: (tab, oT') :: (x, instObj 235 dx) :: (dx, trD w.params t1 t2 t3 t4 t5 t6 u1 u2 u3 u6' ks f db (hT (setT T leaf (8 * ks) key v) (node (setT T leaf (8 * ks) key v) (updL leaf key v) (8 * ks) 0))) :: (db, oD') :: own) →
      TxtsAre vs (((List.range (8 * ks)).map (pg key (sibs T leaf (8 * ks) key) T v)).reverse) → vs.length = 8 * ks → (∀ q ∈ own, q.1 < r) → @LT.lt Nat _ db r → Q (.ref r) { s with heap := h', toks := tk' }) :
    WP w none dp un gd cn cs L a ccd cl outer (call (.ref 190) [.ref x, .bytes (be ks key).toArray t, .bytes v.toArray t']) Q E s := by
  have hnum := num_be ks key (two_256 hks hkey)
  obtain ⟨cB, cF, cX, cN, cT, ck⟩ := c
  have cN1 := news_sub cN (r := (x, instObj 235 dx) :: (dx, trD w.params t1 t2 t3 t4 t5 t6 u1 u2 u3 u6 ks f db (hT T (node T leaf (8 * ks) 0))) :: (db, oD) :: (tab, oT) :: own) (by walk_at "MY mems")
  refine set_spec hash ⟨cB, cF, cX, cN1, cT, ck⟩ hoD hoT hTR hdb ht hks (be_length _ _) (by rw [hnum]; exact hkey) hvl hTl hDl hoff hH hne hdp hun ?_
  rw [hnum]
  intro r vs oT' kT' oD' kD' u6' h' tk' a1 a2 a3 a4 a5 a6 a7 a8 a9
  have e1 := pst_len key (sibs T leaf (8 * ks) key) T v (8 * ks + 1)
  have e2 := a4.2.2
  rw [set_root ht.nodes hkey] at a6
  exact ret r vs oT' kT' oD' kD' u6' h' tk' a1 a2 a3 (set_ok ht hkey a4) (by omega) (by show (pst _ _ _ _ _).1.length ≤ _; omega) a5 (news_sub a6 (by walk_at "MY mems")) a7 (by rw [a7.1]; simp) a8 a9
end
local macro_rules | `(tactic| walk_at "subscriptTail") => `(tactic| exists gd24, vals_at, "aaRr!/4")
local macro_rules | `(tactic| walk_at "subscriptTail") => `(tactic| exists st6)
local macro_rules | `(tactic| walk_at "setItem ref int") => `(tactic| exists kda_set (knd := intKind _ _), "aaPaiz/o")
local macro_rules | `(tactic| walk_at "call builtin:int.to_bytes") => `(tactic| exists to_be_int, "RRor/2")
section
variable {w : World} {p : Program} {loose : List Str} {mean : ExcName → Option Value} {mg mb : Str → Option Value} {dp un : Nat} {gd : Option (List Code)} {a : Addr} {ccd : Value} {outer : List Env}
  {A₀ : Around} {base h₀ : Heap} {L : Addr} {m u : Loc} {own : Led} {s : Shared} {Q E : Value → Shared → Prop}
theorem deed_two {tab f x dx db hh : Addr} {H : Led} (hash : HashSpec w p loose mean mg mb f tab H) {sc : Scope} {body : List Stmt} {P : Flow → Shared → Prop} {cl : List (Str × Addr)} {number : Int} {ks kn : Nat} {tr1 tr2 tr3 tr4 tr5 tr6 u1 u2 u3 u6 : Tok} {T : List Txt} {leaf : Nat → Txt} {oT oD oH : Obj}
    {t1 t2 t3 t4 : Tok} {kT kD : List (Txt × Value)} {kH : List (Int × Value)} (hd : deedBody w.params = some (sc, body))
    (hks : ks = 1 ∨ ks = 2) (hkn : kn < 2 ^ (8 * ks))
    (hoT : oT.IsDictOf (bytesKind PySem.Challenge.rw_lh0065_01.row.prog w) kT) (hTR : TabRel kT T) (hoD : oD.IsDictOf (bytesKind PySem.Challenge.rw_lh0065_01.row.prog w) kD) (hoH : oH.IsDictOf (intKind PySem.Challenge.rw_lh0065_01.row.prog w) kH) (hHz : kH.length ≤ 1000)
    (hdb : (db == sysModules) = false) (ht : TreeOk kD T leaf (8 * ks)) (hTl : T.length < 80000) (hDl : kD.length < 80000)
    (hoff : OwnOff own [x, dx, db, tab]) (hhh : ∀ q ∈ own, q.1 ≠ hh) (hH : ∀ q ∈ H, q ∈ own) (hne : @LT.lt Nat _ tab dx ∧ @LT.lt Nat _ dx x ∧ @LT.lt Nat _ x db ∧ @LT.lt Nat _ db hh)
    (B : Below A₀ base outer h₀) (F : Fr h₀ L s.heap (frOf [(Str.ofString "number", .int number t1), (Str.ofString "size", .int (ks : Int) t2), (Str.ofString "depth", .int ((8 * ks : Nat) : Int) t3), (Str.ofString "key", .int (kn : Int) t4), (Str.ofString "tree", .ref x), (Str.ofString "held", .ref hh)] [] u m)) (X : (Mine.hd.heap_1 w.params).In h₀) (TT : Top p loose mean mg mb h₀)
    (N : News h₀ L s.heap ((tab, oT) :: (x, instObj 235 dx) :: (dx, trD w.params tr1 tr2 tr3 tr4 tr5 tr6 u1 u2 u3 u6 ks f db (hT T (node T leaf (8 * ks) 0))) :: (db, oD) :: (hh, oH) :: own))
    (hdp : dp + 40 < recursionLimit) (hun : un + 400 < cLine)
    (ret : ∀ (v : Txt) (tv : Tok) r pa rs (c9 : Nat) oT' kT' oD' kD' oH' u6' h' m' tk', v.length ≤ 64 → v ≠ [] → oT'.IsDictOf (bytesKind PySem.Challenge.rw_lh0065_01.row.prog w) kT' → TabRel kT' (setT T leaf (8 * ks) kn v) →
      oD'.IsDictOf (bytesKind PySem.Challenge.rw_lh0065_01.row.prog w) kD' → TreeOk kD' (setT T leaf (8 * ks) kn v) (updL leaf kn v) (8 * ks) → kD'.length ≤ kD.length + 17 → (setT T leaf (8 * ks) kn v).length ≤ T.length + 17 →
      oH'.IsDictOf (intKind PySem.Challenge.rw_lh0065_01.row.prog w) (stored kH (kn : Int) (Value.bytes (List.toArray v) tv)) → Fr h₀ L h' m' →
      News h₀ L h' ((pa, tupObj (rs.take c9)) :: (r, tupObj rs) :: (tab, oT') :: (x, instObj 235 dx) :: (dx, trD w.params tr1 tr2 tr3 tr4 tr5 tr6 u1 u2 u3 u6' ks f db (hT (setT T leaf (8 * ks) kn v) (node (setT T leaf (8 * ks) kn v) (updL leaf kn v) (8 * ks) 0))) :: (db, oD') :: (hh, oH') :: own) →
      TxtsAre rs (((List.range (8 * ks)).map (pg kn (sibs T leaf (8 * ks) kn) T v)).reverse) → rs.length = 8 * ks → (∀ q ∈ own, q.1 < r) → (∀ q ∈ own, q.1 < pa) → @LT.lt Nat _ hh r → @LT.lt Nat _ hh pa → @LT.lt Nat _ db r → @LT.lt Nat _ db pa →
      m' (Str.ofString "value") = some (.bytes (List.toArray v) tv) → m' (Str.ofString "told") = some (.ref r) → m' (Str.ofString "part") = some (.ref pa) →
      Agree [Str.ofString "value", Str.ofString "told", Str.ofString "part"] m' (frOf [(Str.ofString "number", .int number t1), (Str.ofString "size", .int (ks : Int) t2), (Str.ofString "depth", .int ((8 * ks : Nat) : Int) t3), (Str.ofString "key", .int (kn : Int) t4), (Str.ofString "tree", .ref x), (Str.ofString "held", .ref hh)] [] u m) →
      wpAny (model PySem.Challenge.rw_lh0065_01.row.prog w) (top5 none dp un gd (Str.ofString "law") sc L a ccd cl outer) (execs (body.drop 6) (envX (Str.ofString "law") sc L a ccd cl)) P E { s with heap := h', toks := tk' }) :
    wpAny (model PySem.Challenge.rw_lh0065_01.row.prog w) (top5 none dp un gd (Str.ofString "law") sc L a ccd cl outer) (execs (body.drop 2) (envX (Str.ofString "law") sc L a ccd cl)) P E s := by
  cases hd
  have hk6 := two_256 hks hkn
  k_steps
  refine go_ ?_
  rename News _ _ _ _ => N8
  rename Fr _ _ _ _ => F8
  k_here
  k_dflt (refine' set_use hash ⟨?k1, F8, ?k3, news_sub N8 ?ns, ?k5, rfl⟩ hoD hoT hTR hdb ht hks hkn ?k6 ?k7 ?k8 ?k9 ?k10 ⟨hne.1, hne.2.1, hne.2.2.1⟩ ?k11 ?k12 ?_)
  case ns => exact fun q h => h
  case k1 => k_asm
  case k3 => k_asm
  case k5 => k_asm
  case k6 => with_reducible assumption
  case k7 => omega
  case k8 => omega
  case k9 => exact ownOff_cons (ne4 (by omega) (by omega) (by omega) (by omega)) hoff
  case k10 => walk_at "MY sub"
  case k11 => k_room
  case k12 => k_units
  clear N8 F8
  intro r rs oT1 kT1 oD1 kD1 u61 h9 tk9 hoT1 hTR1 hoD1 hOk1 hDl1 hTl1 F8 N8 hrs hrl hlt hdr
  have hlt9 := hlt
  k_lt hlt
  k_steps
  refine go_ ?_
  rename News _ _ _ _ => N8
  rename Fr _ _ _ _ => F8
  refine tup_upto (s := ⟨_, _, _, _, _⟩) F8 N8 (.head _) (by omega) ?_
  clear F8 N8
  intro D9 h9 F8 N8 hD9
  have hDl : ∀ q ∈ (hh, oH) :: own, q.1 < D9 := by
    rcases hD9 with rfl | hD9
    · exact hlt9
    · exact fun q hq => hD9 q (.tail _ (.tail _ (.tail _ (.tail _ (.tail _ hq)))))
  have hDdb : @LT.lt Nat _ db D9 := by
    rcases hD9 with rfl | hD9
    · exact hdr
    · exact hD9 _ (.tail _ (.tail _ (.tail _ (.tail _ (.head _)))))
  clear hD9 hlt9
  have hDl9 := hDl
  k_lt hDl
  k_steps
  refine go_ ?_
  rename News _ _ _ _ => N8
  rename Fr _ _ _ _ => F8
  rename Obj.IsDictOf _ _ (stored _ _ _) => hoH8
  exact ret _ _ _ _ _ _ _ _ _ _ _ _ _ _ _ (by with_reducible assumption) (by with_reducible assumption) hoT1 hTR1 hoD1 hOk1 hDl1 hTl1 hoH8 F8 (news_sub N8 (by walk_at "MY mems")) hrs hrl (of_allLt (by walk_at "MY conj")) (of_allLt (by walk_at "MY conj")) (by omega) (by omega) (by omega) (by omega) rfl rfl rfl (by walk_at "MY agree")
end
end
theorem flush11 : True := by first | walk1 | trivial
section
local macro_rules | `(tactic| omega) => `(tactic| first | walk_at "MY om" | omega +splitDisjunctions)
section
variable {M : Model} {A : Around} {E : Value → Shared → Prop} {s : Shared} {h₀ : Heap} {L a : Addr} {m : Loc} {cn : Str} {cs : Scope} {ccd : Value} {cl : List (Str × Addr)} {x : Str} {v : Value} {Q : Value → Shared → Prop}
theorem loadX_L (F : Fr h₀ L s.heap m) (hv : m x = some v) (hk : cs.kind = .function) (hx : (envX cn cs L a ccd cl).kindOf x = some .local) (h : Q v s) : wpAny M A (loadName (envX cn cs L a ccd cl) x) Q E s := wpAny_loadName_local hk hx F.ns hv h
end
local macro_rules | `(tactic| walk_at "loadName") => `(tactic| exists loadX_L, "afff!")
section
variable {prog : Program} {w : World} {A : Around} {E : Value → Shared → Prop} {s : Shared} {t u : Tok}
theorem pow_gen_z {y : Nat} {z : Int} {Q : Value → Shared → Prop} (hz : z = (y : Int)) (hy : y ≤ 16) (h : ∀ P : Nat, P = 2 ^ y → 0 < P → P < 1073741824 → Q (.int (P : Int) s.toks) { s with toks := s.toks + 1 }) : wpAny (model prog w) A (binaryOp .Pow (.int 2 t) (.int z u)) Q E s := by
  subst hz; exact pow_gen hy h
theorem eq_pows {x y P1 P2 e : Nat} {b : Bool} {Q : Value → Shared → Prop} (h1 : P1 = 2 ^ e) (h2 : P2 = 2 ^ e) (hb : decide (x / 2 ^ e = y / 2 ^ e) = b) (h : Q (.bool b) s) :
    wpAny (model prog w) A (compareOp .Eq (.int ((x / P1 : Nat) : Int) t) (.int ((y / P2 : Nat) : Int) u)) Q E s := by
  subst h1 h2
  refine PyProof.Rows.eq_int ?_
  have e1 : (((x / 2 ^ e : Nat) : Int) == ((y / 2 ^ e : Nat) : Int)) = b := by
    rw [← hb]
    by_cases h : x / 2 ^ e = y / 2 ^ e
    · rw [h]; simp
    · rw [decide_eq_false h]
      exact beq_eq_false_iff_ne.mpr (fun e => h (Int.ofNat.inj e))
  rw [e1]; exact h
end
local macro_rules | `(tactic| walk_at "binaryOp Pow int int") => `(tactic| exists gd25, pow_gen_z, "ro!/4")
local macro_rules | `(tactic| walk_at "compareOp Eq int int") => `(tactic| exists gd26, eq_pows, "rrr!")
local macro_rules | `(tactic| walk_at "exec While BoolOp") => `(tactic| refine stop_ ?_)
local macro_rules | `(tactic| walk_at "execs cons") => `(tactic| exists st7)
section
variable {w : World} {p : Program} {loose : List Str} {mean : ExcName → Option Value} {mg mb : Str → Option Value} {dp un : Nat} {gd : Option (List Code)} {a : Addr} {ccd : Value} {outer : List Env}
  {A₀ : Around} {base h₀ : Heap} {L : Addr} {m u : Loc} {own : Led} {s : Shared} {Q E : Value → Shared → Prop}
theorem deed_three {sc : Scope} {body : List Stmt} {P : Flow → Shared → Prop} {cl : List (Str × Addr)} {ks mine kn : Nat} {t1 t2 t3 : Tok} (hd : deedBody w.params = some (sc, body))
    (hks : ks = 1 ∨ ks = 2)
    (B : Below A₀ base outer h₀) (F : Fr h₀ L s.heap (frOf [(Str.ofString "depth", .int ((8 * ks : Nat) : Int) t1), (Str.ofString "mine", .int (mine : Int) t2), (Str.ofString "key", .int (kn : Int) t3)] [] u m)) (X : (Mine.hd.heap_1 w.params).In h₀) (T : Top p loose mean mg mb h₀) (N : News h₀ L s.heap own)
    (hE : PassesOwn (model PySem.Challenge.rw_lh0065_01.row.prog w) (top5 none dp un gd (Str.ofString "law") sc L a ccd cl outer) (envX (Str.ofString "law") sc L a ccd cl) E)
    (ret : ∀ (i : Nat) (t : Tok) h' m' tk', Fr h₀ L h' m' → News h₀ L h' own → m' (Str.ofString "parts") = some (.int (i : Int) t) → Agree [Str.ofString "parts"] m' (frOf [(Str.ofString "depth", .int ((8 * ks : Nat) : Int) t1), (Str.ofString "mine", .int (mine : Int) t2), (Str.ofString "key", .int (kn : Int) t3)] [] u m) →
      (kn = mine ∨ (kn ≠ mine ∧ Part (8 * ks) mine kn i)) → i ≤ 16 →
      wpAny (model PySem.Challenge.rw_lh0065_01.row.prog w) (top5 none dp un gd (Str.ofString "law") sc L a ccd cl outer) (execs (body.drop 8) (envX (Str.ofString "law") sc L a ccd cl)) P E { s with heap := h', toks := tk' }) :
    wpAny (model PySem.Challenge.rw_lh0065_01.row.prog w) (top5 none dp un gd (Str.ofString "law") sc L a ccd cl outer) (execs (body.drop 6) (envX (Str.ofString "law") sc L a ccd cl)) P E s := by
  cases hd
  k_steps
  refine go_ ?_
  rename News _ _ _ _ => N8
  rename Fr _ _ _ _ => F8
  refine While_inv (fun n m₁ n₁ => n₁ = own ∧ ∃ (i : Nat) (t : Tok), i + n = 8 * ks ∧ 0 < n ∧ m₁ (Str.ofString "parts") = some (.int (i : Int) t) ∧ Agree [Str.ofString "parts"] m₁ (frOf [(Str.ofString "depth", .int ((8 * ks : Nat) : Int) t1), (Str.ofString "mine", .int (mine : Int) t2), (Str.ofString "key", .int (kn : Int) t3)] [] u m) ∧ (∀ j, j < i → kn / 2 ^ (8 * ks - 1 - j) = mine / 2 ^ (8 * ks - 1 - j))) (n₀ := 8 * ks) F8 N8 ⟨rfl, 0, _, by omega, by omega, rfl, ?ag, fun j hj => absurd hj (Nat.not_lt_zero _)⟩ ?turn hE
  case ag => exact Agree.set Agree.refl (by first | rfl | decide +kernel)
  case turn =>
    clear F8 N8
    intro n m₁ n₁ h₁ tk₁ F1 N1 hJ
    refine hideG fun hG => ?_
    obtain ⟨rfl, i, ti, hin, hn0, hmi, hag, hj⟩ := hJ
    refine hG ?_
    clear hG
    have h16 := nle_k8 (m := 16) hks rfl
    have hi8 : i < 8 * ks := by omega
    have hi16 : i ≤ 16 := Nat.le_trans (Nat.le_of_lt hi8) h16
    have he16 : 8 * ks - 1 - i ≤ 16 := Nat.le_trans (Nat.sub_le _ _) (Nat.le_trans (Nat.sub_le _ _) h16)
    have hexp : ((8 * ks : Nat) : Int) - 1 - (i : Int) = ((8 * ks - 1 - i : Nat) : Int) := by omega
    rw [frOf_eq (vals := [(Str.ofString "parts", .int (i : Int) ti)]) (S := [Str.ofString "parts"]) (m := m₁) (by intro q hq; cases hq with | head => exact hmi | tail _ hq => cases hq) hag] at F1
    refine wpAny_mono (Q := fun b s₂ => Stop (if b = true then _ else _)) ?_ (fun b s₂ h => h) fun _ _ h => h
    by_cases hkm : kn = mine
    · k_steps
      refine go_ ?_
      rw [if_neg Bool.false_ne_true]
      dsimp only
      k_steps
      refine go_ ?_
      rename News _ _ _ _ => N8
      rename Fr _ _ _ _ => F8
      exact ret i _ _ _ _ F8 N8 rfl (by walk_at "MY agree") (.inl hkm) (by omega)
    · cases hbq : decide (kn / 2 ^ (8 * ks - 1 - i) = mine / 2 ^ (8 * ks - 1 - i))
      · have hne := of_decide_eq_false hbq
        k_steps
        refine go_ ?_
        rw [if_neg Bool.false_ne_true]
        dsimp only
        k_steps
        refine go_ ?_
        rename News _ _ _ _ => N8
        rename Fr _ _ _ _ => F8
        exact ret i _ _ _ _ F8 N8 rfl (by walk_at "MY agree") (.inr ⟨hkm, by omega, hne, hj⟩) (by omega)
      · have heq := of_decide_eq_true hbq
        have hn2 : 1 < n := by
          rcases Nat.lt_or_ge 1 n with h | h
          · exact h
          · exfalso
            have e0 : 8 * ks - 1 - i = 0 := by omega
            rw [e0, Nat.pow_zero, Nat.div_one, Nat.div_one] at heq
            exact hkm heq
        k_steps
        refine go_ ?_
        rw [if_pos (show (true = true) from rfl)]
        dsimp only
        refine wpAny_mono (Q := fun f s' => Stop (WhileStep _ _ _ _ _ f s')) ?_ (fun _ _ h => h) (fun _ _ h => h)
        k_steps
        refine go_ ?_
        rename News _ _ _ _ => N8
        rename Fr _ _ _ _ => F8
        refine' WhileStep.intro (n' := n - 1) F8 N8 ?w1 ?w2
        case w1 => omega
        case w2 =>
          refine ⟨rfl, i + 1, _, by omega, by omega, rfl, (by walk_at "MY agree"), fun j hj' => ?_⟩
          rcases Nat.lt_succ_iff_lt_or_eq.mp hj' with h | rfl
          · exact hj j h
          · exact heq
end
end
theorem flush12 : True := by first | walk1 | trivial
section
local macro_rules | `(tactic| omega) => `(tactic| first | walk_at "MY om" | omega +splitDisjunctions)
local macro_rules | `(tactic| walk_at "call builtin:int.to_bytes") => `(tactic| exists to_be_int, "RRor/2")
local macro_rules | `(tactic| walk_at "call ref") => `(tactic| exists st8)
local macro_rules | `(tactic| walk_at "execs cons") => `(tactic| exists st9)
local macro_rules | `(tactic| walk_at "compareOp NotEq bytes bytes") => `(tactic| exists ne_same_txt, "!")
local macro_rules | `(tactic| walk_at "compareOp NotEq ref ref") => `(tactic| exists ne_same, "ammrru!")
section
variable {w : World} {p : Program} {loose : List Str} {mean : ExcName → Option Value} {mg mb : Str → Option Value} {d0 u0 : Nat} {gd : Option (List Code)} {a : Addr} {ccd : Value} {outer : List Env}
  {h₀ : Heap} {L : Addr} {m u : Loc} {own : Led} {s : Shared} {Q E : Value → Shared → Prop}
theorem deed_same {px pdx pb pa r f : Addr} {sc : Scope} {body : List Stmt} {P : Flow → Shared → Prop} {cl : List (Str × Addr)} {ks mine kn i e : Nat} {tr1 tr2 tr3 tr4 tr5 tr6 u1 u2 u3 u5 : Tok} {pv v : Txt} {vsB ps rs : List Value} {x9 : Value} {lB : List Txt} {t1 t2 t3 t4 t5 : Tok}
    (hd : deedBody w.params = some (sc, body)) (hks : ks = 1 ∨ ks = 2) (hm : mine < 2 ^ (8 * ks)) (hvl : vsB.length = 8 * ks)
    (hoff : ∀ q ∈ own, q.1 ≠ pdx) (hoffb : ∀ q ∈ own, q.1 ≠ pb) (hne : @LT.lt Nat _ pdx px ∧ @LT.lt Nat _ px pb ∧ @LT.lt Nat _ pb pa ∧ @LT.lt Nat _ pb r)
    (B : Below (lawA d0 u0 gd outer) h₀ outer h₀) (F : Fr h₀ L s.heap (frOf [(Str.ofString "size", .int (ks : Int) t1), (Str.ofString "mine", .int (mine : Int) t2), (Str.ofString "key", .int (mine : Int) t3), (Str.ofString "proof", .ref px), (Str.ofString "value", .bytes (List.toArray v) t4), (Str.ofString "part", .ref pa), (Str.ofString "told", .ref r), (Str.ofString "parts", .int (i : Int) t5)] [] u m)) (X : (Mine.hd.heap_1 w.params).In h₀) (T : Top p loose mean mg mb h₀)
    (N : News h₀ L s.heap ((px, instObj 132 pdx) :: (pdx, prD w.params tr1 tr2 tr3 tr4 tr5 tr6 u1 u2 u3 u5 (be ks mine) pv ks pb f) :: (pb, lstObj vsB e) :: (pa, tupObj ps) :: (r, tupObj rs) :: own))
    (hdp : d0 + 60 < recursionLimit) (hun : u0 + 600 < cLine)
    (ret : ∀ u9 h' m' tk', Fr h₀ L h' m' → News h₀ L h' ((px, instObj 132 pdx) :: (pdx, prD w.params tr1 tr2 tr3 tr4 tr5 tr6 u1 u2 u9 u5 (be ks mine) v ks pb f) :: (pb, lstObj (vsB) e) :: (pa, tupObj ps) :: (r, tupObj rs) :: own) → Agree [Str.ofString "branch", Str.ofString "elder"] m' (frOf [(Str.ofString "size", .int (ks : Int) t1), (Str.ofString "mine", .int (mine : Int) t2), (Str.ofString "key", .int (mine : Int) t3), (Str.ofString "proof", .ref px), (Str.ofString "value", .bytes (List.toArray v) t4), (Str.ofString "part", .ref pa), (Str.ofString "told", .ref r), (Str.ofString "parts", .int (i : Int) t5)] [] u m) →
      wpAny (model PySem.Challenge.rw_lh0065_01.row.prog w) ((lawA d0 u0 gd outer).deeper (envX (Str.ofString "law") sc L a ccd cl)) (execs (body.drop 10) (envX (Str.ofString "law") sc L a ccd cl)) P E { s with heap := h', toks := tk' }) :
    wpAny (model PySem.Challenge.rw_lh0065_01.row.prog w) ((lawA d0 u0 gd outer).deeper (envX (Str.ofString "law") sc L a ccd cl)) (execs (body.drop 8) (envX (Str.ofString "law") sc L a ccd cl)) P E s := by
  cases hd
  have hk6 := two_256 hks hm
  k_steps
  refine go_ ?_
  rename News _ _ _ _ => N8
  rename Fr _ _ _ _ => F8
  have hx0 : num (be ks mine) ^^^ num (be ks mine) = 0 := Nat.xor_self _
  have N7 := news_sub N8 (r := (px, instObj 132 pdx) :: (pdx, prD w.params tr1 tr2 tr3 tr4 tr5 tr6 u1 u2 u3 u5 (be ks mine) pv ks pb f) :: (pb, lstObj vsB e) :: (pa, tupObj ps) :: (r, tupObj rs) :: own) (by walk_at "MY mems")
  k_here
  k_dflt (refine' upd_same ⟨?k1, F8, ?k3, N7, ?k5, rfl⟩ hks (be_length _ _) (be_length _ _) hx0 ?k6 hne.1 ?k7 ?k8 ?_)
  case k1 => k_asm
  case k3 => k_asm
  case k5 => k_asm
  case k6 => exact ne_cons (by omega) (ne_cons (by omega) (ne_cons (by omega) hoff))
  case k7 => k_room
  case k8 => k_units
  clear N8 F8 N7
  intro h9 tk9 u9 F8 N8
  k_steps
  all_goals (
    refine go_ ?_
    rename News _ _ _ _ => N8
    rename Fr _ _ _ _ => F8
    exact ret _ _ _ _ F8 (news_sub N8 (by walk_at "MY mems")) (by walk_at "MY agree"))
theorem deed_deep {px pdx pb pa r f : Addr} {sc : Scope} {body : List Stmt} {P : Flow → Shared → Prop} {cl : List (Str × Addr)} {ks mine kn i e : Nat} {tr1 tr2 tr3 tr4 tr5 tr6 u1 u2 u3 u5 : Tok} {pv v : Txt} {vsB ps rs : List Value} {x9 : Value} {lB : List Txt} {t1 t2 t3 t4 t5 : Tok}
    (hd : deedBody w.params = some (sc, body)) (hks : ks = 1 ∨ ks = 2) (hm : mine < 2 ^ (8 * ks)) (hvl : vsB.length = 8 * ks) (hkn : kn < 2 ^ (8 * ks)) (hkm : kn ≠ mine) (hp : Part (8 * ks) mine kn i) (hi : i < ps.length) (hps : ps.length ≤ 10000) (hx9 : ps[i]? = some x9)
    (hoff : ∀ q ∈ own, q.1 ≠ pdx) (hoffb : ∀ q ∈ own, q.1 ≠ pb) (hne : @LT.lt Nat _ pdx px ∧ @LT.lt Nat _ px pb ∧ @LT.lt Nat _ pb pa ∧ @LT.lt Nat _ pb r)
    (B : Below (lawA d0 u0 gd outer) h₀ outer h₀) (F : Fr h₀ L s.heap (frOf [(Str.ofString "size", .int (ks : Int) t1), (Str.ofString "mine", .int (mine : Int) t2), (Str.ofString "key", .int (kn : Int) t3), (Str.ofString "proof", .ref px), (Str.ofString "value", .bytes (List.toArray v) t4), (Str.ofString "part", .ref pa), (Str.ofString "told", .ref r), (Str.ofString "parts", .int (i : Int) t5)] [] u m)) (X : (Mine.hd.heap_1 w.params).In h₀) (T : Top p loose mean mg mb h₀)
    (N : News h₀ L s.heap ((px, instObj 132 pdx) :: (pdx, prD w.params tr1 tr2 tr3 tr4 tr5 tr6 u1 u2 u3 u5 (be ks mine) pv ks pb f) :: (pb, lstObj vsB e) :: (pa, tupObj ps) :: (r, tupObj rs) :: own))
    (hdp : d0 + 60 < recursionLimit) (hun : u0 + 600 < cLine)
    (ret : ∀ u9 h' m' tk', Fr h₀ L h' m' → News h₀ L h' ((px, instObj 132 pdx) :: (pdx, prD w.params tr1 tr2 tr3 tr4 tr5 tr6 u1 u2 u9 u5 (be ks mine) pv ks pb f) :: (pb, lstObj (vsB.set i x9) e) :: (pa, tupObj ps) :: (r, tupObj rs) :: own) → Agree [Str.ofString "branch", Str.ofString "elder"] m' (frOf [(Str.ofString "size", .int (ks : Int) t1), (Str.ofString "mine", .int (mine : Int) t2), (Str.ofString "key", .int (kn : Int) t3), (Str.ofString "proof", .ref px), (Str.ofString "value", .bytes (List.toArray v) t4), (Str.ofString "part", .ref pa), (Str.ofString "told", .ref r), (Str.ofString "parts", .int (i : Int) t5)] [] u m) →
      wpAny (model PySem.Challenge.rw_lh0065_01.row.prog w) ((lawA d0 u0 gd outer).deeper (envX (Str.ofString "law") sc L a ccd cl)) (execs (body.drop 10) (envX (Str.ofString "law") sc L a ccd cl)) P E { s with heap := h', toks := tk' }) :
    wpAny (model PySem.Challenge.rw_lh0065_01.row.prog w) ((lawA d0 u0 gd outer).deeper (envX (Str.ofString "law") sc L a ccd cl)) (execs (body.drop 8) (envX (Str.ofString "law") sc L a ccd cl)) P E s := by
  cases hd
  have hk6 := two_256 hks hkn
  have hk7 := two_256 hks hm
  obtain ⟨hb1, hb2⟩ := hp.bits hkn hm
  have hi0 := hp.1
  generalize hnp : ps.length = np at hi hps
  k_steps
  refine go_ ?_
  rename News _ _ _ _ => N8
  rename Fr _ _ _ _ => F8
  have N7 := news_sub N8 (r := (px, instObj 132 pdx) :: (pdx, prD w.params tr1 tr2 tr3 tr4 tr5 tr6 u1 u2 u3 u5 (be ks mine) pv ks pb f) :: (pb, lstObj vsB e) :: (pa, tupObj ps) :: (r, tupObj rs) :: own) (by walk_at "MY mems")
  have hnx : num (be ks mine) ^^^ num (be ks kn) = mine ^^^ kn := by rw [num_be ks mine hk7, num_be ks kn hk6]
  k_here
  k_dflt (refine' upd_deep ⟨?k1, F8, ?k3, N7, ?k5, rfl⟩ hks (be_length _ _) (be_length _ _) hvl hi0 ?b1 ?b2 hnp hps hi hx9 ?k6 ⟨hne.1, hne.2.1, hne.2.2.1⟩ ?k7 ?k8 ?_)
  case b1 => rw [hnx]; exact hb1
  case b2 => intro j hj; rw [hnx]; exact hb2 j hj
  case k1 => k_asm
  case k3 => k_asm
  case k5 => k_asm
  case k6 => exact ne_cons (by omega) hoffb
  case k7 => k_room
  case k8 => k_units
  clear N8 F8 N7
  intro h9 tk9 F8 N8
  k_steps
  all_goals (
    refine go_ ?_
    rename News _ _ _ _ => N8
    rename Fr _ _ _ _ => F8
    exact ret _ _ _ _ F8 (news_sub N8 (by walk_at "MY mems")) (by walk_at "MY agree"))
theorem deed_short {px pdx pb pa r f : Addr} {sc : Scope} {body : List Stmt} {P : Flow → Shared → Prop} {cl : List (Str × Addr)} {ks mine kn i e : Nat} {tr1 tr2 tr3 tr4 tr5 tr6 u1 u2 u3 u5 : Tok} {pv v : Txt} {vsB ps rs : List Value} {x9 : Value} {lB : List Txt} {t1 t2 t3 t4 t5 : Tok}
    (hd : deedBody w.params = some (sc, body)) (hks : ks = 1 ∨ ks = 2) (hm : mine < 2 ^ (8 * ks)) (hvl : vsB.length = 8 * ks) (hkn : kn < 2 ^ (8 * ks)) (hkm : kn ≠ mine) (hp : Part (8 * ks) mine kn i) (hi : ps.length ≤ i) (hrs : rs.length = 8 * ks) (hx9 : rs[i]? = some x9) (hB : TxtsAre vsB lB)
    (hE : ∀ e', PassesOwnAt (model PySem.Challenge.rw_lh0065_01.row.prog w) (((lawA d0 u0 gd outer).deeper (envX (Str.ofString "law") sc L a ccd cl)).mark (some (.ref e'))) ((lawA d0 u0 gd outer).deeper (envX (Str.ofString "law") sc L a ccd cl)) (envX (Str.ofString "law") sc L a ccd cl) E)
    (hoff : ∀ q ∈ own, q.1 ≠ pdx) (hoffb : ∀ q ∈ own, q.1 ≠ pb) (hne : @LT.lt Nat _ pdx px ∧ @LT.lt Nat _ px pb ∧ @LT.lt Nat _ pb pa ∧ @LT.lt Nat _ pb r)
    (B : Below (lawA d0 u0 gd outer) h₀ outer h₀) (F : Fr h₀ L s.heap (frOf [(Str.ofString "size", .int (ks : Int) t1), (Str.ofString "mine", .int (mine : Int) t2), (Str.ofString "key", .int (kn : Int) t3), (Str.ofString "proof", .ref px), (Str.ofString "value", .bytes (List.toArray v) t4), (Str.ofString "part", .ref pa), (Str.ofString "told", .ref r), (Str.ofString "parts", .int (i : Int) t5)] [] u m)) (X : (Mine.hd.heap_1 w.params).In h₀) (T : Top p loose mean mg mb h₀)
    (N : News h₀ L s.heap ((px, instObj 132 pdx) :: (pdx, prD w.params tr1 tr2 tr3 tr4 tr5 tr6 u1 u2 u3 u5 (be ks mine) pv ks pb f) :: (pb, lstObj vsB e) :: (pa, tupObj ps) :: (r, tupObj rs) :: own))
    (hdp : d0 + 60 < recursionLimit) (hun : u0 + 600 < cLine)
    (ret : ∀ u9 h' m' tk', Fr h₀ L h' m' → News h₀ L h' ((px, instObj 132 pdx) :: (pdx, prD w.params tr1 tr2 tr3 tr4 tr5 tr6 u1 u2 u9 u5 (be ks mine) pv ks pb f) :: (pb, lstObj (vsB.set i x9) e) :: (pa, tupObj ps) :: (r, tupObj rs) :: own) → Agree [Str.ofString "branch", Str.ofString "elder"] m' (frOf [(Str.ofString "size", .int (ks : Int) t1), (Str.ofString "mine", .int (mine : Int) t2), (Str.ofString "key", .int (kn : Int) t3), (Str.ofString "proof", .ref px), (Str.ofString "value", .bytes (List.toArray v) t4), (Str.ofString "part", .ref pa), (Str.ofString "told", .ref r), (Str.ofString "parts", .int (i : Int) t5)] [] u m) →
      wpAny (model PySem.Challenge.rw_lh0065_01.row.prog w) ((lawA d0 u0 gd outer).deeper (envX (Str.ofString "law") sc L a ccd cl)) (execs (body.drop 10) (envX (Str.ofString "law") sc L a ccd cl)) P E { s with heap := h', toks := tk' }) :
    wpAny (model PySem.Challenge.rw_lh0065_01.row.prog w) ((lawA d0 u0 gd outer).deeper (envX (Str.ofString "law") sc L a ccd cl)) (execs (body.drop 8) (envX (Str.ofString "law") sc L a ccd cl)) P E s := by
  cases hd
  have hk6 := two_256 hks hkn
  have hk7 := two_256 hks hm
  obtain ⟨hb1, hb2⟩ := hp.bits hkn hm
  have hi0 := hp.1
  generalize hnp : ps.length = np at hi
  have hnz : np ≤ 10000 := by omega
  k_steps
  refine go_ ?_
  rename News _ _ _ _ => N8
  rename Fr _ _ _ _ => F8
  refine hideG fun hG => ?_
  obtain ⟨bt, e9⟩ := name2 N8
  subst e9
  refine hG ?_
  clear hG
  have hbt1 : @Ne Nat bt pdx := by omega
  have hbt2 : @Ne Nat bt pb := by omega
  have N7 := news_sub N8 (r := (px, instObj 132 pdx) :: (pdx, prD w.params tr1 tr2 tr3 tr4 tr5 tr6 u1 u2 u3 u5 (be ks mine) pv ks pb f) :: (pb, lstObj vsB e) :: (pa, tupObj ps) :: (r, tupObj rs) :: (bt, tupObj vsB) :: own) (by walk_at "MY mems")
  have hnx : num (be ks mine) ^^^ num (be ks kn) = mine ^^^ kn := by rw [num_be ks mine hk7, num_be ks kn hk6]
  k_here
  k_dflt (refine' upd_short ⟨?k1, F8, ?k3, N7, ?k5, rfl⟩ hks (be_length _ _) (be_length _ _) hvl hi0 ?b1 ?b2 hnp hnz hi ?k6 ⟨hne.1, hne.2.1, hne.2.2.1⟩ ?k7 ?k8 ?_)
  case b1 => rw [hnx]; exact hb1
  case b2 => intro j hj; rw [hnx]; exact hb2 j hj
  case k1 => k_asm
  case k3 => k_asm
  case k5 => k_asm
  case k6 => exact ne_cons (by omega) (ne_cons hbt2 hoffb)
  case k7 => k_room
  case k8 => k_units
  clear N8 F8 N7
  intro g9 e9 tt arg h9 tk9 FG R9 U9
  k_here
  k_dflt (refine' caught_X0 (bmB := [.type "Exception", .type "BaseException", .type "object"]) (newId := "Exception.__new__") B FG U9 R9 X ?T ?ex ?q ?hb ?_ ?hk ?hx ?hd (hE _))
  case T => exact topRead_of T
  case ex => k_is
  case q => k_exc
  case hb => rfl
  case hk => rfl
  case hx => rfl
  case hd => decide
  intro h' F' N'
  clear R9 U9 FG
  dsimp only
  k_steps
  refine go_ ?_
  rename News _ _ _ _ => N8
  rename Fr _ _ _ _ => F8
  have N7 := news_sub N8 (r := (px, instObj 132 pdx) :: (pdx, prD w.params tr1 tr2 tr3 tr4 tr5 tr6 u1 u2 u3 u5 (be ks mine) pv ks pb f) :: (pb, lstObj vsB e) :: (r, tupObj rs) :: (pa, tupObj ps) :: own) (by walk_at "MY mems")
  have hrz : 8 * ks ≤ 10000 := by omega
  k_here
  k_dflt (refine' upd_deep ⟨?k1, F8, ?k3, N7, ?k5, rfl⟩ hks (be_length _ _) (be_length _ _) hvl hi0 ?b1 ?b2 hrs hrz hi0 hx9 ?k6 ⟨hne.1, hne.2.1, hne.2.2.2⟩ ?k7 ?k8 ?_)
  case b1 => rw [hnx]; exact hb1
  case b2 => intro j hj; rw [hnx]; exact hb2 j hj
  case k1 => k_asm
  case k3 => k_asm
  case k5 => k_asm
  case k6 => exact ne_cons (by omega) hoffb
  case k7 => k_room
  case k8 => k_units
  clear N8 F8 N7
  intro h9 tk9 F8 N8
  k_steps
  all_goals (
    refine go_ ?_
    rename News _ _ _ _ => N8
    rename Fr _ _ _ _ => F8
    exact ret _ _ _ _ F8 (news_sub N8 (by walk_at "MY mems")) (by walk_at "MY agree"))
end
end
theorem flush13 : True := by first | walk1 | trivial
section
local macro_rules | `(tactic| omega) => `(tactic| first | walk_at "MY om" | omega +splitDisjunctions)
local macro_rules | `(tactic| walk_at "getAttr ref") => `(tactic| ((with_reducible show wpAny _ _ (getAttr (Value.ref _) (Str.ofString "root_hash") _) _ _ _); refine stop_m (by with_reducible assumption) ?_))
local macro_rules | `(tactic| walk_at "compareOp NotEq bytes bytes") => `(tactic| exists ne_same_txt, "!")
section
variable {w : World} {p : Program} {loose : List Str} {mean : ExcName → Option Value} {mg mb : Str → Option Value} {d0 u0 : Nat} {gd : Option (List Code)} {a : Addr} {ccd : Value} {outer : List Env}
  {h₀ : Heap} {L : Addr} {m u : Loc} {own : Led} {s : Shared} {Q E : Value → Shared → Prop}
theorem deed_root {tab f x dx db px pdx pb : Addr} {H : Led} (hash : HashSpec w p loose mean mg mb f tab H) {sc : Scope} {body : List Stmt} {P : Flow → Shared → Prop} {cl : List (Str × Addr)} {ks mine e : Nat} {tr1 tr2 tr3 tr4 tr5 tr6 u1 u2 u3 u5 q1 q2 q3 q4 q5 q6 w1 w2 w3 w6 : Tok} {pv : Txt} {T : List Txt} {leaf : Nat → Txt} {oT oD : Obj} {kT : List (Txt × Value)} {vsB : List Value}
    (hd : deedBody w.params = some (sc, body)) (hks : ks = 1 ∨ ks = 2) (hm : mine < 2 ^ (8 * ks))
    (hoT : oT.IsDictOf (bytesKind PySem.Challenge.rw_lh0065_01.row.prog w) kT) (hTR : TabRel kT T) (hin : NodesIn T leaf (8 * ks)) (hTl : T.length < 80000) (hB : TxtsAre vsB (sibs T leaf (8 * ks) mine)) (hpv : pv = leaf mine) (hpl : pv.length ≤ 64)
    (hoff : ∀ q ∈ own, q.1 ≠ tab) (hH : ∀ q ∈ H, q ∈ own) (hne : @LT.lt Nat _ tab dx ∧ @LT.lt Nat _ dx x ∧ @LT.lt Nat _ x db ∧ @LT.lt Nat _ db pdx ∧ @LT.lt Nat _ pdx px ∧ @LT.lt Nat _ px pb)
    (B : Below (lawA d0 u0 gd outer) h₀ outer h₀) (F : Fr h₀ L s.heap (frOf [(Str.ofString "proof", .ref px), (Str.ofString "tree", .ref x)] [] u m)) (X : (Mine.hd.heap_1 w.params).In h₀) (TT : Top p loose mean mg mb h₀)
    (N : News h₀ L s.heap ((tab, oT) :: (x, instObj 235 dx) :: (dx, trD w.params q1 q2 q3 q4 q5 q6 w1 w2 w3 w6 ks f db (hT T (node T leaf (8 * ks) 0))) :: (db, oD) :: (px, instObj 132 pdx) :: (pdx, prD w.params tr1 tr2 tr3 tr4 tr5 tr6 u1 u2 u3 u5 (be ks mine) pv ks pb f) :: (pb, lstObj vsB e) :: own))
    (hdp : d0 + 60 < recursionLimit) (hun : u0 + 600 < cLine)
    (ret : ∀ oT' kT' h' tk', oT'.IsDictOf (bytesKind PySem.Challenge.rw_lh0065_01.row.prog w) kT' → TabRel kT' T → Fr h₀ L h' (frOf [(Str.ofString "proof", .ref px), (Str.ofString "tree", .ref x)] [] u m) →
      News h₀ L h' ((tab, oT') :: (x, instObj 235 dx) :: (dx, trD w.params q1 q2 q3 q4 q5 q6 w1 w2 w3 w6 ks f db (hT T (node T leaf (8 * ks) 0))) :: (db, oD) :: (px, instObj 132 pdx) :: (pdx, prD w.params tr1 tr2 tr3 tr4 tr5 tr6 u1 u2 u3 u5 (be ks mine) pv ks pb f) :: (pb, lstObj vsB e) :: own) → P .next { s with heap := h', toks := tk' }) :
    wpAny (model PySem.Challenge.rw_lh0065_01.row.prog w) ((lawA d0 u0 gd outer).deeper (envX (Str.ofString "law") sc L a ccd cl)) (execs (body.drop 10) (envX (Str.ofString "law") sc L a ccd cl)) P E s := by
  cases hd
  have hvl : vsB.length = 8 * ks := by rw [hB.1, sibs_length]
  have hk6 := num_be ks mine (two_256 hks hm)
  have hcal := calc_own hin hm (8 * ks) (Nat.le_refl _)
  rw [Nat.div_eq_of_lt hm] at hcal
  subst hpv
  obtain ⟨o1, o2, o3, o4, o5, o6⟩ := hne
  have o_tab_x := Nat.lt_trans o1 o2
  have o_tab_db := Nat.lt_trans o_tab_x o3
  have o_tab_pdx := Nat.lt_trans o_tab_db o4
  have o_tab_px := Nat.lt_trans o_tab_pdx o5
  have o_tab_pb := Nat.lt_trans o_tab_px o6
  have o_dx_db := Nat.lt_trans o2 o3
  have o_dx_pdx := Nat.lt_trans o_dx_db o4
  have o_dx_px := Nat.lt_trans o_dx_pdx o5
  have o_dx_pb := Nat.lt_trans o_dx_px o6
  have o_x_pdx := Nat.lt_trans o3 o4
  have o_x_px := Nat.lt_trans o_x_pdx o5
  have o_x_pb := Nat.lt_trans o_x_px o6
  have o_db_px := Nat.lt_trans o4 o5
  have o_db_pb := Nat.lt_trans o_db_px o6
  have o_pdx_pb := Nat.lt_trans o5 o6
  have mk : Mark := trivial
  k_steps
  refine go_ ?_
  clear mk
  rename News _ _ _ _ => N8
  rename Fr _ _ _ _ => F8
  k_here
  k_dflt (refine' prop_root (T' := T) (g := hT T (node T leaf (8 * ks) 0)) hash ⟨?k1, F8, ?k3, N8, ?k5, rfl⟩ ?m1 ?m2 ?m3 hks (be_length _ _) hvl hoT hTR ?z4 hB ?z9 ?z10 ?hc ?ho ?hH ?z5 ?z6 ?_)
  case k1 => k_asm
  case k3 => k_asm
  case k5 => k_asm
  case m1 => k_mem
  case m2 => k_mem
  case m3 => k_mem
  case hc => rw [hk6, sibs_length]; exact hcal
  case z4 => omega
  case ho => exact ne_cons (by omega) (ne_cons (by omega) (ne_cons (by omega) (ne_cons (by omega) (ne_cons (by omega) (ne_cons (by omega) hoff)))))
  case hH => exact sub_cons (sub_cons (sub_cons (sub_cons (sub_cons (sub_cons hH)))))
  case z5 => k_room
  case z6 => k_units
  case z9 => omega
  case z10 => exact fun b hb => by rw [sibs_len32 b hb]; decide
  clear N8 F8
  intro oT1 kT1 h9 tk9 t9 hoT1 hTR1 F8 N8
  k_steps
  all_goals (
    rename News _ _ _ _ => N8
    rename Fr _ _ _ _ => F8
    exact ret _ _ _ _ hoT1 hTR1 F8 (news_sub N8 (by walk_at "MY mems")))
end
end
theorem flush14 : True := by first | walk1 | trivial
section
local macro_rules | `(tactic| omega) => `(tactic| first | walk_at "MY om" | omega +splitDisjunctions)
/-- the ledger of law in its loop over the deeds: eight objects that change -/
abbrev lawLed (P : Params) (tab x dx db hh px pdx pb f : Addr) (oT oD oH : Obj) (q1 q2 q3 q4 q5 q6 w1 w2 w3 w6 tr1 tr2 tr3 tr4 tr5 tr6 u1 u2 u3 u5 : Tok) (ks mine : Nat) (root pv : Txt) (vsB : List Value) (e : Nat) : Led :=
  [(tab, oT), (x, instObj 235 dx), (dx, trD P q1 q2 q3 q4 q5 q6 w1 w2 w3 w6 ks f db root), (db, oD), (hh, oH), (px, instObj 132 pdx), (pdx, prD P tr1 tr2 tr3 tr4 tr5 tr6 u1 u2 u3 u5 (be ks mine) pv ks pb f), (pb, lstObj vsB e)]
structure DeedFacts (w : World) (ks mine n : Nat) (oT oD oH : Obj) (kT kD : List (Txt × Value)) (kH : List (Int × Value)) (T : List Txt) (leaf : Nat → Txt) (vsB : List Value) : Prop where
  hoT : oT.IsDictOf (bytesKind PySem.Challenge.rw_lh0065_01.row.prog w) kT
  hTR : TabRel kT T
  hoD : oD.IsDictOf (bytesKind PySem.Challenge.rw_lh0065_01.row.prog w) kD
  ht : TreeOk kD T leaf (8 * ks)
  hoH : oH.IsDictOf (intKind PySem.Challenge.rw_lh0065_01.row.prog w) kH
  hHe : HeldIs kH leaf 0 (2 ^ (8 * ks))
  hHz : kH.length ≤ n + 1
  hB : TxtsAre vsB (sibs T leaf (8 * ks) mine)
  hne : leaf mine ≠ []
  hlf : ∀ z, (leaf z).length ≤ 64
  hbl : NodesIn T (fun _ => []) (8 * ks)
  hTl : T.length ≤ 100 + 17 * n
  hDl : kD.length ≤ 100 + 17 * n
def DeedInv (w : World) (tab x dx db hh px pdx pb f : Addr) (q1 q2 q3 q4 q5 q6 w1 w2 w3 tr1 tr2 tr3 tr4 tr5 tr6 u1 u2 u5 : Tok) (ks mine e n : Nat) (news : Led) : Prop :=
  ∃ oT oD oH kT kD kH w6 u3 T leaf vsB, news = lawLed w.params tab x dx db hh px pdx pb f oT oD oH q1 q2 q3 q4 q5 q6 w1 w2 w3 w6 tr1 tr2 tr3 tr4 tr5 tr6 u1 u2 u3 u5 ks mine (hT T (node T leaf (8 * ks) 0)) (leaf mine) vsB e ∧ DeedFacts w ks mine n oT oD oH kT kD kH T leaf vsB
theorem updL_len {leaf : Nat → Txt} {k : Nat} {v : Txt} (h : ∀ z, (leaf z).length ≤ 64) (hv : v.length ≤ 64) : ∀ z, (updL leaf k v z).length ≤ 64 := fun z => by
  unfold updL; split
  · exact hv
  · exact h z
section
variable {w : World} {p : Program} {loose : List Str} {mean : ExcName → Option Value} {mg mb : Str → Option Value} {d0 u0 : Nat} {gd : Option (List Code)} {a : Addr} {ccd : Value} {outer : List Env}
  {h₀ : Heap} {L : Addr} {mm : Loc} {own : Led} {s : Shared} {Q E : Value → Shared → Prop}
theorem deed_turn {tab f x dx db hh px pdx pb : Addr} {H : Led} (hash : HashSpec w p loose mean mg mb f tab H) {sc : Scope} {body : List Stmt} {P : Flow → Shared → Prop} {cl : List (Str × Addr)} {number : Int} {ks mine e n : Nat} {t1 t2 t3 t4 : Tok}
    {q1 q2 q3 q4 q5 q6 w1 w2 w3 tr1 tr2 tr3 tr4 tr5 tr6 u1 u2 u5 : Tok} {core : Led} (hd : deedBody w.params = some (sc, body))
    (hks : ks = 1 ∨ ks = 2) (hm : mine < 2 ^ (8 * ks)) (hn : n ≤ 63) (I : DeedInv w tab x dx db hh px pdx pb f q1 q2 q3 q4 q5 q6 w1 w2 w3 tr1 tr2 tr3 tr4 tr5 tr6 u1 u2 u5 ks mine e n core)
    (hord : @LT.lt Nat _ tab dx ∧ @LT.lt Nat _ dx x ∧ @LT.lt Nat _ x db ∧ @LT.lt Nat _ db hh ∧ @LT.lt Nat _ hh pdx ∧ @LT.lt Nat _ pdx px ∧ @LT.lt Nat _ px pb) (hdb : (db == sysModules) = false)
    (hoff : OwnOff own [x, dx, db, tab]) (hhh : ∀ q ∈ own, q.1 ≠ hh) (hpd : ∀ q ∈ own, q.1 ≠ pdx) (hpb : ∀ q ∈ own, q.1 ≠ pb) (hH : ∀ q ∈ H, q ∈ own)
    (B : Below (lawA d0 u0 gd outer) h₀ outer h₀) (F : Fr h₀ L s.heap mm) (X : (Mine.hd.heap_1 w.params).In h₀) (T : Top p loose mean mg mb h₀) (N : News h₀ L s.heap (core ++ own))
    (m1 : mm (Str.ofString "number") = some (.int number t1)) (m2 : mm (Str.ofString "depth") = some (.int ((8 * ks : Nat) : Int) t2)) (m3 : mm (Str.ofString "mine") = some (.int (mine : Int) t3))
    (m4 : mm (Str.ofString "size") = some (.int (ks : Int) t4)) (m5 : mm (Str.ofString "tree") = some (.ref x)) (m6 : mm (Str.ofString "held") = some (.ref hh)) (m7 : mm (Str.ofString "proof") = some (.ref px))
    (hE : PassesOwn (model PySem.Challenge.rw_lh0065_01.row.prog w) (top5 none (d0 + 1) (u0 + 3) gd (Str.ofString "law") sc L a ccd cl outer) (envX (Str.ofString "law") sc L a ccd cl) E)
    (hE2 : ∀ e', PassesOwnAt (model PySem.Challenge.rw_lh0065_01.row.prog w) (((lawA d0 u0 gd outer).deeper (envX (Str.ofString "law") sc L a ccd cl)).mark (some (.ref e'))) ((lawA d0 u0 gd outer).deeper (envX (Str.ofString "law") sc L a ccd cl)) (envX (Str.ofString "law") sc L a ccd cl) E)
    (hdp : d0 + 60 < recursionLimit) (hun : u0 + 600 < cLine)
    (ret : ∀ core' h' m' tk', DeedInv w tab x dx db hh px pdx pb f q1 q2 q3 q4 q5 q6 w1 w2 w3 tr1 tr2 tr3 tr4 tr5 tr6 u1 u2 u5 ks mine e (n + 1) core' → Fr h₀ L h' m' → News h₀ L h' (core' ++ own) →
      Agree [Str.ofString "branch", Str.ofString "elder", Str.ofString "parts", Str.ofString "value", Str.ofString "told", Str.ofString "part", Str.ofString "key", Str.ofString "place"] m' mm → P .next { s with heap := h', toks := tk' }) :
    wpAny (model PySem.Challenge.rw_lh0065_01.row.prog w) ((lawA d0 u0 gd outer).deeper (envX (Str.ofString "law") sc L a ccd cl)) (execs body (envX (Str.ofString "law") sc L a ccd cl)) P E s := by
  refine hideG fun hG => ?_
  obtain ⟨oT, oD, oH, kT, kD, kH, w6, u3, T0, leaf, vsB, rfl, D0⟩ := I
  obtain ⟨o1, o2, o3, o4, o5, o6, o7⟩ := hord
  refine hG ?_
  clear hG
  have o_tab_x := Nat.lt_trans o1 o2
  have o_tab_db := Nat.lt_trans o_tab_x o3
  have o_tab_hh := Nat.lt_trans o_tab_db o4
  have o_tab_pdx := Nat.lt_trans o_tab_hh o5
  have o_tab_px := Nat.lt_trans o_tab_pdx o6
  have o_tab_pb := Nat.lt_trans o_tab_px o7
  have o_dx_db := Nat.lt_trans o2 o3
  have o_dx_hh := Nat.lt_trans o_dx_db o4
  have o_dx_pdx := Nat.lt_trans o_dx_hh o5
  have o_dx_px := Nat.lt_trans o_dx_pdx o6
  have o_dx_pb := Nat.lt_trans o_dx_px o7
  have o_x_hh := Nat.lt_trans o3 o4
  have o_x_pdx := Nat.lt_trans o_x_hh o5
  have o_x_px := Nat.lt_trans o_x_pdx o6
  have o_x_pb := Nat.lt_trans o_x_px o7
  have o_db_pdx := Nat.lt_trans o4 o5
  have o_db_px := Nat.lt_trans o_db_pdx o6
  have o_db_pb := Nat.lt_trans o_db_px o7
  have o_hh_px := Nat.lt_trans o5 o6
  have o_hh_pb := Nat.lt_trans o_hh_px o7
  have o_pdx_pb := Nat.lt_trans o6 o7
  have hv1 := named_cons m1 (named_cons m2 (named_cons m3 named_nil))
  refine deed_one (t2 := t1) (t5 := t1) (x := L) (px := L) (hh := L) (f := L) (vals := []) hd hks hm B (fr_named _ F hv1) X T N ?k1 ?k2 ?_
  case k1 => k_room
  case k2 => k_units
  intro kn tk h1 ma j1 hkn F1 N1 hkey hag
  have A1 := agree_of hag hv1
  clear hag hv1 F N
  have hv2 := named_cons ((A1 _ rfl).trans m1) (named_cons ((A1 _ rfl).trans m4) (named_cons ((A1 _ rfl).trans m2) (named_cons hkey (named_cons ((A1 _ rfl).trans m5) (named_cons ((A1 _ rfl).trans m6) named_nil)))))
  have N2 : News h₀ L h1 ((tab, oT) :: (x, instObj 235 dx) :: (dx, trD w.params q1 q2 q3 q4 q5 q6 w1 w2 w3 w6 ks f db (hT T0 (node T0 leaf (8 * ks) 0))) :: (db, oD) :: (hh, oH) :: (px, instObj 132 pdx) :: (pdx, prD w.params tr1 tr2 tr3 tr4 tr5 tr6 u1 u2 u3 u5 (be ks mine) (leaf mine) ks pb f) :: (pb, lstObj vsB e) :: own) := N1
  clear N1
  refine deed_two (s := ⟨_, _, _, _, _⟩) hash hd hks hkn D0.hoT D0.hTR D0.hoD D0.hoH (by have := D0.hHz; omega) hdb D0.ht (by have := D0.hTl; omega) (by have := D0.hDl; omega) ?k3 ?k4 ?k5 ⟨o1, o2, o3, o4⟩ B (fr_named _ F1 hv2) X T N2 ?k1 ?k2 ?_
  case k1 => k_room
  case k2 => k_units
  case k3 => exact ownOff_cons (ne4 (by omega) (by omega) (by omega) (by omega)) (ownOff_cons (ne4 (by omega) (by omega) (by omega) (by omega)) (ownOff_cons (ne4 (by omega) (by omega) (by omega) (by omega)) hoff))
  case k4 => exact ne_cons (by omega) (ne_cons (by omega) (ne_cons (by omega) hhh))
  case k5 => exact sub_cons (sub_cons (sub_cons hH))
  intro v tv r pa rs c9 oT' kT' oD' kD' oH' w6' h2 mb j2 hvl hvn hoT' hTR' hoD' hOk' hDl' hTl' hoH' F2 N3 hrs hrl hlr hlp g1 g2 g3 g4 hval htold hpart hag
  have A2 := agree_app (agree_of hag hv2) A1
  have hkey2 : mb (Str.ofString "key") = some (.int (kn : Int) tk) := ((agree_of hag hv2) _ rfl).trans hkey
  clear hag hv2 F1 N2
  have hv3 := named_cons ((A2 _ rfl).trans m2) (named_cons ((A2 _ rfl).trans m3) (named_cons hkey2 named_nil))
  refine deed_three (s := ⟨_, _, _, _, _⟩) hd hks B (fr_named _ F2 hv3) X T N3 hE ?_
  intro i ti h3 mc j3 F3 N4 hparts hag hcase hi16
  have A3 := agree_app (agree_of hag hv3) A2
  have hkey3 := ((agree_of hag hv3) _ rfl).trans hkey2
  have hval3 := ((agree_of hag hv3) _ rfl).trans hval
  have htold3 := ((agree_of hag hv3) _ rfl).trans htold
  have hpart3 := ((agree_of hag hv3) _ rfl).trans hpart
  clear hag hv3 F2 N3
  have hpbr : @LT.lt Nat _ pb r := hlr _ (.tail _ (.tail _ (.head _)))
  have hpbp : @LT.lt Nat _ pb pa := hlp _ (.tail _ (.tail _ (.head _)))
  have hin := D0.ht.nodes
  have hv4 := named_cons ((A3 _ rfl).trans m4) (named_cons ((A3 _ rfl).trans m3) (named_cons hkey3 (named_cons ((A3 _ rfl).trans m7) (named_cons hval3 (named_cons hpart3 (named_cons htold3 (named_cons hparts named_nil)))))))
  have N5 := news_sub N4 (r := (px, instObj 132 pdx) :: (pdx, prD w.params tr1 tr2 tr3 tr4 tr5 tr6 u1 u2 u3 u5 (be ks mine) (leaf mine) ks pb f) :: (pb, lstObj vsB e) :: (pa, tupObj (rs.take c9)) :: (r, tupObj rs) :: (tab, oT') :: (x, instObj 235 dx) :: (dx, trD w.params q1 q2 q3 q4 q5 q6 w1 w2 w3 w6' ks f db (hT (setT T0 leaf (8 * ks) kn v) (node (setT T0 leaf (8 * ks) kn v) (updL leaf kn v) (8 * ks) 0))) :: (db, oD') :: (hh, oH') :: own) (by walk_at "MY mems")
  clear N4
  have hvB : vsB.length = 8 * ks := by rw [D0.hB.1, sibs_length]
  have gpd : ∀ q ∈ (tab, oT') :: (x, instObj 235 dx) :: (dx, trD w.params q1 q2 q3 q4 q5 q6 w1 w2 w3 w6' ks f db (hT (setT T0 leaf (8 * ks) kn v) (node (setT T0 leaf (8 * ks) kn v) (updL leaf kn v) (8 * ks) 0))) :: (db, oD') :: (hh, oH') :: own, q.1 ≠ pdx :=
    ne_cons (by omega) (ne_cons (by omega) (ne_cons (by omega) (ne_cons (by omega) (ne_cons (by omega) hpd))))
  have gpb : ∀ q ∈ (tab, oT') :: (x, instObj 235 dx) :: (dx, trD w.params q1 q2 q3 q4 q5 q6 w1 w2 w3 w6' ks f db (hT (setT T0 leaf (8 * ks) kn v) (node (setT T0 leaf (8 * ks) kn v) (updL leaf kn v) (8 * ks) 0))) :: (db, oD') :: (hh, oH') :: own, q.1 ≠ pb :=
    ne_cons (by omega) (ne_cons (by omega) (ne_cons (by omega) (ne_cons (by omega) (ne_cons (by omega) hpb))))
  /- the last part is one for the three roads -/
  have fin : ∀ (pv' : Txt) (vsB' : List Value) u9 h9 md tk9, TxtsAre vsB' (sibs (setT T0 leaf (8 * ks) kn v) (updL leaf kn v) (8 * ks) mine) → pv' = updL leaf kn v mine → Fr h₀ L h9 md →
      News h₀ L h9 ((px, instObj 132 pdx) :: (pdx, prD w.params tr1 tr2 tr3 tr4 tr5 tr6 u1 u2 u9 u5 (be ks mine) pv' ks pb f) :: (pb, lstObj vsB' e) :: (pa, tupObj (rs.take c9)) :: (r, tupObj rs) :: (tab, oT') :: (x, instObj 235 dx) :: (dx, trD w.params q1 q2 q3 q4 q5 q6 w1 w2 w3 w6' ks f db (hT (setT T0 leaf (8 * ks) kn v) (node (setT T0 leaf (8 * ks) kn v) (updL leaf kn v) (8 * ks) 0))) :: (db, oD') :: (hh, oH') :: own) →
      Agree [Str.ofString "branch", Str.ofString "elder"] md mc →
      wpAny (model PySem.Challenge.rw_lh0065_01.row.prog w) ((lawA d0 u0 gd outer).deeper (envX (Str.ofString "law") sc L a ccd cl)) (execs (body.drop 10) (envX (Str.ofString "law") sc L a ccd cl)) P E { s with heap := h9, toks := tk9 } := by
    intro pv' vsB' u9 h9 md tk9 hB' hpv' F9 N9 A4
    have A5 := agree_app A4 A3
    have hv5 := named_cons ((A5 _ rfl).trans m7) (named_cons ((A5 _ rfl).trans m5) named_nil)
    have hlf' := updL_len (k := kn) (v := v) D0.hlf hvl
    have N6 := news_sub N9 (r := (tab, oT') :: (x, instObj 235 dx) :: (dx, trD w.params q1 q2 q3 q4 q5 q6 w1 w2 w3 w6' ks f db (hT (setT T0 leaf (8 * ks) kn v) (node (setT T0 leaf (8 * ks) kn v) (updL leaf kn v) (8 * ks) 0))) :: (db, oD') :: (px, instObj 132 pdx) :: (pdx, prD w.params tr1 tr2 tr3 tr4 tr5 tr6 u1 u2 u9 u5 (be ks mine) pv' ks pb f) :: (pb, lstObj vsB' e) :: (hh, oH') :: own) (by walk_at "MY mems")
    refine deed_root (s := ⟨_, _, _, _, _⟩) hash hd hks hm hoT' hTR' hOk'.nodes (by have := D0.hTl; omega) hB' hpv' (by rw [hpv']; exact hlf' _) ?z1 ?z2 ⟨o1, o2, o3, by omega, o6, o7⟩ B (fr_named _ F9 hv5) X T N6 hdp hun ?_
    case z1 => exact ne_cons (by omega) (hoff.ne (by k_memK))
    case z2 => exact sub_cons hH
    intro oT2 kT2 h10 tk10 hoT2 hTR2 F10 N10
    rw [← frOf_eq (S := []) hv5 Agree.refl] at F10
    subst hpv'
    refine ret (lawLed w.params tab x dx db hh px pdx pb f oT2 oD' oH' q1 q2 q3 q4 q5 q6 w1 w2 w3 w6' tr1 tr2 tr3 tr4 tr5 tr6 u1 u2 u9 u5 ks mine (hT (setT T0 leaf (8 * ks) kn v) (node (setT T0 leaf (8 * ks) kn v) (updL leaf kn v) (8 * ks) 0)) (updL leaf kn v mine) vsB' e) _ _ _
      ⟨oT2, oD', oH', kT2, kD', stored kH ((kn : Nat) : Int) (Value.bytes (List.toArray v) tv), w6', u9, setT T0 leaf (8 * ks) kn v, updL leaf kn v, vsB', rfl, ?_⟩ F10 (news_sub N10 (by show ∀ q ∈ _ :: _ :: _ :: _ :: _ :: _ :: _ :: _ :: own, _; walk_at "MY mems")) A5
    refine ⟨hoT2, hTR2, hoD', hOk', hoH', D0.hHe.set hkn tv, ?_, hB', ?_, hlf', blank_grow D0.hbl setT_pre, ?_, ?_⟩
    · have := stored_len kH ((kn : Nat) : Int) (Value.bytes (List.toArray v) tv)
      have := D0.hHz
      omega
    · unfold updL; split
      · exact hvn
      · exact D0.hne
    · have := D0.hTl
      omega
    · have := D0.hDl
      omega
  rcases hcase with rfl | ⟨hkm, hp⟩
  · refine deed_same (s := ⟨_, _, _, _, _⟩) (kn := 0) (x9 := .none) (lB := []) hd hks hm hvB gpd gpb ⟨o6, o7, hpbp, hpbr⟩ B (fr_named _ F3 hv4) X T N5 hdp hun ?_
    intro u9 h4 md tk4 F4 N6 hag
    exact fin _ _ _ _ _ _ (by rw [sibs_own hin hm]; exact D0.hB) (by simp [updL]) F4 N6 (agree_of hag hv4)
  · have hir : i < rs.length := by rw [hrl]; exact hp.1
    have hx9 : rs[i]? = some rs[i] := List.getElem?_eq_getElem hir
    generalize rs[i] = x9 at hx9
    have hpv : leaf mine = updL leaf kn v mine := by unfold updL; rw [if_neg (fun e => hkm e.symm)]
    have hB9 := sibs_part hin hkn hm hp D0.hB hrs hx9
    by_cases hlt : i < (rs.take c9).length
    · refine deed_deep (s := ⟨_, _, _, _, _⟩) (lB := []) hd hks hm hvB hkn hkm hp hlt (by rw [List.length_take, hrl]; omega) ((part_take hlt).trans hx9) gpd gpb ⟨o6, o7, hpbp, hpbr⟩ B (fr_named _ F3 hv4) X T N5 hdp hun ?_
      intro u9 h4 md tk4 F4 N6 hag
      exact fin _ _ _ _ _ _ hB9 hpv F4 N6 (agree_of hag hv4)
    · refine deed_short (s := ⟨_, _, _, _, _⟩) hd hks hm hvB hkn hkm hp (Nat.le_of_not_lt hlt) hrl hx9 D0.hB hE2 gpd gpb ⟨o6, o7, hpbp, hpbr⟩ B (fr_named _ F3 hv4) X T N5 hdp hun ?_
      intro u9 h4 md tk4 F4 N6 hag
      exact fin _ _ _ _ _ _ hB9 hpv F4 N6 (agree_of hag hv4)
end
end
section
local macro_rules | `(tactic| omega) => `(tactic| first | walk_at "MY om" | omega +splitDisjunctions)
local macro_rules | `(tactic| walk_at "execs cons") => `(tactic| exists st10)
local macro_rules | `(tactic| walk_at "execs cons") => `(tactic| exists st11)
section
variable {w : World} {p : Program} {loose : List Str} {mean : ExcName → Option Value} {mg mb : Str → Option Value} {d0 u0 : Nat} {gd : Option (List Code)} {a : Addr} {ccd : Value} {outer : List Env}
  {h₀ : Heap} {L : Addr} {mm : Loc} {own : Led} {s : Shared} {Q E : Value → Shared → Prop}
theorem law_size {sc : Scope} {body : List Stmt} {P : Flow → Shared → Prop} {cl : List (Str × Addr)} {sl : Addr} {vs : List Value} {zs : List Int} (hd : lawFd w.params = some (sc, body))
    (hs : h₀.IsList sl vs.toArray) (hi : IntsAre vs zs) (hz : ¬ ((63 : Nat) : Int) < ((zs.length : Nat) : Int))
    (B : Below (lawA d0 u0 gd outer) h₀ outer h₀) (F : Fr h₀ L s.heap mm) (X : (Mine.hd.heap_1 w.params).In h₀) (T : Top p loose mean mg mb h₀) (N : News h₀ L s.heap own)
    (m1 : mm (Str.ofString "script") = some (.ref sl)) (hdp : d0 + 60 < recursionLimit) (hun : u0 + 600 < cLine)
    (ret : ∀ (ks : Nat) t t2 h' m' tk', (ks = 1 ∨ ks = 2) → Fr h₀ L h' m' → News h₀ L h' own → m' (Str.ofString "size") = some (.int (ks : Int) t) → m' (Str.ofString "depth") = some (.int ((8 * ks : Nat) : Int) t2) → Agree [Str.ofString "size", Str.ofString "depth"] m' mm →
      wpAny (model PySem.Challenge.rw_lh0065_01.row.prog w) ((lawA d0 u0 gd outer).deeper (envX (Str.ofString "law") sc L a ccd cl)) (execs (body.drop 4) (envX (Str.ofString "law") sc L a ccd cl)) P E { s with heap := h', toks := tk' }) :
    wpAny (model PySem.Challenge.rw_lh0065_01.row.prog w) ((lawA d0 u0 gd outer).deeper (envX (Str.ofString "law") sc L a ccd cl)) (execs (body.drop 2) (envX (Str.ofString "law") sc L a ccd cl)) P E s := by
  cases hd
  have hv1 := named_cons m1 named_nil
  replace F := fr_named _ F hv1
  k_steps
  · refine go_ ?_
    rename News _ _ _ _ => N8
    rename Fr _ _ _ _ => F8
    rename_i p0 t0 n9 hn9 g1 g2
    have e2 : (n9 : Int) + 1 = ((n9 + 1 : Nat) : Int) := by omega
    have e : 8 * ((n9 + 1 : Nat) : Int) = ((8 * (n9 + 1) : Nat) : Int) := by omega
    rw [e2, e] at F8
    exact ret (n9 + 1) _ _ _ _ _ (by omega) F8 N8 rfl rfl (agree_of (by walk_at "MY agree") hv1)
  · refine go_ ?_
    rename News _ _ _ _ => N8
    rename Fr _ _ _ _ => F8
    exact ret 1 _ _ _ _ _ (.inl rfl) F8 N8 rfl rfl (agree_of (by walk_at "MY agree") hv1)
theorem law_mine {sc : Scope} {body : List Stmt} {P : Flow → Shared → Prop} {cl : List (Str × Addr)} {sl : Addr} {vs : List Value} {zs : List Int} {ks : Nat} {t2 : Tok} (hd : lawFd w.params = some (sc, body))
    (hs : h₀.IsList sl vs.toArray) (hi : IntsAre vs zs) (hz : ¬ ((63 : Nat) : Int) < ((zs.length : Nat) : Int)) (hks : ks = 1 ∨ ks = 2)
    (B : Below (lawA d0 u0 gd outer) h₀ outer h₀) (F : Fr h₀ L s.heap mm) (X : (Mine.hd.heap_1 w.params).In h₀) (T : Top p loose mean mg mb h₀) (N : News h₀ L s.heap own)
    (m1 : mm (Str.ofString "script") = some (.ref sl)) (m2 : mm (Str.ofString "depth") = some (.int ((8 * ks : Nat) : Int) t2)) (hdp : d0 + 60 < recursionLimit) (hun : u0 + 600 < cLine)
    (ret : ∀ (mine : Nat) t h' m' tk', mine < 2 ^ (8 * ks) → Fr h₀ L h' m' → News h₀ L h' own → m' (Str.ofString "mine") = some (.int (mine : Int) t) → Agree [Str.ofString "mine"] m' mm →
      wpAny (model PySem.Challenge.rw_lh0065_01.row.prog w) ((lawA d0 u0 gd outer).deeper (envX (Str.ofString "law") sc L a ccd cl)) (execs (body.drop 6) (envX (Str.ofString "law") sc L a ccd cl)) P E { s with heap := h', toks := tk' }) :
    wpAny (model PySem.Challenge.rw_lh0065_01.row.prog w) ((lawA d0 u0 gd outer).deeper (envX (Str.ofString "law") sc L a ccd cl)) (execs (body.drop 5) (envX (Str.ofString "law") sc L a ccd cl)) P E s := by
  cases hd
  have hv1 := named_cons m1 (named_cons m2 named_nil)
  replace F := fr_named _ F hv1
  k_steps
  · refine go_ ?_
    rename News _ _ _ _ => N8
    rename Fr _ _ _ _ => F8
    exact ret _ _ _ _ _ (by omega) F8 N8 rfl (agree_of (by walk_at "MY agree") hv1)
  · refine go_ ?_
    rename News _ _ _ _ => N8
    rename Fr _ _ _ _ => F8
    exact ret 0 _ _ _ _ (pow2_pos _) F8 N8 rfl (agree_of (by walk_at "MY agree") hv1)
end
end
theorem flush15 : True := by first | walk1 | trivial
section
local macro_rules | `(tactic| omega) => `(tactic| first | walk_at "MY om" | omega +splitDisjunctions)
local macro_rules | `(tactic| walk_at "execs cons") => `(tactic| exists st12)
local macro_rules | `(tactic| walk_at "call ref") => `(tactic| exists st13)
section
variable {w : World} {p : Program} {loose : List Str} {mean : ExcName → Option Value} {mg mb : Str → Option Value} {d0 u0 : Nat} {gd : Option (List Code)} {a : Addr} {ccd : Value} {outer : List Env}
  {h₀ : Heap} {L : Addr} {mm : Loc} {own : Led} {s : Shared} {Q E : Value → Shared → Prop}
theorem law_tree {tab f : Addr} {H : Led} (hash : HashSpec w p loose mean mg mb f tab H) {sc : Scope} {body : List Stmt} {P : Flow → Shared → Prop} {cl : List (Str × Addr)} {ks : Nat} {oT : Obj} {kT : List (Txt × Value)} {t1 : Tok} (hd : lawFd w.params = some (sc, body))
    (hks : ks = 1 ∨ ks = 2) (hoT : oT.IsDictOf (bytesKind PySem.Challenge.rw_lh0065_01.row.prog w) kT) (hTR : TabRel kT []) (hoff : ∀ q ∈ own, q.1 ≠ tab) (hH : ∀ q ∈ H, q ∈ own)
    (B : Below (lawA d0 u0 gd outer) h₀ outer h₀) (F : Fr h₀ L s.heap mm) (X : (Mine.hd.heap_1 w.params).In h₀) (T : Top p loose mean mg mb h₀) (N : News h₀ L s.heap ((tab, oT) :: own))
    (m1 : mm (Str.ofString "_law_hash") = some (.ref f)) (m2 : mm (Str.ofString "size") = some (.int (ks : Int) t1)) (hdp : d0 + 60 < recursionLimit) (hun : u0 + 600 < cLine)
    (ret : ∀ x dx db T0 oT' kT' oD' kD' q1 q2 q3 q4 q5 q6 w1 w2 w3 w6 h' m' tk', oT'.IsDictOf (bytesKind PySem.Challenge.rw_lh0065_01.row.prog w) kT' → TabRel kT' T0 → oD'.IsDictOf (bytesKind PySem.Challenge.rw_lh0065_01.row.prog w) kD' →
      TreeOk kD' T0 (fun _ => []) (8 * ks) → T0.length ≤ 17 → kD'.length ≤ 17 → (db == sysModules) = false → Fr h₀ L h' m' →
      News h₀ L h' ((tab, oT') :: (x, instObj 235 dx) :: (dx, trD w.params q1 q2 q3 q4 q5 q6 w1 w2 w3 w6 ks f db (hT T0 (node T0 (fun _ => []) (8 * ks) 0))) :: (db, oD') :: own) → (∀ q ∈ own, q.1 < dx) → @LT.lt Nat _ tab dx → @LT.lt Nat _ dx x → @LT.lt Nat _ x db →
      m' (Str.ofString "tree") = some (.ref x) → Agree [Str.ofString "tree"] m' mm →
      wpAny (model PySem.Challenge.rw_lh0065_01.row.prog w) ((lawA d0 u0 gd outer).deeper (envX (Str.ofString "law") sc L a ccd cl)) (execs (body.drop 5) (envX (Str.ofString "law") sc L a ccd cl)) P E { s with heap := h', toks := tk' }) :
    wpAny (model PySem.Challenge.rw_lh0065_01.row.prog w) ((lawA d0 u0 gd outer).deeper (envX (Str.ofString "law") sc L a ccd cl)) (execs (body.drop 4) (envX (Str.ofString "law") sc L a ccd cl)) P E s := by
  cases hd
  have hv1 := named_cons m1 (named_cons m2 named_nil)
  have F1 := fr_named _ F hv1
  clear F
  k_steps
  refine go_ ?_
  rename News _ _ _ _ => N8
  rename Fr _ _ _ _ => F8

  k_here
  k_dflt (refine' tree_spec hash ⟨?k1, F8, ?k3, N8, ?k5, rfl⟩ hoT hTR hks ?k6 hoff hH ?k7 ?k8 ?_)
  case k1 => k_asm
  case k3 => k_asm
  case k5 => k_asm
  case k6 => decide
  case k7 => k_room
  case k8 => k_units
  clear N8 F8
  intro x dx db oT1 kT1 oD1 kD1 q1 q2 q3 q4 q5 q6 w1 w2 w3 w6 h9 tk9 hoT1 hTR1 hoD1 hIst hdb F8 N8 hlt l1 l2 l3
  rw [ist_root] at N8
  have hlen := ist_len [] (8 * ks + 1)
  have hok := ist_ok hIst
  have hkl := hIst.2
  have hlt9 := hlt
  replace hlt : AllLt dx own := allLt_of hlt
  generalize (ist [] (8 * ks + 1)).1 = T0 at *
  k_steps
  refine go_ ?_
  rename News _ _ _ _ => N8
  rename Fr _ _ _ _ => F8
  exact ret _ _ _ T0 _ _ _ _ _ _ _ _ _ _ _ _ _ _ _ _ _ hoT1 hTR1 hoD1 hok (by simp at hlen; omega) (by omega) hdb F8 (news_sub N8 (by walk_at "MY mems")) hlt9 l1 l2 l3 rfl (agree_of (by walk_at "MY agree") hv1)
end
end
theorem flush16 : True := by first | walk1 | trivial
section
local macro_rules | `(tactic| omega) => `(tactic| first | walk_at "MY om" | omega +splitDisjunctions)
local macro_rules | `(tactic| walk_at "execs cons") => `(tactic| exists st14)
local macro_rules | `(tactic| walk_at "call ref") => `(tactic| exists st5)
local macro_rules | `(tactic| walk_at "call ref") => `(tactic| exists st15)
local macro_rules | `(tactic| walk_at "call ref") => `(tactic| exists st16)
local macro_rules | `(tactic| walk_at "call builtin:int.to_bytes") => `(tactic| exists to_be_int, "RRor/2")
local macro_rules | `(tactic| walk_at "eval Dict") => `(tactic| exists kdn_eval (knd := intKind _ _), "aaTffcn/e")
local macro_rules | `(tactic| walk_at "KdnMade") => `(tactic| exists kdn_made_int, "aaPafN/o")
local macro_rules | `(tactic| walk_at "call type:list") => `(tactic| exists gd11, list_of_tup, "aamo/c")
local macro_rules | `(tactic| walk_at "setItem ref int") => `(tactic| exists gd27, lst_set (k := 0), "aapRoo/n")
section
variable {w : World} {p : Program} {loose : List Str} {mean : ExcName → Option Value} {mg mb : Str → Option Value} {d0 u0 : Nat} {gd : Option (List Code)} {a : Addr} {ccd : Value} {outer : List Env}
  {h₀ : Heap} {L : Addr} {mm : Loc} {own : Led} {s : Shared} {Q E : Value → Shared → Prop}
theorem ownOff_lt {x dx db tab : Addr} (h : ∀ q ∈ own, q.1 < dx) (o2 : @LT.lt Nat _ dx x) (o3 : @LT.lt Nat _ x db) (ht : ∀ q ∈ own, q.1 ≠ tab) : OwnOff own [x, dx, db, tab] := by
  intro p hp b hb
  have h1 : @LT.lt Nat _ p.1 dx := h p hp
  rcases List.mem_cons.mp hb with rfl | hb
  · exact Nat.ne_of_lt (Nat.lt_trans h1 o2)
  rcases List.mem_cons.mp hb with rfl | hb
  · exact Nat.ne_of_lt h1
  rcases List.mem_cons.mp hb with rfl | hb
  · exact Nat.ne_of_lt (Nat.lt_trans h1 (Nat.lt_trans o2 o3))
  rcases List.mem_cons.mp hb with rfl | hb
  · exact ht p hp
  cases hb
theorem held_nil {n : Nat} : HeldIs [] (fun _ => []) 0 n := ⟨fun _ _ h => (nomatch h), fun _ _ _ _ => rfl⟩
theorem law_first {tab f x dx db : Addr} {H : Led} (hash : HashSpec w p loose mean mg mb f tab H) {sc : Scope} {body : List Stmt} {P : Flow → Shared → Prop} {cl : List (Str × Addr)} {ks mine : Nat} {oT oD : Obj} {kT kD : List (Txt × Value)} {T0 : List Txt} {t1 t2 q1 q2 q3 q4 q5 q6 w1 w2 w3 w6 : Tok} (hd : lawFd w.params = some (sc, body))
    (hks : ks = 1 ∨ ks = 2) (hm : mine < 2 ^ (8 * ks)) (hoT : oT.IsDictOf (bytesKind PySem.Challenge.rw_lh0065_01.row.prog w) kT) (hTR : TabRel kT T0) (hoD : oD.IsDictOf (bytesKind PySem.Challenge.rw_lh0065_01.row.prog w) kD) (ht : TreeOk kD T0 (fun _ => []) (8 * ks)) (hTl : T0.length ≤ 17) (hDl : kD.length ≤ 17)
    (hdb : (db == sysModules) = false) (hoff : ∀ q ∈ own, q.1 ≠ tab) (hlt : ∀ q ∈ own, q.1 < dx) (hH : ∀ q ∈ H, q ∈ own) (hord : @LT.lt Nat _ tab dx ∧ @LT.lt Nat _ dx x ∧ @LT.lt Nat _ x db)
    (B : Below (lawA d0 u0 gd outer) h₀ outer h₀) (F : Fr h₀ L s.heap mm) (X : (Mine.hd.heap_1 w.params).In h₀) (T : Top p loose mean mg mb h₀)
    (N : News h₀ L s.heap ((tab, oT) :: (x, instObj 235 dx) :: (dx, trD w.params q1 q2 q3 q4 q5 q6 w1 w2 w3 w6 ks f db (hT T0 (node T0 (fun _ => []) (8 * ks) 0))) :: (db, oD) :: own))
    (m1 : mm (Str.ofString "_law_hash") = some (.ref f)) (m2 : mm (Str.ofString "size") = some (.int (ks : Int) t1)) (m3 : mm (Str.ofString "mine") = some (.int (mine : Int) t2)) (m4 : mm (Str.ofString "tree") = some (.ref x)) (hdp : d0 + 60 < recursionLimit) (hun : u0 + 600 < cLine)
    (ret : ∀ hh px pdx pb gl bt vs1 l1 e e2 tt tn tr1 tr2 tr3 tr4 tr5 tr6 u1 u2 u5 core' h' m' tk', DeedInv w tab x dx db hh px pdx pb f q1 q2 q3 q4 q5 q6 w1 w2 w3 tr1 tr2 tr3 tr4 tr5 tr6 u1 u2 u5 ks mine e 0 core' → TxtsAre vs1 l1 → vs1.length = 8 * ks →
      (hh == sysModules) = false → (@LT.lt Nat _ db hh ∧ @LT.lt Nat _ hh bt ∧ @LT.lt Nat _ bt gl ∧ @LT.lt Nat _ gl pdx ∧ @LT.lt Nat _ pdx px ∧ @LT.lt Nat _ px pb) → Fr h₀ L h' m' → News h₀ L h' (core' ++ (gl, lstObj (vs1.set 0 (.bytes (List.toArray [116, 117, 114, 110, 101, 100]) tt)) e2) :: (bt, tupObj vs1) :: own) →
      m' (Str.ofString "held") = some (.ref hh) → m' (Str.ofString "proof") = some (.ref px) → m' (Str.ofString "given") = some (.ref gl) → m' (Str.ofString "first") = some (.ref bt) → m' (Str.ofString "name") = some (.bytes (List.toArray (be ks mine)) tn) →
      Agree [Str.ofString "name", Str.ofString "held", Str.ofString "first", Str.ofString "given", Str.ofString "proof"] m' mm →
      wpAny (model PySem.Challenge.rw_lh0065_01.row.prog w) ((lawA d0 u0 gd outer).deeper (envX (Str.ofString "law") sc L a ccd cl)) (execs (body.drop 13) (envX (Str.ofString "law") sc L a ccd cl)) P E { s with heap := h', toks := tk' }) :
    wpAny (model PySem.Challenge.rw_lh0065_01.row.prog w) ((lawA d0 u0 gd outer).deeper (envX (Str.ofString "law") sc L a ccd cl)) (execs (body.drop 6) (envX (Str.ofString "law") sc L a ccd cl)) P E s := by
  cases hd
  obtain ⟨o1, o2, o3⟩ := hord
  have hk6 := two_256 hks hm
  have hnum := num_be ks mine hk6
  have hv1 := named_cons m1 (named_cons m2 (named_cons m3 (named_cons m4 named_nil)))
  have F1 := fr_named _ F hv1
  clear F
  have hlt9 := hlt
  replace hlt : AllLt dx own := allLt_of hlt
  k_steps
  refine go_ ?_
  rename News _ _ _ _ => N8
  rename Fr _ _ _ _ => F8
  rename Obj.IsDictOf (intKind _ _) _ (intKeyPairs _) => hoH
  rename (_ == sysModules) = false => hhs
  refine hideG fun hG => ?_
  obtain ⟨hh, e9⟩ := name1 N8
  subst e9
  obtain ⟨oH, e9⟩ := nameO1 N8
  subst e9
  refine hG ?_
  clear hG
  obtain ⟨th, hoH⟩ : ∃ th, oH.IsDictOf (intKind PySem.Challenge.rw_lh0065_01.row.prog w) (stored [] (mine : Int) (.bytes (List.toArray [102, 105, 114, 115, 116]) th)) := ⟨_, hoH⟩
  have hhl : ∀ q ∈ own, q.1 < hh := of_allLt (by walk_at "MY conj")
  have N7 := news_sub N8 (r := (tab, oT) :: (x, instObj 235 dx) :: (dx, trD w.params q1 q2 q3 q4 q5 q6 w1 w2 w3 w6 ks f db (hT T0 (node T0 (fun _ => []) (8 * ks) 0))) :: (db, oD) :: (hh, oH) :: own) (by walk_at "MY mems")
  k_here
  k_dflt (refine' set_use hash ⟨?k1, F8, ?k3, N7, ?k5, rfl⟩ hoD hoT hTR hdb ht hks hm ?k6 ?k7 ?k8 ?k9 ?k10 ⟨o1, o2, o3⟩ ?k11 ?k12 ?_)
  case k1 => k_asm
  case k3 => k_asm
  case k5 => k_asm
  case k6 => decide
  case k7 => omega
  case k8 => omega
  case k9 => exact ownOff_cons (ne4 (by omega) (by omega) (by omega) (by omega)) (ownOff_lt hlt9 o2 o3 hoff)
  case k10 => exact sub_cons hH
  case k11 => k_room
  case k12 => k_units
  clear N8 F8 N7
  intro r9 rs oT1 kT1 oD1 kD1 u61 h9 tk9 hoT1 hTR1 hoD1 hOk1 hDl1 hTl1 F8 N8 hrs hrl hltr hdr
  k_lt hltr
  have hlm : updL (fun _ => []) mine [102, 105, 114, 115, 116] mine = [102, 105, 114, 115, 116] := if_pos rfl
  k_steps
  refine go_ ?_
  rename News _ _ _ _ => N8
  rename Fr _ _ _ _ => F8
  k_here
  k_dflt (refine' branch_spec ⟨?k1, F8, ?k3, N8, ?k5, rfl⟩ ?p1 ?p2 ?p3 hoD1 hOk1 hdb hks (be_length _ _) ?z1 ?z2 ?z3 ?z4 ?_)
  case k1 => k_asm
  case k3 => k_asm
  case k5 => k_asm
  case p1 => walk_at "MY pick"
  case p2 => walk_at "MY pick"
  case p3 => walk_at "MY pick"
  case z1 => rw [hnum]; exact hm
  case z2 => rw [hnum, hlm]; exact fun h => nomatch h
  case z3 => k_room
  case z4 => k_units
  clear N8 F8
  rw [hnum]
  intro bt vs9 h10 tk10 F8 N8 hv9 hl9 hltb
  k_lt hltb
  k_steps
  refine go_ ?_
  rename News _ _ _ _ => N8
  rename Fr _ _ _ _ => F8
  refine hideG fun hG => ?_
  obtain ⟨gl, e9⟩ := name1 N8
  subst e9
  refine hG ?_
  clear hG
  k_here
  k_dflt (refine' proof_spec ⟨?k1, F8, ?k3, N8, ?k5, rfl⟩ (.head _) hks (be_length _ _) hl9 ?z3 ?z4 ?_)
  case k1 => k_asm
  case k3 => k_asm
  case k5 => k_asm
  case z3 => k_room
  case z4 => k_units
  clear N8 F8
  intro px pdx pb e9 tr1 tr2 tr3 tr4 tr5 tr6 v1 v2 v3 v5 h11 tk11 F8 N8 hltp l1 l2
  k_lt hltp
  k_steps
  refine go_ ?_
  rename News _ _ _ _ => N8
  rename Fr _ _ _ _ => F8
  refine ret hh px pdx pb gl bt vs9 _ e9 _ _ _ tr1 tr2 tr3 tr4 tr5 tr6 v1 v2 v5 (lawLed w.params tab x dx db hh px pdx pb f oT1 oD1 oH q1 q2 q3 q4 q5 q6 w1 w2 w3 u61 tr1 tr2 tr3 tr4 tr5 tr6 v1 v2 v3 v5 ks mine (hT (setT T0 (fun _ => []) (8 * ks) mine [102, 105, 114, 115, 116]) (node (setT T0 (fun _ => []) (8 * ks) mine [102, 105, 114, 115, 116]) (updL (fun _ => []) mine [102, 105, 114, 115, 116]) (8 * ks) 0)) [102, 105, 114, 115, 116] vs9 e9) _ _ _
    ⟨oT1, oD1, oH, kT1, kD1, stored [] (mine : Int) (.bytes (List.toArray [102, 105, 114, 115, 116]) th), u61, v3, setT T0 (fun _ => []) (8 * ks) mine [102, 105, 114, 115, 116], updL (fun _ => []) mine [102, 105, 114, 115, 116], vs9, by rw [hlm], ?_⟩ hv9 hl9 hhs ?_ F8 (news_sub N8 (by show ∀ q ∈ _ :: _ :: _ :: _ :: _ :: _ :: _ :: _ :: _ :: _ :: own, _; walk_at "MY mems")) rfl rfl rfl rfl rfl (agree_of (by walk_at "MY agree") hv1)
  · refine ⟨hoT1, hTR1, hoD1, hOk1, hoH, held_nil.set hm _, Nat.le_refl _, hv9, ?_, updL_len (fun _ => by simp) (by decide), blank_grow ht.nodes setT_pre, by omega, by omega⟩
    rw [hlm]; exact fun h => nomatch h
  · refine ⟨?_, ?_, ?_, ?_, l1, l2⟩ <;> omega
end
end
theorem flush17 : True := by first | walk1 | trivial
section
local macro_rules | `(tactic| omega) => `(tactic| first | walk_at "MY om" | omega +splitDisjunctions)
local macro_rules | `(tactic| walk_at "exec For Name Subscript cons nil") => `(tactic| (k_here; (rename Fr _ _ _ _ => lF'); (with_unfolding_all refine' For_invVF lF' ?k1 ?k2 ?_; (case k1 => exact rfl); (case k2 => exact rfl); k_whole)))
section
variable {w : World} {p : Program} {loose : List Str} {mean : ExcName → Option Value} {mg mb : Str → Option Value} {d0 u0 : Nat} {gd : Option (List Code)} {a : Addr} {ccd : Value} {outer : List Env}
  {h₀ : Heap} {L : Addr} {mm : Loc} {own : Led} {s : Shared} {Q E : Value → Shared → Prop}
theorem nameI {vs : List Value} {zs : List Int} (_h : IntsAre vs zs) : ∃ z : List Value, z = vs := ⟨vs, rfl⟩
theorem ints_get : ∀ {vs : List Value} {zs : List Int} {i : Nat} {v : Value}, IntsAre vs zs → vs[i]? = some v → ∃ z t, v = .int z t
  | _, _, _, _, .nil, h => nomatch h
  | _, _, 0, _, .cons n t _, h => ⟨n, t, (Option.some.inj h).symm⟩
  | _, _, _ + 1, _, .cons _ _ k, h => ints_get k h
theorem inv_addr {tab x dx db hh px pdx pb f : Addr} {q1 q2 q3 q4 q5 q6 w1 w2 w3 tr1 tr2 tr3 tr4 tr5 tr6 u1 u2 u5 : Tok} {ks mine e n : Nat} {news : Led} (I : DeedInv w tab x dx db hh px pdx pb f q1 q2 q3 q4 q5 q6 w1 w2 w3 tr1 tr2 tr3 tr4 tr5 tr6 u1 u2 u5 ks mine e n news) : news.map (·.1) = [tab, x, dx, db, hh, px, pdx, pb] := by
  obtain ⟨oT, oD, oH, kT, kD, kH, w6, u3, T0, leaf, vsB, rfl, _⟩ := I
  rfl
theorem law_deeds {tab f x dx db hh px pdx pb : Addr} {H : Led} (hash : HashSpec w p loose mean mg mb f tab H) {sc : Scope} {body : List Stmt} {P : Flow → Shared → Prop} {cl : List (Str × Addr)} {ks mine e : Nat} {t2 t3 t4 : Tok}
    {q1 q2 q3 q4 q5 q6 w1 w2 w3 tr1 tr2 tr3 tr4 tr5 tr6 u1 u2 u5 : Tok} {core : Led} {sl : Addr} {vs : List Value} {zs : List Int} (hd : lawFd w.params = some (sc, body))
    (hs : h₀.IsList sl vs.toArray) (hi : IntsAre vs zs) (hz : ¬ ((63 : Nat) : Int) < ((zs.length : Nat) : Int))
    (hks : ks = 1 ∨ ks = 2) (hm : mine < 2 ^ (8 * ks)) (I : DeedInv w tab x dx db hh px pdx pb f q1 q2 q3 q4 q5 q6 w1 w2 w3 tr1 tr2 tr3 tr4 tr5 tr6 u1 u2 u5 ks mine e 0 core)
    (hord : @LT.lt Nat _ tab dx ∧ @LT.lt Nat _ dx x ∧ @LT.lt Nat _ x db ∧ @LT.lt Nat _ db hh ∧ @LT.lt Nat _ hh pdx ∧ @LT.lt Nat _ pdx px ∧ @LT.lt Nat _ px pb) (hdb : (db == sysModules) = false)
    (hoff : OwnOff own [x, dx, db, tab]) (hhh : ∀ q ∈ own, q.1 ≠ hh) (hpd : ∀ q ∈ own, q.1 ≠ pdx) (hpb : ∀ q ∈ own, q.1 ≠ pb) (hH : ∀ q ∈ H, q ∈ own)
    (B : Below (lawA d0 u0 gd outer) h₀ outer h₀) (F : Fr h₀ L s.heap mm) (X : (Mine.hd.heap_1 w.params).In h₀) (T : Top p loose mean mg mb h₀) (N : News h₀ L s.heap (core ++ own))
    (m0 : mm (Str.ofString "script") = some (.ref sl)) (m2 : mm (Str.ofString "depth") = some (.int ((8 * ks : Nat) : Int) t2)) (m3 : mm (Str.ofString "mine") = some (.int (mine : Int) t3))
    (m4 : mm (Str.ofString "size") = some (.int (ks : Int) t4)) (m5 : mm (Str.ofString "tree") = some (.ref x)) (m6 : mm (Str.ofString "held") = some (.ref hh)) (m7 : mm (Str.ofString "proof") = some (.ref px))
    (hE : PassesOwn (model PySem.Challenge.rw_lh0065_01.row.prog w) (top5 none (d0 + 1) (u0 + 3) gd (Str.ofString "law") sc L a ccd cl outer) (envX (Str.ofString "law") sc L a ccd cl) E)
    (hE2 : ∀ e', PassesOwnAt (model PySem.Challenge.rw_lh0065_01.row.prog w) (((lawA d0 u0 gd outer).deeper (envX (Str.ofString "law") sc L a ccd cl)).mark (some (.ref e'))) ((lawA d0 u0 gd outer).deeper (envX (Str.ofString "law") sc L a ccd cl)) (envX (Str.ofString "law") sc L a ccd cl) E)
    (hdp : d0 + 60 < recursionLimit) (hun : u0 + 600 < cLine)
    (ret : ∀ n core' h' m' tk', n ≤ 63 → DeedInv w tab x dx db hh px pdx pb f q1 q2 q3 q4 q5 q6 w1 w2 w3 tr1 tr2 tr3 tr4 tr5 tr6 u1 u2 u5 ks mine e n core' → Fr h₀ L h' m' → News h₀ L h' (core' ++ own) →
      Agree [Str.ofString "number", Str.ofString "branch", Str.ofString "elder", Str.ofString "parts", Str.ofString "value", Str.ofString "told", Str.ofString "part", Str.ofString "key", Str.ofString "place"] m' mm →
      wpAny (model PySem.Challenge.rw_lh0065_01.row.prog w) ((lawA d0 u0 gd outer).deeper (envX (Str.ofString "law") sc L a ccd cl)) (execs (body.drop 14) (envX (Str.ofString "law") sc L a ccd cl)) P E { s with heap := h', toks := tk' }) :
    wpAny (model PySem.Challenge.rw_lh0065_01.row.prog w) ((lawA d0 u0 gd outer).deeper (envX (Str.ofString "law") sc L a ccd cl)) (execs (body.drop 13) (envX (Str.ofString "law") sc L a ccd cl)) P E s := by
  obtain ⟨dbody, hdb9⟩ : ∃ dbody, deedBody w.params = some (sc, dbody) := by cases hd; exact ⟨_, rfl⟩
  have hdb10 := hdb9
  cases hd
  cases hdb9
  have hv0 := named_cons m0 named_nil
  have F1 := fr_named _ F hv0
  clear F
  k_steps
  refine go_ ?_
  rename News _ _ _ _ => N8
  rename Fr _ _ _ _ => F8
  rename IntsAre _ (List.take _ _) => hiw
  refine hideG fun hG => ?_
  obtain ⟨D9, e9⟩ := name1 N8
  subst e9
  obtain ⟨ws, e9⟩ := nameI hiw
  subst e9
  refine hG ?_
  clear hG
  have hlen := hiw.length
  have hle : ws.length ≤ 63 := by omega
  have hD9 : ∀ q ∈ core ++ own, q.1 < D9 := by with_reducible assumption
  have hDo : ∀ q ∈ own, q.1 < D9 := fun q hq => hD9 q (List.mem_append_right _ hq)
  have hDc : ∀ b ∈ [tab, x, dx, db, hh, px, pdx, pb], b < D9 := by
    intro b hb
    rw [← inv_addr I] at hb
    obtain ⟨q, hq, rfl⟩ := List.mem_map.mp hb
    exact hD9 q (List.mem_append_left _ hq)
  have hsz := fun q hq => Heap.lt_size (N8 q hq).1
  rw [← frOf_eq (S := []) hv0 Agree.refl] at F8
  refine' loop_list (vs := ws) (news := core ++ ((D9, lstObj ws 0) :: own)) [Str.ofString "number", Str.ofString "branch", Str.ofString "elder", Str.ofString "parts", Str.ofString "value", Str.ofString "told", Str.ofString "part", Str.ofString "key", Str.ofString "place"] []
    (fun i vals n₁ => vals = [] ∧ ∃ core', n₁ = core' ++ ((D9, lstObj ws 0) :: own) ∧ DeedInv w tab x dx db hh px pdx pb f q1 q2 q3 q4 q5 q6 w1 w2 w3 tr1 tr2 tr3 tr4 tr5 tr6 u1 u2 u5 ks mine e i core')
    rfl (News.isList N8 (.head _)) ?hbr F8 ?n1 vals_nil ⟨rfl, core, rfl, I⟩ ?turn ?done
  case hbr => exact (N8 _ (.head _)).2.1
  case n1 =>
    refine news_sub N8 fun q hq => ?_
    rcases List.mem_append.mp hq with hq | hq
    · exact .tail _ (List.mem_append_left _ hq)
    · cases hq with
      | head => exact .head _
      | tail _ hq => exact .tail _ (List.mem_append_right _ hq)
  case turn =>
    clear F8 N8
    intro i v vals u news₁ h9 tk9 own9 hiv hv hR hadr hown F1 N1
    refine hideG fun hG => ?_
    obtain ⟨rfl, core', rfl, I'⟩ := hR
    obtain ⟨z, tz, rfl⟩ := ints_get hiw hv
    refine hG ?_
    clear hG
    dsimp only at hown
    have h9b : ∀ b ∈ [tab, x, dx, db, hh, px, pdx, pb], ∀ q ∈ own9, q.1 ≠ b := by
      intro b hb q hq e
      have h1 : @LT.lt Nat _ b D9 := hDc b hb
      have h2 : @LT.lt Nat _ D9 _ := hsz (D9, _) (.head _)
      rcases hown q hq with h | h
      · rw [e] at h; exact absurd h (Nat.ne_of_lt h1)
      · rw [e] at h; exact absurd (Nat.lt_of_lt_of_le h2 h) (Nat.lt_asymm h1)
    have A0 : Agree [Str.ofString "number", Str.ofString "branch", Str.ofString "elder", Str.ofString "parts", Str.ofString "value", Str.ofString "told", Str.ofString "part", Str.ofString "key", Str.ofString "place"] _ mm := Agree.set (a := Str.ofString "number") (v := some (Value.int z tz)) (Agree.fr (vals := []) (u := u) rfl) rfl
    have hDn : ∀ b ∈ [tab, x, dx, db, hh, px, pdx, pb], D9 ≠ b := fun b hb => Nat.ne_of_gt (hDc b hb)
    refine deed_turn (s := ⟨_, _, _, _, _⟩) (own := ((D9, lstObj ws 0) :: own) ++ own9) hash hdb10 hks hm (n := i) (by omega) I' hord hdb ?f1 ?f2 ?f3 ?f4 ?f5 B F1 X T (by rw [← List.append_assoc]; exact N1) rfl ((A0 _ rfl).trans m2) ((A0 _ rfl).trans m3) ((A0 _ rfl).trans m4) ((A0 _ rfl).trans m5) ((A0 _ rfl).trans m6) ((A0 _ rfl).trans m7) hE hE2 hdp hun ?_
    case f1 =>
      intro q hq b hb
      have hb8 : b ∈ [tab, x, dx, db, hh, px, pdx, pb] := by
        rcases List.mem_cons.mp hb with rfl | hb
        · simp
        rcases List.mem_cons.mp hb with rfl | hb
        · simp
        rcases List.mem_cons.mp hb with rfl | hb
        · simp
        rcases List.mem_cons.mp hb with rfl | hb
        · simp
        cases hb
      rcases List.mem_append.mp hq with hq | hq
      · cases hq with
        | head => exact hDn b hb8
        | tail _ hq => exact hoff q hq b hb
      · exact h9b b hb8 q hq
    case f2 => exact ne_app (ne_cons (hDn hh (by simp)) hhh) (h9b hh (by simp))
    case f3 => exact ne_app (ne_cons (hDn pdx (by simp)) hpd) (h9b pdx (by simp))
    case f4 => exact ne_app (ne_cons (hDn pb (by simp)) hpb) (h9b pb (by simp))
    case f5 => exact sub_app (sub_cons hH)
    intro core2 h' m' tk' I2 F2 N2 A2
    refine TurnEnd.intro F2 N2 ⟨[], ⟨rfl, core2, rfl, I2⟩, vals_nil, ?ag⟩ ?ha ?hn ?ho
    case ag =>
      intro y hy
      refine (A2 y ?_).trans (A0 y hy)
      rw [List.contains_cons, Bool.or_eq_false_iff] at hy
      exact hy.2
    case ha => rw [List.map_append, List.map_append, inv_addr I2, inv_addr I]
    case hn => exact fun q hq => by rw [← List.append_assoc]; exact List.mem_append_left _ hq
    case ho => exact fun q hq => List.mem_append_right _ (List.mem_append_right _ hq)
  case done =>
    clear F8 N8
    intro vals u news₁ h9 tk9 hR hadr F1 N1
    refine hideG fun hG => ?_
    obtain ⟨rfl, core', rfl, I'⟩ := hR
    refine hG ?_
    clear hG
    dsimp only
    refine ret ws.length core' _ _ _ hle I' F1 (news_sub N1 fun q hq => ?_) (Agree.fr rfl)
    rcases List.mem_append.mp hq with hq | hq
    · exact List.mem_append_left _ hq
    · exact List.mem_append_right _ (.tail _ hq)
end
end
theorem flush18 : True := by first | walk1 | trivial
section
local macro_rules | `(tactic| omega) => `(tactic| first | walk_at "MY om" | omega +splitDisjunctions)
local macro_rules | `(tactic| walk_at "execs cons") => `(tactic| exists st17)
local macro_rules | `(tactic| walk_at "call ref") => `(tactic| exists st18)
local macro_rules | `(tactic| walk_at "call ref") => `(tactic| exists st1)
local macro_rules | `(tactic| walk_at "call ref") => `(tactic| exists st19)
local macro_rules | `(tactic| walk_at "subscriptTail") => `(tactic| exists gd28, tup_at (j := 1), "amRDR!")
theorem bst_vals {T : List Txt} {D : Nat} (h : NodesIn T (fun _ => []) D) {vs : List Value} (hv : TxtsAre vs ((List.range (D + 1)).map fun j => (bst T j).2)) : ∀ j, j ≤ D → ∃ t, vs[j]? = some (Value.bytes (List.toArray (hT T (node T (fun _ => []) j 0))) t) := by
  intro j hj
  have hl : vs.length = D + 1 := by rw [hv.1]; simp
  have hjv : vs[j]? = some vs[j] := List.getElem?_eq_getElem (by omega)
  obtain ⟨t, ht⟩ := hv.2 j _ hjv
  refine ⟨t, ?_⟩
  rw [hjv, ht]
  have : ((List.range (D + 1)).map fun j => (bst T j).2).getD j [] = hT T (node T (fun _ => []) j 0) := by
    rw [List.getD_eq_getElem?_getD, List.getElem?_map, List.getElem?_range (by omega)]
    show (bst T j).2 = _
    rw [bst_same h j hj]
  rw [this]
theorem fresh_nil {d p : Nat} : Fresh [] d p := fun _ _ _ => rfl
theorem post_has {T : List Txt} {leaf : Nat → Txt} {kF kF' : List (List Int × Value)} {D mine : Nat} (h : FPost T leaf kF kF' D 0) (hm : mine < 2 ^ D) : ∀ b, b < D → FHas T leaf kF' b (flip1 (mine / 2 ^ b)) := by
  intro b hb
  refine h.1 b _ ⟨by omega, by simp, ?_⟩
  rw [Nat.zero_add, Nat.one_mul]
  exact flip1_lt (by omega) (div_lt hm (by omega))
section
variable {w : World} {p : Program} {loose : List Str} {mean : ExcName → Option Value} {mg mb : Str → Option Value} {d0 u0 : Nat} {gd : Option (List Code)} {a : Addr} {ccd : Value} {outer : List Env}
  {h₀ : Heap} {L : Addr} {mm : Loc} {own : Led} {s : Shared} {Q E : Value → Shared → Prop}
theorem law_anew {tab f hh : Addr} {H : Led} (hash : HashSpec w p loose mean mg mb f tab H) {sc : Scope} {body : List Stmt} {P : Flow → Shared → Prop} {cl : List (Str × Addr)} {ks mine : Nat} {oT oH : Obj} {kT : List (Txt × Value)} {kH : List (Int × Value)} {T0 : List Txt} {leaf : Nat → Txt} {t1 t2 : Tok} (hd : lawFd w.params = some (sc, body))
    (hks : ks = 1 ∨ ks = 2) (hm : mine < 2 ^ (8 * ks)) (hoT : oT.IsDictOf (bytesKind PySem.Challenge.rw_lh0065_01.row.prog w) kT) (hTR : TabRel kT T0) (hoH : oH.IsDictOf (intKind PySem.Challenge.rw_lh0065_01.row.prog w) kH) (hHe : HeldIs kH leaf 0 (2 ^ (8 * ks))) (hHz : kH.length ≤ 100)
    (hin : NodesIn T0 leaf (8 * ks)) (hbl : NodesIn T0 (fun _ => []) (8 * ks)) (hTl : T0.length < 80000) (hlf : ∀ z, (leaf z).length ≤ 64) (hhs : (hh == sysModules) = false)
    (hoff : ∀ q ∈ own, q.1 ≠ tab) (hoffh : ∀ q ∈ own, q.1 ≠ hh) (hH : ∀ q ∈ H, q ∈ own) (hne : @Ne Nat hh tab)
    (B : Below (lawA d0 u0 gd outer) h₀ outer h₀) (F : Fr h₀ L s.heap mm) (X : (Mine.hd.heap_1 w.params).In h₀) (T : Top p loose mean mg mb h₀) (N : News h₀ L s.heap ((tab, oT) :: (hh, oH) :: own))
    (m1 : mm (Str.ofString "_law_hash") = some (.ref f)) (m2 : mm (Str.ofString "depth") = some (.int ((8 * ks : Nat) : Int) t1)) (m3 : mm (Str.ofString "mine") = some (.int (mine : Int) t2)) (m4 : mm (Str.ofString "held") = some (.ref hh)) (hdp : d0 + 60 < recursionLimit) (hun : u0 + 1000 < cLine)
    (ret : ∀ bl bvs be9 bs vs2 tr oT' kT' h' m' tk', oT'.IsDictOf (bytesKind PySem.Challenge.rw_lh0065_01.row.prog w) kT' → TabRel kT' T0 → TxtsAre vs2 (sibs T0 leaf (8 * ks) mine) → (∀ j, j ≤ 8 * ks → ∃ t, bvs[j]? = some (Value.bytes (List.toArray (hT T0 (node T0 (fun _ => []) j 0))) t)) →
      Fr h₀ L h' m' → News h₀ L h' ((tab, oT') :: (hh, oH) :: (bl, lstObj bvs be9) :: (bs, tupObj vs2) :: own) → (∀ q ∈ own, q.1 < bl) → (∀ q ∈ own, q.1 < bs) → @LT.lt Nat _ tab bl → @LT.lt Nat _ hh bl → @LT.lt Nat _ bl bs →
      m' (Str.ofString "blanks") = some (.ref bl) → m' (Str.ofString "beside") = some (.ref bs) → m' (Str.ofString "root") = some (.bytes (List.toArray (hT T0 (node T0 leaf (8 * ks) 0))) tr) →
      Agree [Str.ofString "blanks", Str.ofString "found", Str.ofString "root", Str.ofString "beside"] m' mm →
      wpAny (model PySem.Challenge.rw_lh0065_01.row.prog w) ((lawA d0 u0 gd outer).deeper (envX (Str.ofString "law") sc L a ccd cl)) (execs (body.drop 18) (envX (Str.ofString "law") sc L a ccd cl)) P E { s with heap := h', toks := tk' }) :
    wpAny (model PySem.Challenge.rw_lh0065_01.row.prog w) ((lawA d0 u0 gd outer).deeper (envX (Str.ofString "law") sc L a ccd cl)) (execs (body.drop 14) (envX (Str.ofString "law") sc L a ccd cl)) P E s := by
  cases hd
  have hv1 := named_cons m1 (named_cons m2 (named_cons m3 (named_cons m4 named_nil)))
  have F1 := fr_named _ F hv1
  clear F
  k_steps
  refine go_ ?_
  rename News _ _ _ _ => N8
  rename Fr _ _ _ _ => F8
  k_here
  k_dflt (refine' blanks_spec hash ⟨?k1, F8, ?k3, news_sub N8 (fun q h => h), ?k5, rfl⟩ hoT hTR hks ?k6 (ne_cons hne hoff) (sub_cons hH) ?k7 ?k8 ?_)
  case k1 => k_asm
  case k3 => k_asm
  case k5 => k_asm
  case k6 => omega
  case k7 => k_room
  case k8 => k_units
  clear N8 F8
  intro bl bvs be9 oT1 kT1 h9 tk9 hoT1 hTR1 F8 N8 hbv hlt l1
  rw [bst_same hbl (8 * ks) (Nat.le_refl _)] at hTR1
  have hbvs := bst_vals hbl hbv
  dsimp only at hTR1
  have hbl9 := hlt
  k_lt hlt
  k_steps
  refine go_ ?_
  rename News _ _ _ _ => N8
  rename Fr _ _ _ _ => F8
  rename Obj.IsDictOf (intKind _ _) _ [] => hdf
  rename (_ == sysModules) = false => hlf9
  refine hideG fun hG => ?_
  obtain ⟨fd, e9⟩ := name1 N8
  subst e9
  obtain ⟨of, e9⟩ := nameO1 N8
  subst e9
  refine hG ?_
  clear hG
  have N7 := news_sub N8 (r := (tab, oT1) :: (bl, lstObj bvs be9) :: (hh, oH) :: (fd, of) :: own) (by walk_at "MY mems")
  have hofd : ∀ q ∈ own, q.1 < fd := of_allLt (by walk_at "MY conj")
  have hbt : @Ne Nat bl tab := by omega
  have hhfd : @Ne Nat hh fd := by omega
  have htfd : @Ne Nat fd tab := by omega
  k_here
  k_dflt (refine' top_all (D := 8 * ks) (q := 0) hash (by omega) hbt ?o0 ?oD hlf hin hbvs (8 * ks) (Nat.le_refl _) ⟨?k1, F8, ?k3, N7, ?k5, rfl⟩ hoT1 hTR1 hoH hhs ?o1 ?o2 ?o3 hhfd hne (FTab.empty hlf9 hdf) ?o4 ?o5 fresh_nil ?o6 ?o7 rfl ?o8 ?o9 ?o10 ?_)
  case k1 => k_asm
  case k3 => k_asm
  case k5 => k_asm
  case o0 => exact fun q hq => Nat.ne_of_lt (hofd q (hH q hq))
  case oD => omega
  case o1 => omega
  case o2 => exact ne_cons htfd hoff
  case o3 => exact sub_cons hH
  case o4 => rcases hks with rfl | rfl <;> decide
  case o5 => simpa using hHe
  case o6 => exact pow2_pos _
  case o7 => simp
  case o8 => exact fun h => nomatch h
  case o9 => k_room
  case o10 => k_units
  clear N7 N8 F8
  intro oT2 kT2 own2 kF2 h10 tk10 t10 hoT2 hTR2 F8 N8 hFT2 hFP2 hsub2 hoff2
  have hown2 : ∀ q ∈ own, q ∈ own2 := fun q hq => hsub2 q (.tail _ hq) (Nat.ne_of_lt (hofd q hq))
  clear hsub2
  k_steps
  refine go_ ?_
  rename News _ _ _ _ => N8
  rename Fr _ _ _ _ => F8
  have N7 := news_sub N8 (r := (bl, lstObj bvs be9) :: (tab, oT2) :: (hh, oH) :: own2) (by walk_at "MY mems")
  k_here
  k_dflt (refine' ways_spec (T := T0) (leaf := leaf) ⟨?k1, F8, ?k3, N7, ?k5, rfl⟩ (FTab.mono hFT2 (sub_cons (sub_cons (fun _ h => h)))) ?o1 ?o2 hbvs (post_has hFP2 hm) ?o3 ?o4 ?_)
  case k1 => k_asm
  case k3 => k_asm
  case k5 => k_asm
  case o1 => omega
  case o2 => rcases hks with rfl | rfl <;> exact Nat.lt_trans hm (by decide)
  case o3 => k_room
  case o4 => k_units
  clear N7 N8 F8
  intro r9 ta bs vs2 h11 tk11 F8 N8 hv2 hlt2 l2 l3
  have hb1 := hlt2 (tab, oT2) (.head _)
  have hb2 := hlt2 (hh, oH) (.tail _ (.head _))
  dsimp only at hb1 hb2
  k_steps
  refine go_ ?_
  rename News _ _ _ _ => N8
  rename Fr _ _ _ _ => F8
  exact ret _ _ _ _ _ _ _ _ _ _ _ hoT2 hTR2 hv2 hbvs F8 (news_sub N8 (by walk_at "MY mems")) (fun q hq => hbl9 q (.tail _ hq)) (fun q hq => hlt2 q (.tail _ (.tail _ (hown2 q hq)))) l1 (hbl9 (hh, oH) (.head _)) l3 rfl rfl rfl (agree_of (by walk_at "MY agree") hv1)
end
end
theorem flush19 : True := by first | walk1 | trivial
section
local macro_rules | `(tactic| omega) => `(tactic| first | walk_at "MY om" | omega +splitDisjunctions)
local macro_rules | `(tactic| walk_at "execs cons") => `(tactic| exists st3)
local macro_rules | `(tactic| walk_at "getAttr ref") => `(tactic| ((with_reducible show wpAny _ _ (getAttr (Value.ref _) (Str.ofString "root_hash") _) _ _ _); refine stop_m (by with_reducible assumption) ?_))
local macro_rules | `(tactic| walk_at "call ref") => `(tactic| exists st15)
local macro_rules | `(tactic| walk_at "call ref") => `(tactic| exists st20)
local macro_rules | `(tactic| walk_at "subscriptTail") => `(tactic| exists gd17, kda_item (knd := intKind _ _), "amair!")
local macro_rules | `(tactic| walk_at "compareOp NotEq bytes bytes") => `(tactic| exists ne_same_txt, "!")
local macro_rules | `(tactic| walk_at "compareOp NotEq ref ref") => `(tactic| exists ne_same, "ammrru!")
section
variable {w : World} {p : Program} {loose : List Str} {mean : ExcName → Option Value} {mg mb : Str → Option Value} {d0 u0 : Nat} {gd : Option (List Code)} {a : Addr} {ccd : Value} {outer : List Env}
  {h₀ : Heap} {L : Addr} {mm : Loc} {own : Led} {s : Shared} {Q E : Value → Shared → Prop}
theorem law_checks {tab f x dx db hh px pdx pb bs : Addr} {H : Led} (hash : HashSpec w p loose mean mg mb f tab H) {sc : Scope} {body : List Stmt} {P : Flow → Shared → Prop} {cl : List (Str × Addr)} {ks mine e : Nat} {oT oD oH : Obj} {kT kD : List (Txt × Value)} {kH : List (Int × Value)} {T0 : List Txt} {leaf : Nat → Txt} {vsB vs2 : List Value}
    {t1 t2 t3 t9 tr1 tr2 tr3 tr4 tr5 tr6 u1 u2 u3 u5 q1 q2 q3 q4 q5 q6 w1 w2 w3 w6 : Tok} (hd : lawFd w.params = some (sc, body))
    (hks : ks = 1 ∨ ks = 2) (hm : mine < 2 ^ (8 * ks)) (hoT : oT.IsDictOf (bytesKind PySem.Challenge.rw_lh0065_01.row.prog w) kT) (hTR : TabRel kT T0) (hoD : oD.IsDictOf (bytesKind PySem.Challenge.rw_lh0065_01.row.prog w) kD) (ht : TreeOk kD T0 leaf (8 * ks)) (hoH : oH.IsDictOf (intKind PySem.Challenge.rw_lh0065_01.row.prog w) kH)
    (hval : valueAt kH (mine : Int) = some (.bytes (List.toArray (leaf mine)) t9)) (hTl : T0.length < 80000) (hlf : (leaf mine).length ≤ 64) (hln : leaf mine ≠ []) (hdb : (db == sysModules) = false) (hB : TxtsAre vsB (sibs T0 leaf (8 * ks) mine)) (h2 : TxtsAre vs2 (sibs T0 leaf (8 * ks) mine))
    (hoff : ∀ q ∈ own, q.1 ≠ tab) (hH : ∀ q ∈ H, q ∈ own) (hne : @LT.lt Nat _ tab dx ∧ @LT.lt Nat _ dx x ∧ @LT.lt Nat _ x db ∧ @LT.lt Nat _ db hh ∧ @LT.lt Nat _ hh pdx ∧ @LT.lt Nat _ pdx px ∧ @LT.lt Nat _ px pb ∧ @LT.lt Nat _ pb bs)
    (B : Below (lawA d0 u0 gd outer) h₀ outer h₀) (F : Fr h₀ L s.heap mm) (X : (Mine.hd.heap_1 w.params).In h₀) (TT : Top p loose mean mg mb h₀)
    (N : News h₀ L s.heap ((tab, oT) :: (x, instObj 235 dx) :: (dx, trD w.params q1 q2 q3 q4 q5 q6 w1 w2 w3 w6 ks f db (hT T0 (node T0 leaf (8 * ks) 0))) :: (db, oD) :: (hh, oH) :: (px, instObj 132 pdx) :: (pdx, prD w.params tr1 tr2 tr3 tr4 tr5 tr6 u1 u2 u3 u5 (be ks mine) (leaf mine) ks pb f) :: (pb, lstObj vsB e) :: (bs, tupObj vs2) :: own))
    (m1 : mm (Str.ofString "name") = some (.bytes (List.toArray (be ks mine)) t1)) (m2 : mm (Str.ofString "mine") = some (.int (mine : Int) t2)) (m3 : mm (Str.ofString "held") = some (.ref hh)) (m4 : mm (Str.ofString "tree") = some (.ref x)) (m5 : mm (Str.ofString "proof") = some (.ref px))
    (m6 : mm (Str.ofString "beside") = some (.ref bs)) (m7 : mm (Str.ofString "root") = some (.bytes (List.toArray (hT T0 (node T0 leaf (8 * ks) 0))) t3)) (hdp : d0 + 60 < recursionLimit) (hun : u0 + 1000 < cLine)
    (ret : ∀ oT' kT' h' tk', oT'.IsDictOf (bytesKind PySem.Challenge.rw_lh0065_01.row.prog w) kT' → TabRel kT' T0 → Fr h₀ L h' mm →
      News h₀ L h' ((tab, oT') :: (x, instObj 235 dx) :: (dx, trD w.params q1 q2 q3 q4 q5 q6 w1 w2 w3 w6 ks f db (hT T0 (node T0 leaf (8 * ks) 0))) :: (db, oD) :: (hh, oH) :: (px, instObj 132 pdx) :: (pdx, prD w.params tr1 tr2 tr3 tr4 tr5 tr6 u1 u2 u3 u5 (be ks mine) (leaf mine) ks pb f) :: (pb, lstObj vsB e) :: (bs, tupObj vs2) :: own) →
      wpAny (model PySem.Challenge.rw_lh0065_01.row.prog w) ((lawA d0 u0 gd outer).deeper (envX (Str.ofString "law") sc L a ccd cl)) (execs (body.drop 20) (envX (Str.ofString "law") sc L a ccd cl)) P E { s with heap := h', toks := tk' }) :
    wpAny (model PySem.Challenge.rw_lh0065_01.row.prog w) ((lawA d0 u0 gd outer).deeper (envX (Str.ofString "law") sc L a ccd cl)) (execs (body.drop 18) (envX (Str.ofString "law") sc L a ccd cl)) P E s := by
  cases hd
  obtain ⟨o1, o2, o3, o4, o5, o6, o7, o8⟩ := hne
  have o_tab_x := Nat.lt_trans o1 o2
  have o_tab_db := Nat.lt_trans o_tab_x o3
  have o_tab_hh := Nat.lt_trans o_tab_db o4
  have o_tab_pdx := Nat.lt_trans o_tab_hh o5
  have o_tab_px := Nat.lt_trans o_tab_pdx o6
  have o_tab_pb := Nat.lt_trans o_tab_px o7
  have o_tab_bs := Nat.lt_trans o_tab_pb o8
  have o_dx_db := Nat.lt_trans o2 o3
  have o_dx_hh := Nat.lt_trans o_dx_db o4
  have o_dx_pdx := Nat.lt_trans o_dx_hh o5
  have o_dx_px := Nat.lt_trans o_dx_pdx o6
  have o_dx_pb := Nat.lt_trans o_dx_px o7
  have o_dx_bs := Nat.lt_trans o_dx_pb o8
  have o_x_hh := Nat.lt_trans o3 o4
  have o_x_pdx := Nat.lt_trans o_x_hh o5
  have o_x_px := Nat.lt_trans o_x_pdx o6
  have o_x_pb := Nat.lt_trans o_x_px o7
  have o_x_bs := Nat.lt_trans o_x_pb o8
  have o_db_pdx := Nat.lt_trans o4 o5
  have o_db_px := Nat.lt_trans o_db_pdx o6
  have o_db_pb := Nat.lt_trans o_db_px o7
  have o_db_bs := Nat.lt_trans o_db_pb o8
  have o_hh_px := Nat.lt_trans o5 o6
  have o_hh_pb := Nat.lt_trans o_hh_px o7
  have o_hh_bs := Nat.lt_trans o_hh_pb o8
  have o_pdx_pb := Nat.lt_trans o6 o7
  have o_pdx_bs := Nat.lt_trans o_pdx_pb o8
  have o_px_bs := Nat.lt_trans o7 o8
  have hv1 := named_cons m1 (named_cons m2 (named_cons m3 (named_cons m4 (named_cons m5 (named_cons m6 (named_cons m7 named_nil))))))
  have F1 := fr_named _ F hv1
  clear F
  have hvl : vsB.length = 8 * ks := by rw [hB.1, sibs_length]
  have hk6 := num_be ks mine (two_256 hks hm)
  have hin := ht.nodes
  have hcal := calc_own hin hm (8 * ks) (Nat.le_refl _)
  rw [Nat.div_eq_of_lt hm] at hcal
  have mk : Mark := trivial
  k_steps
  refine go_ ?_
  clear mk
  rename News _ _ _ _ => N8
  rename Fr _ _ _ _ => F8
  have N7 := news_sub N8 (r := (tab, oT) :: (x, instObj 235 dx) :: (dx, trD w.params q1 q2 q3 q4 q5 q6 w1 w2 w3 w6 ks f db (hT T0 (node T0 leaf (8 * ks) 0))) :: (db, oD) :: (hh, oH) :: (px, instObj 132 pdx) :: (pdx, prD w.params tr1 tr2 tr3 tr4 tr5 tr6 u1 u2 u3 u5 (be ks mine) (leaf mine) ks pb f) :: (pb, lstObj vsB e) :: (bs, tupObj vs2) :: own) (by walk_at "MY mems")
  k_here
  k_dflt (refine' prop_root (T' := T0) (g := hT T0 (node T0 leaf (8 * ks) 0)) hash ⟨?k1, F8, ?k3, N7, ?k5, rfl⟩ ?m1 ?m2 ?m3 hks (be_length _ _) hvl hoT hTR ?z4 hB ?z9 ?z10 ?hc ?ho ?hH ?z5 ?z6 ?_)
  case k1 => k_asm
  case k3 => k_asm
  case k5 => k_asm
  case m1 => k_mem
  case m2 => k_mem
  case m3 => k_mem
  case hc => rw [hk6, sibs_length]; exact hcal
  case z4 => omega
  case ho => exact ne_cons (by omega) (ne_cons (by omega) (ne_cons (by omega) (ne_cons (by omega) (ne_cons (by omega) (ne_cons (by omega) (ne_cons (by omega) (ne_cons (by omega) hoff)))))))
  case hH => exact sub_cons (sub_cons (sub_cons (sub_cons (sub_cons (sub_cons (sub_cons (sub_cons hH)))))))
  case z5 => k_room
  case z6 => k_units
  case z9 => omega
  case z10 => exact fun b hb => by rw [sibs_len32 b hb]; decide
  clear N7 N8 F8
  intro oT1 kT1 h9 tk9 t9 hoT1 hTR1 F8 N8
  k_steps
  refine go_ ?_
  rename News _ _ _ _ => N8
  rename Fr _ _ _ _ => F8
  k_here
  k_dflt (refine' branch_spec ⟨?k1, F8, ?k3, N8, ?k5, rfl⟩ ?p1 ?p2 ?p3 hoD ht hdb hks (be_length _ _) ?z1 ?z2 ?z3 ?z4 ?_)
  case k1 => k_asm
  case k3 => k_asm
  case k5 => k_asm
  case p1 => walk_at "MY pick"
  case p2 => walk_at "MY pick"
  case p3 => walk_at "MY pick"
  case z1 => rw [hk6]; exact hm
  case z2 => rw [hk6]; exact hln
  case z3 => k_room
  case z4 => k_units
  clear N8 F8
  rw [hk6]
  intro bt9 vs9 h10 tk10 F8 N8 hv9 hl9 hlt9
  k_lt hlt9
  k_steps
  refine go_ ?_
  rename News _ _ _ _ => N8
  rename Fr _ _ _ _ => F8
  k_here
  k_dflt (refine' tget_spec ⟨?k1, F8, ?k3, N8, ?k5, rfl⟩ ?p1 ?p2 ?p3 hoD ht hdb hks (be_length _ _) ?z1 ?z2 ?z3 ?z4 ?_)
  case k1 => k_asm
  case k3 => k_asm
  case k5 => k_asm
  case p1 => walk_at "MY pick"
  case p2 => walk_at "MY pick"
  case p3 => walk_at "MY pick"
  case z1 => rw [hk6]; exact hm
  case z2 => rw [hk6]; exact hln
  case z3 => k_room
  case z4 => k_units
  clear N8 F8
  rw [hk6]
  intro h11 tk11 t11 F8 N8
  k_steps
  refine go_ ?_
  rename News _ _ _ _ => N8
  rename Fr _ _ _ _ => F8
  rw [← frOf_eq (S := []) hv1 Agree.refl] at F8
  exact ret _ _ _ _ hoT1 hTR1 F8 (news_sub N8 (by walk_at "MY mems"))
end
end
theorem flush20 : True := by first | walk1 | trivial
section
local macro_rules | `(tactic| omega) => `(tactic| first | walk_at "MY om" | omega +splitDisjunctions)
noncomputable def choiceBody (P : Params) : Option (Scope × List Stmt) := match lawFd P with
  | some (sc, b) => match b.drop 22 with
    | .If _ d _ _ :: _ => some (sc, d)
    | _ => none
  | none => none
theorem getD_le {l : List Txt} {n : Nat} (h : ∀ b ∈ l, b.length ≤ 64) : (l.getD n []).length ≤ 64 := by
  rw [List.getD_eq_getElem?_getD]
  cases hi : l[n]? with
  | none => simp
  | some b => exact h b (List.mem_of_getElem? hi)
local macro_rules | `(tactic| walk_at "execs cons") => `(tactic| exists st21)
local macro_rules | `(tactic| walk_at "binaryOp Add ref ref") => `(tactic| refine stop_ ?_)
local macro_rules | `(tactic| walk_at "subscriptTail") => `(tactic| exists st22)
local macro_rules | `(tactic| walk_at "call type:list") => `(tactic| exists gd11, list_of_tup, "aamo/c")
local macro_rules | `(tactic| walk_at "subscriptTail") => `(tactic| exists gd17, kda_item (knd := intKind _ _), "amair!")
local macro_rules | `(tactic| walk_at "subscriptTail") => `(tactic| exists gd29, lst_at (j := 0), "amRDr!")
local macro_rules | `(tactic| walk_at "execs cons") => `(tactic| exists st23)
section
variable {w : World} {p : Program} {loose : List Str} {mean : ExcName → Option Value} {mg mb : Str → Option Value} {d0 u0 : Nat} {gd : Option (List Code)} {a : Addr} {ccd : Value} {outer : List Env}
  {h₀ : Heap} {L : Addr} {mm : Loc} {own : Led} {s : Shared} {Q E : Value → Shared → Prop}
theorem law_value {hh bs : Addr} {sc : Scope} {body : List Stmt} {P : Flow → Shared → Prop} {cl : List (Str × Addr)} {mine : Nat} {oH : Obj} {kH : List (Int × Value)} {lv : Txt} {vs2 : List Value} {t2 t9 : Tok} (hd : lawFd w.params = some (sc, body))
    (hoH : oH.IsDictOf (intKind PySem.Challenge.rw_lh0065_01.row.prog w) kH) (hval : valueAt kH (mine : Int) = some (.bytes (List.toArray lv) t9)) (h2l : vs2.length ≤ 1000)
    (B : Below (lawA d0 u0 gd outer) h₀ outer h₀) (F : Fr h₀ L s.heap mm) (X : (Mine.hd.heap_1 w.params).In h₀) (TT : Top p loose mean mg mb h₀)
    (N : News h₀ L s.heap ((hh, oH) :: (bs, tupObj vs2) :: own))
    (m2 : mm (Str.ofString "mine") = some (.int (mine : Int) t2)) (m3 : mm (Str.ofString "held") = some (.ref hh)) (m6 : mm (Str.ofString "beside") = some (.ref bs)) (hdp : d0 + 60 < recursionLimit) (hun : u0 + 1000 < cLine)
    (ret : ∀ br c h' m' tk', Fr h₀ L h' m' → News h₀ L h' ((br, lstObj vs2 c) :: (hh, oH) :: (bs, tupObj vs2) :: own) → (∀ q ∈ own, q.1 < br) → @LT.lt Nat _ hh br → @LT.lt Nat _ bs br → m' (Str.ofString "value") = some (.bytes (List.toArray lv) t9) → m' (Str.ofString "branch") = some (.ref br) → Agree [Str.ofString "value", Str.ofString "branch"] m' mm →
      wpAny (model PySem.Challenge.rw_lh0065_01.row.prog w) ((lawA d0 u0 gd outer).deeper (envX (Str.ofString "law") sc L a ccd cl)) (execs (body.drop 22) (envX (Str.ofString "law") sc L a ccd cl)) P E { s with heap := h', toks := tk' }) :
    wpAny (model PySem.Challenge.rw_lh0065_01.row.prog w) ((lawA d0 u0 gd outer).deeper (envX (Str.ofString "law") sc L a ccd cl)) (execs (body.drop 20) (envX (Str.ofString "law") sc L a ccd cl)) P E s := by
  cases hd
  have hv1 := named_cons m2 (named_cons m3 (named_cons m6 named_nil))
  have F1 := fr_named _ F hv1
  clear F
  k_steps
  refine go_ ?_
  rename News _ _ _ _ => N8
  rename Fr _ _ _ _ => F8
  exact ret _ _ _ _ _ F8 N8 (of_allLt (by walk_at "MY conj")) (by omega) (by omega) rfl rfl (agree_of (by walk_at "MY agree") hv1)
theorem choice_value {hh sl : Addr} {sc : Scope} {body : List Stmt} {P : Flow → Shared → Prop} {cl : List (Str × Addr)} {mine : Nat} {oH : Obj} {kH : List (Int × Value)} {lv : Txt} {t2 t9 t8 : Tok} {vs : List Value} {zs : List Int} (hd : choiceBody w.params = some (sc, body))
    (hs : h₀.IsList sl vs.toArray) (hi : IntsAre vs zs) (hz : ¬ ((63 : Nat) : Int) < ((zs.length : Nat) : Int)) (hz2 : 2 < zs.length)
    (hoH : oH.IsDictOf (intKind PySem.Challenge.rw_lh0065_01.row.prog w) kH) (hval : valueAt kH (mine : Int) = some (.bytes (List.toArray lv) t9)) (hlv : lv.length ≤ 64)
    (B : Below (lawA d0 u0 gd outer) h₀ outer h₀) (F : Fr h₀ L s.heap mm) (X : (Mine.hd.heap_1 w.params).In h₀) (TT : Top p loose mean mg mb h₀)
    (N : News h₀ L s.heap ((hh, oH) :: own))
    (m1 : mm (Str.ofString "script") = some (.ref sl)) (m2 : mm (Str.ofString "mine") = some (.int (mine : Int) t2)) (m3 : mm (Str.ofString "held") = some (.ref hh)) (m4 : mm (Str.ofString "value") = some (.bytes (List.toArray lv) t8)) (hdp : d0 + 60 < recursionLimit) (hun : u0 + 1000 < cLine)
    (ret : ∀ v t h' m' tk', v.length ≤ 64 → Fr h₀ L h' m' → News h₀ L h' ((hh, oH) :: own) → m' (Str.ofString "value") = some (.bytes (List.toArray v) t) → Agree [Str.ofString "value"] m' mm →
      wpAny (model PySem.Challenge.rw_lh0065_01.row.prog w) ((lawA d0 u0 gd outer).deeper (envX (Str.ofString "law") sc L a ccd cl)) (execs (body.drop 1) (envX (Str.ofString "law") sc L a ccd cl)) P E { s with heap := h', toks := tk' }) :
    wpAny (model PySem.Challenge.rw_lh0065_01.row.prog w) ((lawA d0 u0 gd outer).deeper (envX (Str.ofString "law") sc L a ccd cl)) (execs body (envX (Str.ofString "law") sc L a ccd cl)) P E s := by
  cases hd
  have hv1 := named_cons m1 (named_cons m2 (named_cons m3 (named_cons m4 named_nil)))
  have F1 := fr_named _ F hv1
  clear F
  k_steps
  · refine go_ ?_
    rename News _ _ _ _ => N8
    rename Fr _ _ _ _ => F8
    refine add_lsts (s := ⟨_, _, _, _, _⟩) (vs := [Value.bytes (List.toArray lv) t9]) F8 N8 (News.isList N8 (.head _)) (lstK (X.keeps F8.keep) rfl) (Nat.le_of_ble_eq_true rfl) ?_
    clear F8 N8
    intro D9 h9 F8 N8 hlt9
    k_lt hlt9
    k_steps
    refine go_ ?_
    rename News _ _ _ _ => N8
    rename Fr _ _ _ _ => F8
    rename_i n9 hn9
    refine lst_txt N8 (.head _) (txts_cons (txts_cons (txts_cons (txts_cons (txts_cons txts_nil))))) rfl (by show n9 < 5; omega) (by omega) ?_
    intro t7
    k_steps
    refine go_ ?_
    rename News _ _ _ _ => N7
    rename Fr _ _ _ _ => F7
    exact ret _ _ _ _ _ (getD_le (List.forall_mem_cons.mpr ⟨hlv, by decide⟩)) F7 (news_sub N7 (by walk_at "MY mems")) rfl (agree_of (by walk_at "MY agree") hv1)
  · refine go_ ?_
    rename News _ _ _ _ => N8
    rename Fr _ _ _ _ => F8
    exact ret _ _ _ _ _ hlv F8 (news_sub N8 (by walk_at "MY mems")) rfl (agree_of (by walk_at "MY agree") hv1)
end
end
theorem flush21 : True := by first | walk1 | trivial
section
local macro_rules | `(tactic| omega) => `(tactic| first | walk_at "MY om" | omega +splitDisjunctions)
local macro_rules | `(tactic| walk_at "binaryOp Add ref ref") => `(tactic| refine stop_ ?_)
local macro_rules | `(tactic| walk_at "subscriptTail") => `(tactic| exists st22)
local macro_rules | `(tactic| walk_at "call type:list") => `(tactic| exists gd11, list_of_tup, "aamo/c")
local macro_rules | `(tactic| walk_at "subscriptTail") => `(tactic| exists gd17, kda_item (knd := intKind _ _), "amair!")
local macro_rules | `(tactic| walk_at "subscriptTail") => `(tactic| exists gd29, lst_at (j := 0), "amRDr!")
section
variable {w : World} {p : Program} {loose : List Str} {mean : ExcName → Option Value} {mg mb : Str → Option Value} {d0 u0 : Nat} {gd : Option (List Code)} {a : Addr} {ccd : Value} {outer : List Env}
  {h₀ : Heap} {L : Addr} {mm : Loc} {own : Led} {s : Shared} {Q E : Value → Shared → Prop}
theorem choice_two {br bs : Addr} {sc : Scope} {body : List Stmt} {P : Flow → Shared → Prop} {cl : List (Str × Addr)} {sl : Addr} {vs2 vsC : List Value} {l2 lC : List Txt} {c ks : Nat} {t1 : Tok} {vs : List Value} {zs : List Int} (hd : choiceBody w.params = some (sc, body))
    (hs : h₀.IsList sl vs.toArray) (hi : IntsAre vs zs) (hz : ¬ ((63 : Nat) : Int) < ((zs.length : Nat) : Int)) (hz2 : 2 < zs.length) (hks : ks = 1 ∨ ks = 2)
    (h2 : TxtsAre vs2 l2) (h2l : l2.length = 8 * ks) (h232 : ∀ b ∈ l2, b.length = 32) (hC : TxtsAre vsC lC) (hCl : lC.length = 8 * ks) (hC32 : ∀ b ∈ lC, b.length = 32)
    (B : Below (lawA d0 u0 gd outer) h₀ outer h₀) (F : Fr h₀ L s.heap mm) (X : (Mine.hd.heap_1 w.params).In h₀) (TT : Top p loose mean mg mb h₀)
    (N : News h₀ L s.heap ((br, lstObj vsC c) :: (bs, tupObj vs2) :: own)) (hbr : ∀ q ∈ own, q.1 ≠ br) (hbs : @Ne Nat bs br)
    (m1 : mm (Str.ofString "script") = some (.ref sl)) (m2 : mm (Str.ofString "depth") = some (.int ((8 * ks : Nat) : Int) t1)) (m3 : mm (Str.ofString "branch") = some (.ref br)) (m4 : mm (Str.ofString "beside") = some (.ref bs)) (hdp : d0 + 60 < recursionLimit) (hun : u0 + 1000 < cLine)
    (ret : ∀ vsC' lC' h' tk', TxtsAre vsC' lC' → lC'.length = 8 * ks → (∀ b ∈ lC', b.length = 32) → Fr h₀ L h' mm → News h₀ L h' ((br, lstObj vsC' c) :: (bs, tupObj vs2) :: own) → P .next { s with heap := h', toks := tk' }) :
    wpAny (model PySem.Challenge.rw_lh0065_01.row.prog w) ((lawA d0 u0 gd outer).deeper (envX (Str.ofString "law") sc L a ccd cl)) (execs (body.drop 2) (envX (Str.ofString "law") sc L a ccd cl)) P E s := by
  cases hd
  have hv1 := named_cons m1 (named_cons m2 (named_cons m3 (named_cons m4 named_nil)))
  have F1 := fr_named _ F hv1
  clear F
  have hcl : vsC.length = 8 * ks := by rw [hC.1, hCl]
  k_steps
  · refine go_ ?_
    rename News _ _ _ _ => N8
    rename Fr _ _ _ _ => F8
    rename_i n9 hn9
    refine tup_txt N8 (.tail _ (.head _)) h2 rfl (by omega) (by omega) ?_
    intro t7
    have h32 := getD_len32 (n := n9) h232 (by omega)
    generalize l2.getD n9 [] = x9 at h32
    k_steps
    rename News _ _ _ _ => N7
    rename Fr _ _ _ _ => F7
    rw [← frOf_eq (S := []) hv1 Agree.refl] at F7
    rename_i n7 hn7 g7
    exact ret (vsC.set n7 (.bytes (List.toArray x9) t7)) (lC.set n7 x9) _ _ (txts_set hC) (by rw [List.length_set]; exact hCl) (set_len32 hC32 h32) F7 (news_sub N7 (by walk_at "MY mems"))
  · rename News _ _ _ _ => N8
    rename Fr _ _ _ _ => F8
    rw [← frOf_eq (S := []) hv1 Agree.refl] at F8
    exact ret _ _ _ _ hC hCl hC32 F8 (news_sub N8 (by walk_at "MY mems"))
local macro_rules | `(tactic| walk_at "execs cons") => `(tactic| exists st24)
theorem choice_one {br bs bl : Addr} {sc : Scope} {body : List Stmt} {P : Flow → Shared → Prop} {cl : List (Str × Addr)} {sl : Addr} {vs2 vsC bvs : List Value} {l2 lC : List Txt} {rt b0 : Txt} {c ks be9 : Nat} {t1 t3 t4 : Tok} {vs : List Value} {zs : List Int} (hd : choiceBody w.params = some (sc, body))
    (hs : h₀.IsList sl vs.toArray) (hi : IntsAre vs zs) (hz : ¬ ((63 : Nat) : Int) < ((zs.length : Nat) : Int)) (hz2 : 2 < zs.length) (hks : ks = 1 ∨ ks = 2) (hrt : rt.length = 32) (hb0 : bvs[0]? = some (.bytes (List.toArray b0) t4)) (hb032 : b0.length = 32)
    (h2 : TxtsAre vs2 l2) (h2l : l2.length = 8 * ks) (h232 : ∀ b ∈ l2, b.length = 32) (hC : TxtsAre vsC lC) (hCl : lC.length = 8 * ks) (hC32 : ∀ b ∈ lC, b.length = 32)
    (B : Below (lawA d0 u0 gd outer) h₀ outer h₀) (F : Fr h₀ L s.heap mm) (X : (Mine.hd.heap_1 w.params).In h₀) (TT : Top p loose mean mg mb h₀)
    (N : News h₀ L s.heap ((br, lstObj vsC c) :: (bl, lstObj bvs be9) :: (bs, tupObj vs2) :: own)) (hbr : ∀ q ∈ own, q.1 ≠ br) (hbs : @Ne Nat bs br) (hbl : @Ne Nat bl br)
    (m1 : mm (Str.ofString "script") = some (.ref sl)) (m2 : mm (Str.ofString "depth") = some (.int ((8 * ks : Nat) : Int) t1)) (m3 : mm (Str.ofString "branch") = some (.ref br)) (m4 : mm (Str.ofString "beside") = some (.ref bs)) (m5 : mm (Str.ofString "blanks") = some (.ref bl)) (m6 : mm (Str.ofString "root") = some (.bytes (List.toArray rt) t3)) (hdp : d0 + 60 < recursionLimit) (hun : u0 + 1000 < cLine)
    (ret : ∀ vsC' lC' h' tk', TxtsAre vsC' lC' → lC'.length = 8 * ks → (∀ b ∈ lC', b.length = 32) → Fr h₀ L h' mm → News h₀ L h' ((br, lstObj vsC' c) :: (bl, lstObj bvs be9) :: (bs, tupObj vs2) :: own) → 
      wpAny (model PySem.Challenge.rw_lh0065_01.row.prog w) ((lawA d0 u0 gd outer).deeper (envX (Str.ofString "law") sc L a ccd cl)) (execs (body.drop 2) (envX (Str.ofString "law") sc L a ccd cl)) P E { s with heap := h', toks := tk' }) :
    wpAny (model PySem.Challenge.rw_lh0065_01.row.prog w) ((lawA d0 u0 gd outer).deeper (envX (Str.ofString "law") sc L a ccd cl)) (execs (body.drop 1) (envX (Str.ofString "law") sc L a ccd cl)) P E s := by
  cases hd
  have hv1 := named_cons m1 (named_cons m2 (named_cons m3 (named_cons m4 (named_cons m5 (named_cons m6 named_nil)))))
  have F1 := fr_named _ F hv1
  clear F
  have hcl : vsC.length = 8 * ks := by rw [hC.1, hCl]
  have hcl2 : vs2.length = 8 * ks := by rw [h2.1, h2l]
  k_steps
  · refine go_ ?_
    rename News _ _ _ _ => N8
    rename Fr _ _ _ _ => F8
    refine add_lsts (s := ⟨_, _, _, _, _⟩) (vs := [Value.bytes (List.toArray rt) t3, Value.bytes (List.toArray b0) t4]) (us := vs2) F8 N8 (News.isList N8 (.tail _ (.head _))) (News.isList N8 (.head _)) (by show 2 + vs2.length ≤ _; omega) ?_
    clear F8 N8
    intro D9 h9 F8 N8 hlt9
    k_lt hlt9
    dsimp only
    k_steps
    refine go_ ?_
    rename News _ _ _ _ => N8
    rename Fr _ _ _ _ => F8
    rename_i n9 hn9
    refine lst_txt (l := rt :: b0 :: l2) N8 (.head _) (txts_cons (txts_cons h2)) rfl (by show n9 < l2.length + 1 + 1; omega) (by omega) ?_
    intro t7
    have h32 := getD_len32 (l := rt :: b0 :: l2) (n := n9) (List.forall_mem_cons.mpr ⟨hrt, List.forall_mem_cons.mpr ⟨hb032, h232⟩⟩) (by show n9 < l2.length + 1 + 1; omega)
    generalize (rt :: b0 :: l2).getD n9 [] = x9 at h32
    dsimp only
    k_steps
    refine go_ ?_
    rename News _ _ _ _ => N7
    rename Fr _ _ _ _ => F7
    rw [← frOf_eq (S := []) hv1 Agree.refl] at F7
    rename_i n7 hn7 g7
    exact ret (vsC.set n7 (.bytes (List.toArray x9) t7)) (lC.set n7 x9) _ _ (txts_set hC) (by rw [List.length_set]; exact hCl) (set_len32 hC32 h32) F7 (news_sub N7 (by walk_at "MY mems"))
  · refine go_ ?_
    rename News _ _ _ _ => N8
    rename Fr _ _ _ _ => F8
    rw [← frOf_eq (S := []) hv1 Agree.refl] at F8
    exact ret _ _ _ _ hC hCl hC32 F8 (news_sub N8 (by walk_at "MY mems"))
end
end
theorem flush22 : True := by first | walk1 | trivial
section
local macro_rules | `(tactic| omega) => `(tactic| first | walk_at "MY om" | omega +splitDisjunctions)
local macro_rules | `(tactic| walk_at "execs cons") => `(tactic| exists st25)
local macro_rules | `(tactic| walk_at "execs cons") => `(tactic| exists st26)
section
variable {w : World} {p : Program} {loose : List Str} {mean : ExcName → Option Value} {mg mb : Str → Option Value} {d0 u0 : Nat} {gd : Option (List Code)} {a : Addr} {ccd : Value} {outer : List Env}
  {h₀ : Heap} {L : Addr} {mm : Loc} {own : Led} {s : Shared} {Q E : Value → Shared → Prop}
theorem law_choice {hh br bs bl sl : Addr} {sc : Scope} {body : List Stmt} {P : Flow → Shared → Prop} {cl : List (Str × Addr)} {mine ks be9 c : Nat} {oH : Obj} {kH : List (Int × Value)} {lv rt b0 : Txt} {vs2 bvs : List Value} {l2 : List Txt} {t1 t2 t3 t4 t8 t9 : Tok} {vs : List Value} {zs : List Int} (hd : lawFd w.params = some (sc, body))
    (hs : h₀.IsList sl vs.toArray) (hi : IntsAre vs zs) (hz : ¬ ((63 : Nat) : Int) < ((zs.length : Nat) : Int)) (hks : ks = 1 ∨ ks = 2) (hrt : rt.length = 32) (hb0 : bvs[0]? = some (.bytes (List.toArray b0) t4)) (hb032 : b0.length = 32)
    (hoH : oH.IsDictOf (intKind PySem.Challenge.rw_lh0065_01.row.prog w) kH) (hval : valueAt kH (mine : Int) = some (.bytes (List.toArray lv) t9)) (hlv : lv.length ≤ 64)
    (h2 : TxtsAre vs2 l2) (h2l : l2.length = 8 * ks) (h232 : ∀ b ∈ l2, b.length = 32)
    (B : Below (lawA d0 u0 gd outer) h₀ outer h₀) (F : Fr h₀ L s.heap mm) (X : (Mine.hd.heap_1 w.params).In h₀) (TT : Top p loose mean mg mb h₀)
    (N : News h₀ L s.heap ((br, lstObj vs2 c) :: (hh, oH) :: (bl, lstObj bvs be9) :: (bs, tupObj vs2) :: own)) (hbr : ∀ q ∈ own, q.1 ≠ br) (hbs : @Ne Nat bs br) (hbl : @Ne Nat bl br) (hhb : @Ne Nat hh br)
    (m1 : mm (Str.ofString "script") = some (.ref sl)) (m2 : mm (Str.ofString "depth") = some (.int ((8 * ks : Nat) : Int) t1)) (m3 : mm (Str.ofString "branch") = some (.ref br)) (m4 : mm (Str.ofString "beside") = some (.ref bs)) (m5 : mm (Str.ofString "blanks") = some (.ref bl)) (m6 : mm (Str.ofString "root") = some (.bytes (List.toArray rt) t3))
    (m7 : mm (Str.ofString "mine") = some (.int (mine : Int) t2)) (m8 : mm (Str.ofString "held") = some (.ref hh)) (m9 : mm (Str.ofString "value") = some (.bytes (List.toArray lv) t8)) (hdp : d0 + 60 < recursionLimit) (hun : u0 + 1000 < cLine)
    (ret : ∀ v t vsC lC h' m' tk', v.length ≤ 64 → TxtsAre vsC lC → lC.length = 8 * ks → (∀ b ∈ lC, b.length = 32) → Fr h₀ L h' m' → News h₀ L h' ((br, lstObj vsC c) :: (hh, oH) :: (bl, lstObj bvs be9) :: (bs, tupObj vs2) :: own) → m' (Str.ofString "value") = some (.bytes (List.toArray v) t) → Agree [Str.ofString "value"] m' mm →
      wpAny (model PySem.Challenge.rw_lh0065_01.row.prog w) ((lawA d0 u0 gd outer).deeper (envX (Str.ofString "law") sc L a ccd cl)) (execs (body.drop 23) (envX (Str.ofString "law") sc L a ccd cl)) P E { s with heap := h', toks := tk' }) :
    wpAny (model PySem.Challenge.rw_lh0065_01.row.prog w) ((lawA d0 u0 gd outer).deeper (envX (Str.ofString "law") sc L a ccd cl)) (execs (body.drop 22) (envX (Str.ofString "law") sc L a ccd cl)) P E s := by
  obtain ⟨inner, hc⟩ : ∃ inner, choiceBody w.params = some (sc, inner) := by cases hd; exact ⟨_, rfl⟩
  have hc2 := hc
  cases hd
  cases hc
  have hv1 := named_cons m1 named_nil
  have F1 := fr_named _ F hv1
  clear F
  k_steps
  · refine go_ ?_
    rename News _ _ _ _ => N8
    rename Fr _ _ _ _ => F8
    rw [← frOf_eq (S := []) hv1 Agree.refl] at F8
    have hz2 : 2 < zs.length := by omega
    refine choice_value (s := ⟨_, _, _, _, _⟩) hc2 hs hi hz hz2 hoH hval hlv B F8 X TT (own := (br, lstObj vs2 c) :: (bl, lstObj bvs be9) :: (bs, tupObj vs2) :: own) (news_sub N8 (by walk_at "MY mems")) m1 m7 m8 m9 hdp hun ?_
    intro v tv h1 ma k1 hvl F2 N2 hv A1
    refine choice_one (s := ⟨_, _, _, _, _⟩) hc2 hs hi hz hz2 hks hrt hb0 hb032 h2 h2l h232 h2 h2l h232 B F2 X TT (own := (hh, oH) :: own) (news_sub N2 (by walk_at "MY mems")) (ne_cons hhb hbr) hbs hbl ((A1 _ rfl).trans m1) ((A1 _ rfl).trans m2) ((A1 _ rfl).trans m3) ((A1 _ rfl).trans m4) ((A1 _ rfl).trans m5) ((A1 _ rfl).trans m6) hdp hun ?_
    intro vsC lC h3 k3 hC hCl hC32 F3 N3
    refine choice_two (s := ⟨_, _, _, _, _⟩) hc2 hs hi hz hz2 hks h2 h2l h232 hC hCl hC32 B F3 X TT (own := (bl, lstObj bvs be9) :: (hh, oH) :: own) (news_sub N3 (by walk_at "MY mems")) (ne_cons hbl (ne_cons hhb hbr)) hbs ((A1 _ rfl).trans m1) ((A1 _ rfl).trans m2) ((A1 _ rfl).trans m3) ((A1 _ rfl).trans m4) hdp hun ?_
    intro vsD lD h4 k4 hD hDl hD32 F4 N4
    exact ret v tv vsD lD _ _ _ hvl hD hDl hD32 F4 (news_sub N4 (by walk_at "MY mems")) hv A1
  · refine go_ ?_
    rename News _ _ _ _ => N8
    rename Fr _ _ _ _ => F8
    rw [← frOf_eq (S := []) hv1 Agree.refl] at F8
    exact ret lv t8 vs2 l2 _ _ _ hlv h2 h2l h232 F8 (news_sub N8 (by walk_at "MY mems")) m9 Agree.refl
end
end
theorem flush23 : True := by first | walk1 | trivial
section
local macro_rules | `(tactic| omega) => `(tactic| first | walk_at "MY om" | omega +splitDisjunctions)
local macro_rules | `(tactic| walk_at "execs cons") => `(tactic| exists st27)
local macro_rules | `(tactic| walk_at "call ref") => `(tactic| exists st2)
local macro_rules | `(tactic| walk_at "subscriptTail") => `(tactic| exists gd17, kda_item (knd := intKind _ _), "amair!")
local macro_rules | `(tactic| walk_at "compareOp Eq bytes bytes") => `(tactic| exists eq_txt, "r!")
local macro_rules | `(tactic| walk_at "compareOp Eq ref ref") => `(tactic| exists eq_tups, "ammrrur!")
section
variable {w : World} {p : Program} {loose : List Str} {mean : ExcName → Option Value} {mg mb : Str → Option Value} {d0 u0 : Nat} {gd : Option (List Code)} {a : Addr} {ccd : Value} {outer : List Env}
  {h₀ : Heap} {L : Addr} {mm : Loc} {own : Led} {s : Shared} {Q E : Value → Shared → Prop}
theorem law_calc {tab f hh br bs : Addr} {H : Led} (hash : HashSpec w p loose mean mg mb f tab H) {sc : Scope} {body : List Stmt} {P : Flow → Shared → Prop} {cl : List (Str × Addr)} {mine ks c : Nat} {oT oH : Obj} {kT : List (Txt × Value)} {kH : List (Int × Value)} {T0 : List Txt} {leaf : Nat → Txt} {v : Txt} {vs2 vsC : List Value} {lC : List Txt} {t1 t2 t3 t4 t9 : Tok} (hd : lawFd w.params = some (sc, body))
    (hks : ks = 1 ∨ ks = 2) (hm : mine < 2 ^ (8 * ks)) (hoT : oT.IsDictOf (bytesKind PySem.Challenge.rw_lh0065_01.row.prog w) kT) (hTR : TabRel kT T0) (hin : NodesIn T0 leaf (8 * ks)) (hTl : T0.length < 80000) (hoH : oH.IsDictOf (intKind PySem.Challenge.rw_lh0065_01.row.prog w) kH) (hval : valueAt kH (mine : Int) = some (.bytes (List.toArray (leaf mine)) t9))
    (hvl : v.length ≤ 64) (h2 : TxtsAre vs2 (sibs T0 leaf (8 * ks) mine)) (hC : TxtsAre vsC lC) (hCl : lC.length = 8 * ks) (hC32 : ∀ b ∈ lC, b.length = 32) (hoff : ∀ q ∈ own, q.1 ≠ tab) (hbr : ∀ q ∈ own, q.1 ≠ br) (hH : ∀ q ∈ H, q ∈ own) (hne : @LT.lt Nat _ tab hh ∧ @LT.lt Nat _ hh bs ∧ @LT.lt Nat _ bs br)
    (B : Below (lawA d0 u0 gd outer) h₀ outer h₀) (F : Fr h₀ L s.heap mm) (X : (Mine.hd.heap_1 w.params).In h₀) (TT : Top p loose mean mg mb h₀)
    (N : News h₀ L s.heap ((tab, oT) :: (br, lstObj vsC c) :: (hh, oH) :: (bs, tupObj vs2) :: own))
    (m1 : mm (Str.ofString "_law_hash") = some (.ref f)) (m2 : mm (Str.ofString "name") = some (.bytes (List.toArray (be ks mine)) t1)) (m3 : mm (Str.ofString "branch") = some (.ref br)) (m4 : mm (Str.ofString "beside") = some (.ref bs)) (m6 : mm (Str.ofString "root") = some (.bytes (List.toArray (hT T0 (node T0 leaf (8 * ks) 0))) t3))
    (m7 : mm (Str.ofString "mine") = some (.int (mine : Int) t2)) (m8 : mm (Str.ofString "held") = some (.ref hh)) (m9 : mm (Str.ofString "value") = some (.bytes (List.toArray v) t4)) (hdp : d0 + 60 < recursionLimit) (hun : u0 + 1000 < cLine)
    (ret : ∀ h' tk', Fr h₀ L h' mm → News h₀ L h' ((br, lstObj vsC c) :: (hh, oH) :: (bs, tupObj vs2) :: own) →
      wpAny (model PySem.Challenge.rw_lh0065_01.row.prog w) ((lawA d0 u0 gd outer).deeper (envX (Str.ofString "law") sc L a ccd cl)) (execs (body.drop 24) (envX (Str.ofString "law") sc L a ccd cl)) P E { s with heap := h', toks := tk' }) :
    wpAny (model PySem.Challenge.rw_lh0065_01.row.prog w) ((lawA d0 u0 gd outer).deeper (envX (Str.ofString "law") sc L a ccd cl)) (execs (body.drop 23) (envX (Str.ofString "law") sc L a ccd cl)) P E s := by
  obtain ⟨o1, o2, o3⟩ := hne
  cases hd
  have hv1 := named_cons m1 (named_cons m2 (named_cons m3 (named_cons m4 (named_cons m6 (named_cons m7 (named_cons m8 (named_cons m9 named_nil)))))))
  have F1 := fr_named _ F hv1
  clear F
  have hcl : vsC.length = 8 * ks := by rw [hC.1, hCl]
  have hk6 := num_be ks mine (two_256 hks hm)
  have hiff := calc_iff hin hm (v := v) (bs := lC) (by omega) hCl hC32
  k_steps
  refine go_ ?_
  rename News _ _ _ _ => N8
  rename Fr _ _ _ _ => F8
  have N7 := news_sub N8 (r := (tab, oT) :: (br, lstObj vsC c) :: (hh, oH) :: (bs, tupObj vs2) :: own) (by walk_at "MY mems")
  k_here
  k_dflt (refine' calc_root_list hash _ _ _ _ _ _ _ _ _ _ _ _ _ _ _ _ (be ks mine) v _ _ br vsC lC T0 kT oT _ _ ?k1 F8 ?k3 N7 ?k5 ?hk ?z1 ?z2 ?z3 hoT hTR ?z4 ?z5 ?z6 ?z7 ?z8 hC ?z9 ?z10 ?_)
  case k1 => k_asm
  case k3 => k_asm
  case k5 => k_asm
  case hk => rfl
  case z1 => exact ownOff_cons (ne2 (by omega) (by omega)) (ownOff_cons (ne2 (by omega) (by omega)) (ownOff_two hoff hbr))
  case z2 => omega
  case z3 => walk_at "MY sub"
  case z4 => omega
  case z5 => k_room
  case z6 => k_units
  case z7 => rw [be_length]; exact hks
  case z8 => rw [be_length]; exact hcl
  case z9 => omega
  case z10 => exact fun b hb => by rw [hC32 b hb]; decide
  rw [hk6, hCl]
  clear N7 N8 F8
  intro oT1 kT1 h9 tk9 t7 hoT1 hTR1 F8 N8
  clear hTR1
  generalize (cst mine lC (addT T0 v) (hT (addT T0 v) v) (8 * ks)).2 = x9 at hiff ⊢
  generalize hrt : hT T0 (node T0 leaf (8 * ks) 0) = rt at hiff F8 hv1
  by_cases e1 : v = leaf mine
  · by_cases e2 : lC = sibs T0 leaf (8 * ks) mine
    · have d1 : decide (x9 = rt) = true := decide_eq_true (hiff.mpr ⟨e1, e2⟩)
      have d2 : decide (v = leaf mine) = true := decide_eq_true e1
      have d3 : decide (lC = sibs T0 leaf (8 * ks) mine) = true := decide_eq_true e2
      k_steps
      refine go_ ?_
      rename News _ _ _ _ => N7
      rename Fr _ _ _ _ => F7
      rw [← frOf_eq (S := []) hv1 Agree.refl] at F7
      exact ret _ _ F7 (news_sub N7 (by walk_at "MY mems"))
    · have d1 : decide (x9 = rt) = false := decide_eq_false (fun h => e2 (hiff.mp h).2)
      have d2 : decide (v = leaf mine) = true := decide_eq_true e1
      have d3 : decide (lC = sibs T0 leaf (8 * ks) mine) = false := decide_eq_false e2
      k_steps
      refine go_ ?_
      rename News _ _ _ _ => N7
      rename Fr _ _ _ _ => F7
      rw [← frOf_eq (S := []) hv1 Agree.refl] at F7
      exact ret _ _ F7 (news_sub N7 (by walk_at "MY mems"))
  · have d1 : decide (x9 = rt) = false := decide_eq_false (fun h => e1 (hiff.mp h).1)
    have d2 : decide (v = leaf mine) = false := decide_eq_false e1
    k_steps
    refine go_ ?_
    rename News _ _ _ _ => N7
    rename Fr _ _ _ _ => F7
    rw [← frOf_eq (S := []) hv1 Agree.refl] at F7
    exact ret _ _ F7 (news_sub N7 (by walk_at "MY mems"))
end
end
theorem flush24 : True := by first | walk1 | trivial
section
local macro_rules | `(tactic| omega) => `(tactic| first | walk_at "MY om" | omega +splitDisjunctions)
theorem picked_from1 {a : Txt} (ha : 1 ≤ a.length) : KBy.picked a.toArray (some 1) none = (a.drop 1).toArray := by
  rw [KBc.picked_eq]
  have : clipAt a.toArray.size 1 = 1 := by rw [KBc.clip_lit]; simp; omega
  simp only [Option.elim, this]
  cases a with
  | nil => simp at ha
  | cons x xs => simp
theorem mv_front {a b c : Addr × Obj} {l r : Led} : ∀ q ∈ a :: b :: (l ++ c :: r), q ∈ l ++ c :: a :: b :: r := by
  intro q hq
  simp only [List.mem_cons, List.mem_append] at hq ⊢
  rcases hq with h | h | h | h | h <;> simp [h]
theorem mv_back {a b c : Addr × Obj} {l r : Led} : ∀ q ∈ l ++ c :: a :: b :: r, q ∈ a :: b :: (l ++ c :: r) := by
  intro q hq
  simp only [List.mem_cons, List.mem_append] at hq ⊢
  rcases hq with h | h | h | h | h <;> simp [h]
section
open PySem.W
variable {prog : Program} {w : World} {A : Around} {E : Value → Shared → Prop} {s : Shared} {h₀ : Heap} {L : Addr} {m : Loc} {news : Led}
theorem cut_from1 {a : Txt} {t u : Tok} {value slice : PySem.Expr} {Q : Value → Shared → Prop} (hF : Fr h₀ L s.heap m) (hN : News h₀ L s.heap news) (ha : 1 ≤ a.length) (hb : a.length ≤ 100)
    (h : ∀ h' t' k, Fr h₀ L h' m → News h₀ L h' news → Q (.bytes (a.drop 1).toArray t') { s with heap := h', toks := k })
    (hs : subscripted slice false (.bytes a.toArray t) (.ref s.heap.objs.size) = operate [.ref s.heap.objs.size, .bytes a.toArray t] (getItem (.bytes a.toArray t) (.ref s.heap.objs.size)) := by with_unfolding_all rfl)
    (ht : ∀ r, letTemporaryGo value (.bytes a.toArray t) r = pure () := by intro _; with_unfolding_all rfl) :
    wpAny (model prog w) A (subscriptTail value slice (.bytes a.toArray t) (.ref s.heap.objs.size)) Q E { s with heap := s.heap.push { cls := .type "slice", data := .fields #[.int 1 u, .none, .none] } } :=
  KBc.slice_K hF hN rfl (lo := some 1) (hi := none) (by constructor) (by constructor) (by simp [KBw.bInts]; omega) (fun h' t' k F' N' _ => by rw [picked_from1 ha]; exact h h' t' k F' N') hs ht
end
local macro_rules | `(tactic| walk_at "loadName") => `(tactic| exists loadX_L, "afff!")
local macro_rules | `(tactic| walk_at "call ref") => `(tactic| exists st8)
local macro_rules | `(tactic| walk_at "execs cons") => `(tactic| exists st17)
local macro_rules | `(tactic| walk_at "subscriptTail") => `(tactic| exists gdC, cut_from1 (s := ⟨_, _, _, _, _⟩), "rroo/5")
local macro_rules | `(tactic| walk_at "exec For Name Tuple cons nil") => `(tactic| ((rename Fr _ _ _ _ => F'); (with_reducible apply For_unrF); (case _F => with_unfolding_all exact F'); (case hs => (intro _; with_unfolding_all rfl))))
theorem stT {x1} {x2} {x3} {x4} {x5} {x6} {x7} {x8} {x9} {x10} {x11} {x12} (h : Stop (wpAny x1 x2 (execs (Stmt.Try x3 x4 x5 x6 x7 :: x8) x9) x10 x11 x12)) : wpAny x1 x2 (execs (Stmt.Try x3 x4 x5 x6 x7 :: x8) x9) x10 x11 x12 := h
theorem Agree.wider {S S' : List Str} {m m₀ : Loc} (h : Agree S m m₀) (hs : ∀ z, S'.contains z = false → S.contains z = false) : Agree S' m m₀ := fun z hz => h z (hs z hz)
theorem Agree.trans {S : List Str} {m m₁ m₀ : Loc} (h : Agree S m m₁) (h2 : Agree S m₁ m₀) : Agree S m m₀ := fun z hz => (h z hz).trans (h2 z hz)
theorem agree_rw {m m₀ : Loc} (h : Agree [Str.ofString "refused"] m m₀) : Agree [Str.ofString "refused", Str.ofString "wrong"] m m₀ := h.wider fun z hz => by
  rw [List.contains_cons, Bool.or_eq_false_iff] at hz ⊢; exact ⟨hz.1, rfl⟩
section
variable {w : World} {p : Program} {loose : List Str} {mean : ExcName → Option Value} {mg mb : Str → Option Value} {d0 u0 : Nat} {gd : Option (List Code)} {a : Addr} {ccd : Value} {outer : List Env}
  {h₀ : Heap} {L : Addr} {mm : Loc} {own : Led} {s : Shared} {Q E : Value → Shared → Prop}
noncomputable def updBody (P : Params) : Option (Scope × List Stmt) := match lawFd P with
  | some (sc, b) => match forBody (b.drop 24) with
    | some d => some (sc, d)
    | none => none
  | none => none
theorem upd_turn {sc : Scope} {body : List Stmt} {P : Flow → Shared → Prop} {cl : List (Str × Addr)} {ks : Nat} {v pv wt k1 : Txt} {px pdx pb f bs : Addr} {t1 t4 tr tr1 tr2 tr3 tr4 tr5 tr6 u1 u2 u3 u5 : Tok} {r : Int} (hd : updBody w.params = some (sc, body))
    (hks : ks = 1 ∨ ks = 2) (hk1 : k1.length = ks) (hw : wt.length ≠ ks) (hw2 : wt.length ≤ 8)
    (B : Below (lawA d0 u0 gd outer) h₀ outer h₀) (F : Fr h₀ L s.heap mm) (X : (Mine.hd.heap_1 w.params).In h₀) (TT : Top p loose mean mg mb h₀)
    (N : News h₀ L s.heap ((px, instObj 132 pdx) :: (pdx, prD w.params tr1 tr2 tr3 tr4 tr5 tr6 u1 u2 u3 u5 k1 pv ks pb f) :: own))
    (hE2 : ∀ e', PassesOwnAt (model PySem.Challenge.rw_lh0065_01.row.prog w) (((lawA d0 u0 gd outer).deeper (envX (Str.ofString "law") sc L a ccd cl)).mark (some (.ref e'))) ((lawA d0 u0 gd outer).deeper (envX (Str.ofString "law") sc L a ccd cl)) (envX (Str.ofString "law") sc L a ccd cl) E)
    (m2 : mm (Str.ofString "wrong") = some (.bytes (List.toArray wt) t1)) (m4 : mm (Str.ofString "beside") = some (.ref bs)) (m9 : mm (Str.ofString "value") = some (.bytes (List.toArray v) t4)) (m5 : mm (Str.ofString "proof") = some (.ref px)) (m6 : mm (Str.ofString "refused") = some (.int r tr)) (hdp : d0 + 60 < recursionLimit) (hun : u0 + 1000 < cLine)
    (ret : ∀ h' m' tk' tr', Fr h₀ L h' m' → News h₀ L h' ((px, instObj 132 pdx) :: (pdx, prD w.params tr1 tr2 tr3 tr4 tr5 tr6 u1 u2 u3 u5 k1 pv ks pb f) :: own) → m' (Str.ofString "refused") = some (.int (r + 1) tr') → Agree [Str.ofString "refused"] m' mm → P .next { s with heap := h', toks := tk' }) :
    wpAny (model PySem.Challenge.rw_lh0065_01.row.prog w) ((lawA d0 u0 gd outer).deeper (envX (Str.ofString "law") sc L a ccd cl)) (execs body (envX (Str.ofString "law") sc L a ccd cl)) P E s := by
  cases hd
  have hv1 := named_cons m2 (named_cons m4 (named_cons m9 (named_cons m5 (named_cons m6 named_nil))))
  have F1 := fr_named _ F hv1
  clear F
  k_steps
  refine go_ ?_
  rename News _ _ _ _ => N8
  rename Fr _ _ _ _ => F8
  k_here
  k_dflt (refine' upd_wrong ⟨?k1, F8, ?k3, N8, ?k5, rfl⟩ hks hk1 hw hw2 ?k7 ?k8 ?_)
  case k1 => k_asm
  case k3 => k_asm
  case k5 => k_asm
  case k7 => k_room
  case k8 => k_units
  clear N8 F8
  intro g9 e9 tt arg h9 tk9 FG R9 U9
  k_here
  k_dflt (refine' caught_X0 (bmB := [.type "Exception", .type "BaseException", .type "object"]) (newId := "Exception.__new__") B FG U9 R9 X ?T ?ex ?q ?hb ?_ ?hk ?hx ?hd (hE2 _))
  case T => exact topRead_of TT
  case ex => k_is
  case q => k_exc
  case hb => rfl
  case hk => rfl
  case hx => rfl
  case hd => decide
  intro h' F' N'
  clear R9 U9 FG
  dsimp only
  k_steps
  refine go_ ?_
  rename News _ _ _ _ => N8
  rename Fr _ _ _ _ => F8
  exact ret _ _ _ _ F8 N8 rfl (agree_of (by walk_at "MY agree") hv1)
end
local macro_rules | `(tactic| walk_at "execs cons") => `(tactic| exists stT)
section
variable {w : World} {p : Program} {loose : List Str} {mean : ExcName → Option Value} {mg mb : Str → Option Value} {d0 u0 : Nat} {gd : Option (List Code)} {a : Addr} {ccd : Value} {outer : List Env}
  {h₀ : Heap} {L : Addr} {mm : Loc} {own : Led} {s : Shared} {Q E : Value → Shared → Prop}
theorem law_wrong {sc : Scope} {body : List Stmt} {P : Flow → Shared → Prop} {cl : List (Str × Addr)} {mine ks : Nat} {v pv : Txt} {px pdx pb f bs : Addr} {t1 t4 tr1 tr2 tr3 tr4 tr5 tr6 u1 u2 u3 u5 : Tok} (hd : lawFd w.params = some (sc, body))
    (hks : ks = 1 ∨ ks = 2) (hm : mine < 2 ^ (8 * ks))
    (B : Below (lawA d0 u0 gd outer) h₀ outer h₀) (F : Fr h₀ L s.heap mm) (X : (Mine.hd.heap_1 w.params).In h₀) (TT : Top p loose mean mg mb h₀)
    (N : News h₀ L s.heap ((px, instObj 132 pdx) :: (pdx, prD w.params tr1 tr2 tr3 tr4 tr5 tr6 u1 u2 u3 u5 (be ks mine) pv ks pb f) :: own))
    (hE : PassesOwn (model PySem.Challenge.rw_lh0065_01.row.prog w) (top5 none (d0 + 1) (u0 + 3) gd (Str.ofString "law") sc L a ccd cl outer) (envX (Str.ofString "law") sc L a ccd cl) E)
    (hE2 : ∀ e', PassesOwnAt (model PySem.Challenge.rw_lh0065_01.row.prog w) (((lawA d0 u0 gd outer).deeper (envX (Str.ofString "law") sc L a ccd cl)).mark (some (.ref e'))) ((lawA d0 u0 gd outer).deeper (envX (Str.ofString "law") sc L a ccd cl)) (envX (Str.ofString "law") sc L a ccd cl) E)
    (m2 : mm (Str.ofString "name") = some (.bytes (List.toArray (be ks mine)) t1)) (m4 : mm (Str.ofString "beside") = some (.ref bs)) (m9 : mm (Str.ofString "value") = some (.bytes (List.toArray v) t4)) (m5 : mm (Str.ofString "proof") = some (.ref px)) (hdp : d0 + 60 < recursionLimit) (hun : u0 + 1000 < cLine)
    (ret : ∀ t h' m' tk', Fr h₀ L h' m' → News h₀ L h' ((px, instObj 132 pdx) :: (pdx, prD w.params tr1 tr2 tr3 tr4 tr5 tr6 u1 u2 u3 u5 (be ks mine) pv ks pb f) :: own) → m' (Str.ofString "refused") = some (.int 2 t) → Agree [Str.ofString "refused", Str.ofString "wrong"] m' mm →
      wpAny (model PySem.Challenge.rw_lh0065_01.row.prog w) ((lawA d0 u0 gd outer).deeper (envX (Str.ofString "law") sc L a ccd cl)) (execs (body.drop 26) (envX (Str.ofString "law") sc L a ccd cl)) P E { s with heap := h', toks := tk' }) :
    wpAny (model PySem.Challenge.rw_lh0065_01.row.prog w) ((lawA d0 u0 gd outer).deeper (envX (Str.ofString "law") sc L a ccd cl)) (execs (body.drop 24) (envX (Str.ofString "law") sc L a ccd cl)) P E s := by
  have hwb : ∃ wb, updBody w.params = some (sc, wb) := by cases hd; exact ⟨_, rfl⟩
  obtain ⟨wb, hwb⟩ := hwb
  have hwb2 := hwb
  cases hd
  cases hwb
  have hv1 := named_cons m2 (named_cons m4 (named_cons m9 (named_cons m5 named_nil)))
  have F1 := fr_named _ F hv1
  clear F
  have hbl := be_length ks mine
  have hb1 : 1 ≤ (be ks mine).length := by omega
  k_steps
  refine go_ ?_
  rename News _ _ _ _ => N8
  rename Fr _ _ _ _ => F8
  have N7 := news_sub N8 mv_front
  refine upd_turn (s := ⟨_, _, _, _, _⟩) (v := v) (pv := pv) (bs := bs) (r := 0) hwb2 hks hbl (wt := (be ks mine ++ be ks mine)) ?l1 ?l2 B F8 X TT N7 hE2 rfl rfl rfl rfl rfl hdp hun ?_
  case l1 => rw [List.length_append]; omega
  case l2 => rw [List.length_append]; omega
  clear N8 F8 N7
  intro h' m' tk' tr' F' N' mr' A'
  replace N' := news_sub N' mv_back
  have hv2 := named_cons (show m' (Str.ofString "beside") = some (.ref bs) from A' _ rfl) (named_cons (show m' (Str.ofString "value") = some (.bytes (List.toArray v) t4) from A' _ rfl) (named_cons (show m' (Str.ofString "proof") = some (.ref px) from A' _ rfl) (named_cons mr' named_nil)))
  have A2 : Agree [Str.ofString "refused", Str.ofString "wrong"] m' mm := (agree_rw A').trans (agree_of (by walk_at "MY agree") hv1)
  have F2 := fr_named _ F' hv2
  clear F'
  dsimp only
  k_steps
  refine go_ ?_
  rename News _ _ _ _ => N8
  rename Fr _ _ _ _ => F8
  have N7 := news_sub N8 mv_front
  refine upd_turn (s := ⟨_, _, _, _, _⟩) (v := v) (pv := pv) (bs := bs) (r := (0 + 1)) hwb2 hks hbl (wt := ((be ks mine).drop 1)) ?l1 ?l2 B F8 X TT N7 hE2 rfl rfl rfl rfl rfl hdp hun ?_
  case l1 => rw [List.length_drop]; omega
  case l2 => rw [List.length_drop]; omega
  clear N8 F8 N7
  intro h' m'' tk' tr' F' N' mr' A'
  replace N' := news_sub N' mv_back
  dsimp only
  k_steps
  refine go_ ?_
  rename News _ _ _ _ => N8
  rename Fr _ _ _ _ => F8
  exact ret _ _ _ _ F8 (news_sub N8 (by walk_at "MY mems")) mr' ((agree_rw A').trans ((agree_of (by walk_at "MY agree") hv2).trans A2))
end
end
theorem flush25 : True := by first | walk1 | trivial
section
local macro_rules | `(tactic| omega) => `(tactic| first | walk_at "MY om" | omega +splitDisjunctions)
theorem set_cons {α : Type} {l : List α} {x : α} (h : 0 < l.length) : l.set 0 x = x :: l.drop 1 := by
  cases l with
  | nil => simp at h
  | cons a l => rfl
section
open PySem.W
theorem tup_from1 {prog : Program} {w : World} {A : Around} {E : Value → Shared → Prop} {s : Shared} {h₀ : Heap} {L : Addr} {m : Loc} {news : Led} {value slice : PySem.Expr} {t : Addr} {vs : List Value} {u : Tok} {Q : Value → Shared → Prop}
    (F : Fr h₀ L s.heap m) (N : News h₀ L s.heap news) (hm : (t, tupObj vs) ∈ news) (h1 : 1 ≤ vs.length) (hz : vs.length ≤ 10000)
    (h : ∀ D h', Fr h₀ L h' m → News h₀ L h' ((D, tupObj (vs.drop 1)) :: news) → (∀ q ∈ news, q.1 < D) → Q (.ref D) { s with heap := h' })
    (hs : subscripted slice false (.ref t) (.ref s.heap.objs.size) = operate [.ref s.heap.objs.size, .ref t] (getItem (.ref t) (.ref s.heap.objs.size)) := by with_unfolding_all rfl)
    (hg : ∀ r, letTemporaryGo value (.ref t) r = pure () := by intro _; with_unfolding_all rfl) :
    wpAny (model prog w) A (subscriptTail value slice (.ref t) (.ref s.heap.objs.size)) Q E { s with heap := s.heap.push { cls := .type "slice", data := .fields #[.int 1 u, .none, .none] } } :=
  slice_tuple_from (a := 1) F N (News.isTup N hm) (Nat.le_refl _) h1 (fun h' F' N' => h _ h' F' N' (fun q hq => Nat.lt_succ_of_lt (Heap.lt_size (N q hq).1))) hs hg (by rw [sizeLine_eq]; show vs.length ≤ _; omega)
end
local macro_rules | `(tactic| walk_at "subscriptTail") => `(tactic| exists gdT, tup_from1 (s := ⟨_, _, _, _, _⟩), "rrmoo/d")
local macro_rules | `(tactic| walk_at "execs cons") => `(tactic| exists st14)
local macro_rules | `(tactic| walk_at "binaryOp Add ref ref") => `(tactic| refine stop_ ?_)
local macro_rules | `(tactic| walk_at "compareOp NotEq ref ref") => `(tactic| refine stop_ ?_)
local macro_rules | `(tactic| walk_at "subscriptTail") => `(tactic| exists gd17, kda_item (knd := intKind _ _), "amair!")
local macro_rules | `(tactic| walk_at "compareOp NotEq bytes bytes") => `(tactic| exists ne_same_txt, "!")
local macro_rules | `(tactic| walk_at "compareOp NotEq ref ref") => `(tactic| exists ne_same, "ammrru!")
local macro_rules | `(tactic| walk_at "call type:list") => `(tactic| exists gd11, list_of_tup, "aamo/c")
section
variable {w : World} {p : Program} {loose : List Str} {mean : ExcName → Option Value} {mg mb : Str → Option Value} {d0 u0 : Nat} {gd : Option (List Code)} {a : Addr} {ccd : Value} {outer : List Env}
  {h₀ : Heap} {L : Addr} {mm : Loc} {own : Led} {s : Shared} {Q E : Value → Shared → Prop}
theorem law_own {sc : Scope} {body : List Stmt} {P : Flow → Shared → Prop} {cl : List (Str × Addr)} {mine ks e e2 : Nat} {pv : Txt} {px pdx pb hh bs gl bt f : Addr} {oH : Obj} {kH : List (Int × Value)} {vsB vs2 vs1 : List Value} {l2 l1 : List Txt} {tt t2 t9 tr1 tr2 tr3 tr4 tr5 tr6 u1 u2 u3 u5 : Tok} (hd : lawFd w.params = some (sc, body))
    (hks : ks = 1 ∨ ks = 2) (hm : mine < 2 ^ (8 * ks)) (hB : TxtsAre vsB l2) (hBl : vsB.length = 8 * ks) (h2 : TxtsAre vs2 l2) (h1 : TxtsAre vs1 l1) (h1l : vs1.length = 8 * ks) (hoH : oH.IsDictOf (intKind PySem.Challenge.rw_lh0065_01.row.prog w) kH) (hval : valueAt kH (mine : Int) = some (.bytes (List.toArray pv) t9))
    (B : Below (lawA d0 u0 gd outer) h₀ outer h₀) (F : Fr h₀ L s.heap mm) (X : (Mine.hd.heap_1 w.params).In h₀) (TT : Top p loose mean mg mb h₀)
    (N : News h₀ L s.heap ((px, instObj 132 pdx) :: (pdx, prD w.params tr1 tr2 tr3 tr4 tr5 tr6 u1 u2 u3 u5 (be ks mine) pv ks pb f) :: (pb, lstObj vsB e) :: (hh, oH) :: (bs, tupObj vs2) :: (gl, lstObj (vs1.set 0 (.bytes (List.toArray [116, 117, 114, 110, 101, 100]) tt)) e2) :: (bt, tupObj vs1) :: own))
    (m1 : mm (Str.ofString "mine") = some (.int (mine : Int) t2)) (m2 : mm (Str.ofString "held") = some (.ref hh)) (m4 : mm (Str.ofString "beside") = some (.ref bs)) (m5 : mm (Str.ofString "proof") = some (.ref px)) (m6 : mm (Str.ofString "given") = some (.ref gl)) (m7 : mm (Str.ofString "first") = some (.ref bt)) (hdp : d0 + 60 < recursionLimit) (hun : u0 + 1000 < cLine)
    (ret : ∀ h' tk', Fr h₀ L h' mm → News h₀ L h' own →
      wpAny (model PySem.Challenge.rw_lh0065_01.row.prog w) ((lawA d0 u0 gd outer).deeper (envX (Str.ofString "law") sc L a ccd cl)) (execs (body.drop 27) (envX (Str.ofString "law") sc L a ccd cl)) P E { s with heap := h', toks := tk' }) :
    wpAny (model PySem.Challenge.rw_lh0065_01.row.prog w) ((lawA d0 u0 gd outer).deeper (envX (Str.ofString "law") sc L a ccd cl)) (execs (body.drop 26) (envX (Str.ofString "law") sc L a ccd cl)) P E s := by
  cases hd
  have hv1 := named_cons m1 (named_cons m2 (named_cons m4 (named_cons m5 (named_cons m6 (named_cons m7 named_nil)))))
  have F1 := fr_named _ F hv1
  clear F
  have hdl : (vs1.drop 1).length ≤ 100 := by rw [List.length_drop]; omega
  have hl1 : l1.length = 8 * ks := by rw [← h1.1]; exact h1l
  k_steps
  refine go_ ?_
  rename News _ _ _ _ => N8
  rename Fr _ _ _ _ => F8
  dsimp only at F8 N8 ⊢
  refine add_lsts (s := ⟨_, _, _, _, _⟩) (vs := [Value.bytes (List.toArray [116, 117, 114, 110, 101, 100]) _]) (us := vs1.drop 1) F8 N8 (News.isList N8 (.tail _ (.tail _ (.head _)))) (News.isList N8 (.head _)) (by show 1 + (vs1.drop 1).length ≤ _; omega) ?_
  clear F8 N8
  intro D9 h9 F8 N8 hlt9
  k_lt hlt9
  dsimp only
  k_steps
  refine go_ ?_
  rename News _ _ _ _ => N8
  rename Fr _ _ _ _ => F8
  refine ne_lsts (bb := true) (l := l1.set 0 [116, 117, 114, 110, 101, 100]) (r := [116, 117, 114, 110, 101, 100] :: l1.drop 1) N8 (by k_mem) (.head _) (txts_set h1) (txts_cons (txts_drop 1 h1)) (by rw [set_cons (by omega)]) (by k_units) (decide_eq_true (set_cons (by omega))) ?_
  k_steps
  refine go_ ?_
  rename News _ _ _ _ => N7
  rename Fr _ _ _ _ => F7
  rw [← frOf_eq (S := []) hv1 Agree.refl] at F7
  exact ret _ _ F7 (news_sub N7 (by walk_at "MY mems"))
end
end
theorem flush26 : True := by first | walk1 | trivial
section
local macro_rules | `(tactic| omega) => `(tactic| first | walk_at "MY om" | omega +splitDisjunctions)
theorem take1_len {α : Type} {l : List α} (h : 1 ≤ l.length) : (l.take 1).length = 1 := by rw [List.length_take]; omega
local macro_rules | `(tactic| walk_at "call ref") => `(tactic| exists st2)
local macro_rules | `(tactic| walk_at "call ref") => `(tactic| exists st16)
local macro_rules | `(tactic| walk_at "binaryOp Add ref ref") => `(tactic| refine stop_ ?_)
local macro_rules | `(tactic| walk_at "Xj") => `(tactic| exact pick_from1 _)
local macro_rules | `(tactic| walk_at "XJ") => `(tactic| exact pick_to1 _)
local macro_rules | `(tactic| walk_at "subscriptTail Name Slice ref ref") => `(tactic| exists gdT, lst_cut (s := ⟨_, _, _, _, _⟩) (lo := none) (hi := some 1), "rrmoxxJ/d")
local macro_rules | `(tactic| walk_at "subscriptTail Name Slice ref ref") => `(tactic| exists gdT, lst_cut (s := ⟨_, _, _, _, _⟩) (lo := some 1) (hi := none), "rrmoxxj/d")
local macro_rules | `(tactic| walk_at "loadName") => `(tactic| exists loadX_L, "afff!")
local macro_rules | `(tactic| walk_at "exec For Name Tuple cons nil") => `(tactic| ((rename Fr _ _ _ _ => F'); (with_reducible apply For_unrF); (case _F => with_unfolding_all exact F'); (case hs => (intro _; with_unfolding_all rfl))))
section
variable {w : World} {p : Program} {loose : List Str} {mean : ExcName → Option Value} {mg mb : Str → Option Value} {d0 u0 : Nat} {gd : Option (List Code)} {a : Addr} {ccd : Value} {outer : List Env}
  {h₀ : Heap} {L : Addr} {mm : Loc} {own : Led} {s : Shared} {Q E : Value → Shared → Prop}
noncomputable def wrongBody (P : Params) : Option (Scope × List Stmt) := match lawFd P with
  | some (sc, b) => match forBody (b.drop 27) with
    | some d => some (sc, d)
    | none => none
  | none => none
theorem wrong_turn {sc : Scope} {body : List Stmt} {P : Flow → Shared → Prop} {cl : List (Str × Addr)} {mine ks e : Nat} {v : Txt} {wl f : Addr} {vs : List Value} {t1 t4 tr : Tok} {r : Int} (hd : wrongBody w.params = some (sc, body))
    (hks : ks = 1 ∨ ks = 2) (hn : vs.length ≠ 8 * ks ∧ vs.length ≤ 1000)
    (B : Below (lawA d0 u0 gd outer) h₀ outer h₀) (F : Fr h₀ L s.heap mm) (X : (Mine.hd.heap_1 w.params).In h₀) (TT : Top p loose mean mg mb h₀)
    (N : News h₀ L s.heap ((wl, lstObj vs e) :: own))
    (hE2 : ∀ e', PassesOwnAt (model PySem.Challenge.rw_lh0065_01.row.prog w) (((lawA d0 u0 gd outer).deeper (envX (Str.ofString "law") sc L a ccd cl)).mark (some (.ref e'))) ((lawA d0 u0 gd outer).deeper (envX (Str.ofString "law") sc L a ccd cl)) (envX (Str.ofString "law") sc L a ccd cl) E)
    (m2 : mm (Str.ofString "name") = some (.bytes (List.toArray (be ks mine)) t1)) (m9 : mm (Str.ofString "value") = some (.bytes (List.toArray v) t4)) (m3 : mm (Str.ofString "wrong") = some (.ref wl)) (m1 : mm (Str.ofString "_law_hash") = some (.ref f)) (m6 : mm (Str.ofString "refused") = some (.int r tr)) (hdp : d0 + 60 < recursionLimit) (hun : u0 + 1000 < cLine)
    (ret : ∀ h' m' tk' tr', Fr h₀ L h' m' → News h₀ L h' ((wl, lstObj vs e) :: own) → m' (Str.ofString "refused") = some (.int (r + 1 + 1) tr') → Agree [Str.ofString "refused"] m' mm → P .next { s with heap := h', toks := tk' }) :
    wpAny (model PySem.Challenge.rw_lh0065_01.row.prog w) ((lawA d0 u0 gd outer).deeper (envX (Str.ofString "law") sc L a ccd cl)) (execs body (envX (Str.ofString "law") sc L a ccd cl)) P E s := by
  cases hd
  have hv1 := named_cons m2 (named_cons m9 (named_cons m3 (named_cons m1 (named_cons m6 named_nil))))
  have F1 := fr_named _ F hv1
  clear F
  have hbl := be_length ks mine
  k_steps
  refine go_ ?_
  rename News _ _ _ _ => N8
  rename Fr _ _ _ _ => F8
  k_here
  k_dflt (refine' calc_wrong ⟨?k1, F8, ?k3, N8, ?k5, rfl⟩ hks hbl rfl hn.1 hn.2 ?k7 ?k8 ?_)
  case k1 => k_asm
  case k3 => k_asm
  case k5 => k_asm
  case k7 => k_room
  case k8 => k_units
  clear N8 F8
  intro g9 e9 tt arg h9 tk9 FG R9 U9
  k_here
  k_dflt (refine' caught_X0 (bmB := [.type "Exception", .type "BaseException", .type "object"]) (newId := "Exception.__new__") B FG U9 R9 X ?T ?ex ?q ?hb ?_ ?hk ?hx ?hd (hE2 _))
  case T => exact topRead_of TT
  case ex => k_is
  case q => k_exc
  case hb => rfl
  case hk => rfl
  case hx => rfl
  case hd => decide
  intro h' F' N'
  clear R9 U9 FG
  dsimp only
  k_steps
  refine go_ ?_
  rename News _ _ _ _ => N8
  rename Fr _ _ _ _ => F8
  k_here
  k_dflt (refine' proof_wrong ⟨?k1, F8, ?k3, N8, ?k5, rfl⟩ hks hbl rfl hn.1 hn.2 ?k7 ?k8 ?_)
  case k1 => k_asm
  case k3 => k_asm
  case k5 => k_asm
  case k7 => k_room
  case k8 => k_units
  clear N8 F8
  intro g9 e9 tt arg h9 tk9 FG R9 U9
  k_here
  k_dflt (refine' caught_X0 (bmB := [.type "Exception", .type "BaseException", .type "object"]) (newId := "Exception.__new__") B FG U9 R9 X ?T ?ex ?q ?hb ?_ ?hk ?hx ?hd (hE2 _))
  case T => exact topRead_of TT
  case ex => k_is
  case q => k_exc
  case hb => rfl
  case hk => rfl
  case hx => rfl
  case hd => decide
  intro h' F' N'
  clear R9 U9 FG
  dsimp only
  k_steps
  refine go_ ?_
  rename News _ _ _ _ => N8
  rename Fr _ _ _ _ => F8
  exact ret _ _ _ _ F8 N8 rfl (agree_of (by walk_at "MY agree") hv1)
end
local macro_rules | `(tactic| walk_at "execs cons") => `(tactic| exists stT)
section
variable {w : World} {p : Program} {loose : List Str} {mean : ExcName → Option Value} {mg mb : Str → Option Value} {d0 u0 : Nat} {gd : Option (List Code)} {a : Addr} {ccd : Value} {outer : List Env}
  {h₀ : Heap} {L : Addr} {mm : Loc} {own : Led} {s : Shared} {Q E : Value → Shared → Prop}
theorem law_last {sc : Scope} {body : List Stmt} {P : Flow → Shared → Prop} {cl : List (Str × Addr)} {mine ks c : Nat} {v : Txt} {br f : Addr} {vsC : List Value} {t1 t4 tr : Tok} (hd : lawFd w.params = some (sc, body))
    (hks : ks = 1 ∨ ks = 2) (hm : mine < 2 ^ (8 * ks)) (hCl : vsC.length = 8 * ks)
    (B : Below (lawA d0 u0 gd outer) h₀ outer h₀) (F : Fr h₀ L s.heap mm) (X : (Mine.hd.heap_1 w.params).In h₀) (TT : Top p loose mean mg mb h₀)
    (N : News h₀ L s.heap ((br, lstObj vsC c) :: own))
    (hE : PassesOwn (model PySem.Challenge.rw_lh0065_01.row.prog w) (top5 none (d0 + 1) (u0 + 3) gd (Str.ofString "law") sc L a ccd cl outer) (envX (Str.ofString "law") sc L a ccd cl) E)
    (hE2 : ∀ e', PassesOwnAt (model PySem.Challenge.rw_lh0065_01.row.prog w) (((lawA d0 u0 gd outer).deeper (envX (Str.ofString "law") sc L a ccd cl)).mark (some (.ref e'))) ((lawA d0 u0 gd outer).deeper (envX (Str.ofString "law") sc L a ccd cl)) (envX (Str.ofString "law") sc L a ccd cl) E)
    (m2 : mm (Str.ofString "name") = some (.bytes (List.toArray (be ks mine)) t1)) (m9 : mm (Str.ofString "value") = some (.bytes (List.toArray v) t4)) (m3 : mm (Str.ofString "branch") = some (.ref br)) (m1 : mm (Str.ofString "_law_hash") = some (.ref f)) (m6 : mm (Str.ofString "refused") = some (.int 2 tr)) (hdp : d0 + 60 < recursionLimit) (hun : u0 + 1000 < cLine)
    (ret : ∀ h' m' tk', Fr h₀ L h' m' → News h₀ L h' own → P (.ret (.bool true)) { s with heap := h', toks := tk' }) :
    wpAny (model PySem.Challenge.rw_lh0065_01.row.prog w) ((lawA d0 u0 gd outer).deeper (envX (Str.ofString "law") sc L a ccd cl)) (execs (body.drop 27) (envX (Str.ofString "law") sc L a ccd cl)) P E s := by
  have hwb : ∃ wb, wrongBody w.params = some (sc, wb) := by cases hd; exact ⟨_, rfl⟩
  obtain ⟨wb, hwb⟩ := hwb
  have hwb2 := hwb
  cases hd
  cases hwb
  have hv1 := named_cons m2 (named_cons m9 (named_cons m3 (named_cons m1 (named_cons m6 named_nil))))
  have F1 := fr_named _ F hv1
  clear F
  have hbl := be_length ks mine
  k_steps
  refine go_ ?_
  rename News _ _ _ _ => N8
  rename Fr _ _ _ _ => F8
  dsimp only at F8 N8 ⊢
  refine hideG fun hG => ?_
  obtain ⟨E2, e9⟩ := name1 N8
  subst e9
  obtain ⟨E1, e9⟩ := name2 N8
  subst e9
  refine hG ?_
  clear hG
  refine add_lsts (s := ⟨_, _, _, _, _⟩) (vs := vsC) (us := vsC.take 1) F8 N8 (News.isList N8 (.tail _ (.tail _ (.head _)))) (News.isList N8 (.head _)) (by rw [take1_len (by omega)]; omega) ?_
  clear F8 N8
  intro E3 h9 F8 N8 hlt9
  k_lt hlt9
  have hn1 : (vsC.drop 1).length ≠ 8 * ks ∧ (vsC.drop 1).length ≤ 1000 := by rw [List.length_drop]; omega
  have hn3 : (vsC ++ vsC.take 1).length ≠ 8 * ks ∧ (vsC ++ vsC.take 1).length ≤ 1000 := by rw [List.length_append, take1_len (by omega)]; omega
  try dsimp only
  k_steps
  refine go_ ?_
  rename News _ _ _ _ => N8
  rename Fr _ _ _ _ => F8
  try dsimp only at N8
  have N7 := news_sub N8 (mems_cons (p := (E1, lstObj (vsC.drop 1) 0)) (by first | k_mem | exact List.mem_append_right _ (by k_mem)) (fun _ h => h))
  refine wrong_turn (s := ⟨_, _, _, _, _⟩) (mine := mine) (v := v) (f := f) (wl := E1) (r := 2) hwb2 hks hn1 B F8 X TT N7 hE2 rfl rfl rfl rfl rfl hdp hun ?_
  clear N8 F8 N7
  intro h' m' tk' tr' F' N' mr' A'
  replace N' := news_sub N' (fun q h => .tail _ h)
  have hv2 := named_cons (show m' (Str.ofString "name") = some (.bytes (List.toArray (be ks mine)) t1) from A' _ rfl) (named_cons (show m' (Str.ofString "value") = some (.bytes (List.toArray v) t4) from A' _ rfl) (named_cons (show m' (Str.ofString "_law_hash") = some (.ref f) from A' _ rfl) (named_cons mr' named_nil)))
  have F2 := fr_named _ F' hv2
  clear F'
  try dsimp only
  k_steps
  refine go_ ?_
  rename News _ _ _ _ => N8
  rename Fr _ _ _ _ => F8
  try dsimp only at N8
  have N7 := news_sub N8 (mems_cons (p := (E3, lstObj (vsC ++ vsC.take 1) 0)) (by first | k_mem | exact List.mem_append_right _ (by k_mem)) (fun _ h => h))
  refine wrong_turn (s := ⟨_, _, _, _, _⟩) (mine := mine) (v := v) (f := f) (wl := E3) (r := (2 + 1 + 1)) hwb2 hks hn3 B F8 X TT N7 hE2 rfl rfl rfl rfl rfl hdp hun ?_
  clear N8 F8 N7
  intro h' m' tk' tr' F' N' mr' A'
  replace N' := news_sub N' (fun q h => .tail _ h)
  have F3 := fr_named _ F' (named_cons mr' named_nil)
  clear F'
  try dsimp only
  k_steps
  rename News _ _ _ _ => N8
  rename Fr _ _ _ _ => F8
  exact ret _ _ _ F8 (news_sub N8 (by walk_at "MY mems"))
end
end
theorem flush27 : True := by first | walk1 | trivial
section
local macro_rules | `(tactic| omega) => `(tactic| first | walk_at "MY om" | omega +splitDisjunctions)
theorem held_get {kH : List (Int × Value)} {leaf : Nat → Txt} {n mine : Nat} (h : HeldIs kH leaf 0 n) (hm : mine < n) (hne : leaf mine ≠ []) : ∃ t, valueAt kH (mine : Int) = some (Value.bytes (List.toArray (leaf mine)) t) := by
  cases hv : valueAt kH (mine : Int) with
  | none => exact absurd (h.2 mine (Nat.zero_le _) hm hv) hne
  | some v =>
    obtain ⟨k, t, e1, _, _, e4⟩ := h.1 _ _ hv
    have e : mine = k := Int.ofNat.inj e1
    subst e
    exact ⟨t, by rw [e4]⟩
section
variable {w : World} {p : Program} {loose : List Str} {mean : ExcName → Option Value} {mg mb : Str → Option Value} {d0 u0 : Nat} {gd : Option (List Code)} {a : Addr} {ccd : Value} {outer : List Env}
  {h₀ : Heap} {L : Addr} {mm : Loc} {own : Led} {s : Shared} {Q E : Value → Shared → Prop}
theorem law_main {tab f : Addr} {H : Led} (hash : HashSpec w p loose mean mg mb f tab H) {sc : Scope} {body : List Stmt} {P : Flow → Shared → Prop} {cl : List (Str × Addr)} {oT : Obj} {kT : List (Txt × Value)} {sl : Addr} {vs : List Value} {zs : List Int} (hd : lawFd w.params = some (sc, body))
    (hs : h₀.IsList sl vs.toArray) (hi : IntsAre vs zs) (hz : ¬ ((63 : Nat) : Int) < ((zs.length : Nat) : Int))
    (hoT : oT.IsDictOf (bytesKind PySem.Challenge.rw_lh0065_01.row.prog w) kT) (hTR : TabRel kT []) (hoff : ∀ q ∈ own, q.1 ≠ tab) (hH : ∀ q ∈ H, q ∈ own)
    (B : Below (lawA d0 u0 gd outer) h₀ outer h₀) (F : Fr h₀ L s.heap mm) (X : (Mine.hd.heap_1 w.params).In h₀) (T : Top p loose mean mg mb h₀) (N : News h₀ L s.heap ((tab, oT) :: own))
    (script_0 : mm (Str.ofString "script") = some (.ref sl)) (hash_0 : mm (Str.ofString "_law_hash") = some (.ref f))
    (hE : PassesOwn (model PySem.Challenge.rw_lh0065_01.row.prog w) (top5 none (d0 + 1) (u0 + 3) gd (Str.ofString "law") sc L a ccd cl outer) (envX (Str.ofString "law") sc L a ccd cl) E)
    (hE2 : ∀ e', PassesOwnAt (model PySem.Challenge.rw_lh0065_01.row.prog w) (((lawA d0 u0 gd outer).deeper (envX (Str.ofString "law") sc L a ccd cl)).mark (some (.ref e'))) ((lawA d0 u0 gd outer).deeper (envX (Str.ofString "law") sc L a ccd cl)) (envX (Str.ofString "law") sc L a ccd cl) E)
    (hdp : d0 + 60 < recursionLimit) (hun : u0 + 1000 < cLine)
    (ret : ∀ h' m' tk', Fr h₀ L h' m' → News h₀ L h' own → P (.ret (.bool true)) { s with heap := h', toks := tk' }) :
    wpAny (model PySem.Challenge.rw_lh0065_01.row.prog w) ((lawA d0 u0 gd outer).deeper (envX (Str.ofString "law") sc L a ccd cl)) (execs (body.drop 2) (envX (Str.ofString "law") sc L a ccd cl)) P E s := by
  have hun6 : u0 + 600 < cLine := by omega
  refine law_size hd hs hi hz B F X T N script_0 hdp hun6 ?_
  intro ks ts td h1 ma k1 hks F1 N1 nsize ndepth A1
  have script_1 := (A1 _ rfl).trans script_0
  have law_hash_1 := (A1 _ rfl).trans hash_0
  refine law_tree (s := ⟨_, _, _, _, _⟩) hash hd hks hoT hTR hoff hH B F1 X T N1 law_hash_1 nsize hdp hun6 ?_
  intro x dx db T1 oT1 kT1 oD1 kD1 q1 q2 q3 q4 q5 q6 w1 w2 w3 w6 h2 mb k2 hoT1 hTR1 hoD1 hOk1 hTl1 hDl1 hdb F2 N2 hlt l1 l2 l3 ntree A2
  have script_2 := (A2 _ rfl).trans script_1
  have law_hash_2 := (A2 _ rfl).trans law_hash_1
  have size_2 := (A2 _ rfl).trans nsize
  have depth_2 := (A2 _ rfl).trans ndepth
  refine law_mine (s := ⟨_, _, _, _, _⟩) hd hs hi hz hks B F2 X T N2 script_2 depth_2 hdp hun6 ?_
  intro mine tm h3 mc k3 hm F3 N3 nmine A3
  have script_3 := (A3 _ rfl).trans script_2
  have law_hash_3 := (A3 _ rfl).trans law_hash_2
  have size_3 := (A3 _ rfl).trans size_2
  have depth_3 := (A3 _ rfl).trans depth_2
  have tree_3 := (A3 _ rfl).trans ntree
  refine law_first (s := ⟨_, _, _, _, _⟩) hash hd hks hm hoT1 hTR1 hoD1 hOk1 hTl1 hDl1 hdb hoff hlt hH ⟨l1, l2, l3⟩ B F3 X T N3 law_hash_3 size_3 nmine tree_3 hdp hun6 ?_
  intro hh px pdx pb gl bt vs1 lg e e2 tt tn tr1 tr2 tr3 tr4 tr5 tr6 u1 u2 u5 core h4 md k4 I hv1 hl1 hhs hord F4 N4 nheld nproof ngiven nfirst nname A4
  have script_4 := (A4 _ rfl).trans script_3
  have law_hash_4 := (A4 _ rfl).trans law_hash_3
  have size_4 := (A4 _ rfl).trans size_3
  have depth_4 := (A4 _ rfl).trans depth_3
  have tree_4 := (A4 _ rfl).trans tree_3
  have mine_4 := (A4 _ rfl).trans nmine
  refine hideG fun hG => ?_
  obtain ⟨g1, g2, g3, g4, g5, g6⟩ := hord
  refine hG ?_
  clear hG
  have o_tab_x := Nat.lt_trans l1 l2
  have o_tab_db := Nat.lt_trans o_tab_x l3
  have o_tab_hh := Nat.lt_trans o_tab_db g1
  have o_tab_bt := Nat.lt_trans o_tab_hh g2
  have o_tab_gl := Nat.lt_trans o_tab_bt g3
  have o_tab_pdx := Nat.lt_trans o_tab_gl g4
  have o_tab_px := Nat.lt_trans o_tab_pdx g5
  have o_tab_pb := Nat.lt_trans o_tab_px g6
  have o_dx_db := Nat.lt_trans l2 l3
  have o_dx_hh := Nat.lt_trans o_dx_db g1
  have o_dx_bt := Nat.lt_trans o_dx_hh g2
  have o_dx_gl := Nat.lt_trans o_dx_bt g3
  have o_dx_pdx := Nat.lt_trans o_dx_gl g4
  have o_dx_px := Nat.lt_trans o_dx_pdx g5
  have o_dx_pb := Nat.lt_trans o_dx_px g6
  have o_x_hh := Nat.lt_trans l3 g1
  have o_x_bt := Nat.lt_trans o_x_hh g2
  have o_x_gl := Nat.lt_trans o_x_bt g3
  have o_x_pdx := Nat.lt_trans o_x_gl g4
  have o_x_px := Nat.lt_trans o_x_pdx g5
  have o_x_pb := Nat.lt_trans o_x_px g6
  have o_db_bt := Nat.lt_trans g1 g2
  have o_db_gl := Nat.lt_trans o_db_bt g3
  have o_db_pdx := Nat.lt_trans o_db_gl g4
  have o_db_px := Nat.lt_trans o_db_pdx g5
  have o_db_pb := Nat.lt_trans o_db_px g6
  have o_hh_gl := Nat.lt_trans g2 g3
  have o_hh_pdx := Nat.lt_trans o_hh_gl g4
  have o_hh_px := Nat.lt_trans o_hh_pdx g5
  have o_hh_pb := Nat.lt_trans o_hh_px g6
  have o_bt_pdx := Nat.lt_trans g3 g4
  have o_bt_px := Nat.lt_trans o_bt_pdx g5
  have o_bt_pb := Nat.lt_trans o_bt_px g6
  have o_gl_px := Nat.lt_trans g4 g5
  have o_gl_pb := Nat.lt_trans o_gl_px g6
  have o_pdx_pb := Nat.lt_trans g5 g6
  have own_ne : ∀ b, @LT.lt Nat _ dx b → ∀ q ∈ own, q.1 ≠ b := fun b hb q hq e => by
    have h : @LT.lt Nat _ q.1 dx := hlt q hq
    rw [e] at h
    exact Nat.lt_asymm h hb
  refine law_deeds (s := ⟨_, _, _, _, _⟩) hash hd hs hi hz hks hm I ⟨l1, l2, l3, g1, by omega, g5, g6⟩ hdb ?f1 ?f2 ?f3 ?f4 ?f5 B F4 X T N4 script_4 depth_4 mine_4 size_4 tree_4 nheld nproof hE hE2 hdp hun6 ?_
  case f1 => exact ownOff_cons (ne4 (by omega) (by omega) (by omega) (by omega)) (ownOff_cons (ne4 (by omega) (by omega) (by omega) (by omega)) (ownOff_lt hlt l2 l3 hoff))
  case f2 => exact ne_cons (by omega) (ne_cons (by omega) (own_ne hh (by omega)))
  case f3 => exact ne_cons (by omega) (ne_cons (by omega) (own_ne pdx (by omega)))
  case f4 => exact ne_cons (by omega) (ne_cons (by omega) (own_ne pb (by omega)))
  case f5 => exact sub_cons (sub_cons hH)
  intro n core' h5 me k5 hn I' F5 N5 A5
  have script_5 := (A5 _ rfl).trans script_4
  have law_hash_5 := (A5 _ rfl).trans law_hash_4
  have size_5 := (A5 _ rfl).trans size_4
  have depth_5 := (A5 _ rfl).trans depth_4
  have tree_5 := (A5 _ rfl).trans tree_4
  have mine_5 := (A5 _ rfl).trans mine_4
  have held_5 := (A5 _ rfl).trans nheld
  have proof_5 := (A5 _ rfl).trans nproof
  have given_5 := (A5 _ rfl).trans ngiven
  have first_5 := (A5 _ rfl).trans nfirst
  have name_5 := (A5 _ rfl).trans nname
  refine hideG fun hG => ?_
  obtain ⟨oT2, oD2, oH, kT2, kD2, kH, w62, u32, T2, leaf, vsB, rfl, DF⟩ := I'
  refine hG ?_
  clear hG
  have hTl : T2.length < 80000 := by have := DF.hTl; omega
  refine hideG fun hG => ?_
  obtain ⟨t9, hval⟩ := held_get DF.hHe hm DF.hne
  refine hG ?_
  clear hG
  have hin := DF.ht.nodes
  have N5' := news_sub (r := (tab, oT2) :: (hh, oH) :: (x, instObj 235 dx) :: (dx, trD w.params q1 q2 q3 q4 q5 q6 w1 w2 w3 w62 ks f db (hT T2 (node T2 leaf (8 * ks) 0))) :: (db, oD2) :: (px, instObj 132 pdx) :: (pdx, prD w.params tr1 tr2 tr3 tr4 tr5 tr6 u1 u2 u32 u5 (be ks mine) (leaf mine) ks pb f) :: (pb, lstObj vsB e) :: (gl, lstObj (vs1.set 0 (.bytes (List.toArray [116, 117, 114, 110, 101, 100]) tt)) e2) :: (bt, tupObj vs1) :: own) N5 (by show ∀ q ∈ _, q ∈ _ :: _ :: _ :: _ :: _ :: _ :: _ :: _ :: _ :: _ :: own; walk_at "MY mems")
  refine law_anew (s := ⟨_, _, _, _, _⟩) hash hd hks hm DF.hoT DF.hTR DF.hoH DF.hHe (by have := DF.hHz; omega) hin DF.hbl hTl DF.hlf hhs ?f1 ?f2 ?f3 (by omega) B F5 X T N5' law_hash_5 depth_5 mine_5 held_5 hdp hun ?_
  case f1 => exact ne_cons (by omega) (ne_cons (by omega) (ne_cons (by omega) (ne_cons (by omega) (ne_cons (by omega) (ne_cons (by omega) (ne_cons (by omega) (ne_cons (by omega) (hoff))))))))
  case f2 => exact ne_cons (by omega) (ne_cons (by omega) (ne_cons (by omega) (ne_cons (by omega) (ne_cons (by omega) (ne_cons (by omega) (ne_cons (by omega) (ne_cons (by omega) (own_ne hh (by omega)))))))))
  case f3 => exact sub_cons (sub_cons (sub_cons (sub_cons (sub_cons (sub_cons (sub_cons (sub_cons (hH))))))))
  intro bl bvs be9 bs vs2 tr oT3 kT3 h6 mf k6 hoT3 hTR3 hv2 hbvs F6 N6 hlbl hlbs c1 c2 c3 nblanks nbeside nroot A6
  have script_6 := (A6 _ rfl).trans script_5
  have law_hash_6 := (A6 _ rfl).trans law_hash_5
  have size_6 := (A6 _ rfl).trans size_5
  have depth_6 := (A6 _ rfl).trans depth_5
  have tree_6 := (A6 _ rfl).trans tree_5
  have mine_6 := (A6 _ rfl).trans mine_5
  have held_6 := (A6 _ rfl).trans held_5
  have proof_6 := (A6 _ rfl).trans proof_5
  have given_6 := (A6 _ rfl).trans given_5
  have first_6 := (A6 _ rfl).trans first_5
  have name_6 := (A6 _ rfl).trans name_5
  have bl_x : @LT.lt Nat _ x bl := hlbl _ (.head _)
  have bl_dx : @LT.lt Nat _ dx bl := hlbl _ (.tail _ (.head _))
  have bl_db : @LT.lt Nat _ db bl := hlbl _ (.tail _ (.tail _ (.head _)))
  have bl_px : @LT.lt Nat _ px bl := hlbl _ (.tail _ (.tail _ (.tail _ (.head _))))
  have bl_pdx : @LT.lt Nat _ pdx bl := hlbl _ (.tail _ (.tail _ (.tail _ (.tail _ (.head _)))))
  have bl_pb : @LT.lt Nat _ pb bl := hlbl _ (.tail _ (.tail _ (.tail _ (.tail _ (.tail _ (.head _))))))
  have bl_gl : @LT.lt Nat _ gl bl := hlbl _ (.tail _ (.tail _ (.tail _ (.tail _ (.tail _ (.tail _ (.head _)))))))
  have bl_bt : @LT.lt Nat _ bt bl := hlbl _ (.tail _ (.tail _ (.tail _ (.tail _ (.tail _ (.tail _ (.tail _ (.head _))))))))
  have N6' := news_sub (r := (tab, oT3) :: (x, instObj 235 dx) :: (dx, trD w.params q1 q2 q3 q4 q5 q6 w1 w2 w3 w62 ks f db (hT T2 (node T2 leaf (8 * ks) 0))) :: (db, oD2) :: (hh, oH) :: (px, instObj 132 pdx) :: (pdx, prD w.params tr1 tr2 tr3 tr4 tr5 tr6 u1 u2 u32 u5 (be ks mine) (leaf mine) ks pb f) :: (pb, lstObj vsB e) :: (bs, tupObj vs2) :: (bl, lstObj bvs be9) :: (gl, lstObj (vs1.set 0 (.bytes (List.toArray [116, 117, 114, 110, 101, 100]) tt)) e2) :: (bt, tupObj vs1) :: own) N6 (by walk_at "MY mems")
  refine law_checks (s := ⟨_, _, _, _, _⟩) (own := (bl, lstObj bvs be9) :: (gl, lstObj (vs1.set 0 (.bytes (List.toArray [116, 117, 114, 110, 101, 100]) tt)) e2) :: (bt, tupObj vs1) :: own) hash hd hks hm hoT3 hTR3 DF.hoD DF.ht DF.hoH hval hTl (DF.hlf _) DF.hne hdb DF.hB hv2 ?f1 ?f2 ⟨l1, l2, l3, g1, by omega, g5, g6, by omega⟩ B F6 X T N6' name_6 mine_6 held_6 tree_6 proof_6 nbeside nroot hdp hun ?_
  case f1 => exact ne_cons (by omega) (ne_cons (by omega) (ne_cons (by omega) (hoff)))
  case f2 => exact sub_cons (sub_cons (sub_cons (hH)))
  intro oT4 kT4 h7 k7 hoT4 hTR4 F7 N7
  have h2l : vs2.length = 8 * ks := by rw [hv2.1, sibs_length]
  have N7' := news_sub (r := (hh, oH) :: (bs, tupObj vs2) :: (tab, oT4) :: (px, instObj 132 pdx) :: (pdx, prD w.params tr1 tr2 tr3 tr4 tr5 tr6 u1 u2 u32 u5 (be ks mine) (leaf mine) ks pb f) :: (pb, lstObj vsB e) :: (bl, lstObj bvs be9) :: (gl, lstObj (vs1.set 0 (.bytes (List.toArray [116, 117, 114, 110, 101, 100]) tt)) e2) :: (bt, tupObj vs1) :: own) N7 (by walk_at "MY mems")
  refine law_value (s := ⟨_, _, _, _, _⟩) hd DF.hoH hval (by omega) B F7 X T N7' mine_6 held_6 nbeside hdp hun ?_
  intro br c h8 mg8 k8 F8 N8 hlbr b1 b2 nvalue nbranch A8
  have script_7 := (A8 _ rfl).trans script_6
  have law_hash_7 := (A8 _ rfl).trans law_hash_6
  have size_7 := (A8 _ rfl).trans size_6
  have depth_7 := (A8 _ rfl).trans depth_6
  have tree_7 := (A8 _ rfl).trans tree_6
  have mine_7 := (A8 _ rfl).trans mine_6
  have held_7 := (A8 _ rfl).trans held_6
  have proof_7 := (A8 _ rfl).trans proof_6
  have given_7 := (A8 _ rfl).trans given_6
  have first_7 := (A8 _ rfl).trans first_6
  have name_7 := (A8 _ rfl).trans name_6
  have blanks_7 := (A8 _ rfl).trans nblanks
  have beside_7 := (A8 _ rfl).trans nbeside
  have root_7 := (A8 _ rfl).trans nroot
  refine hideG fun hG => ?_
  obtain ⟨tb, hb0⟩ := hbvs 0 (Nat.zero_le _)
  refine hG ?_
  clear hG
  have br_tab : @LT.lt Nat _ tab br := hlbr _ (.head _)
  have br_px : @LT.lt Nat _ px br := hlbr _ (.tail _ (.head _))
  have br_pdx : @LT.lt Nat _ pdx br := hlbr _ (.tail _ (.tail _ (.head _)))
  have br_pb : @LT.lt Nat _ pb br := hlbr _ (.tail _ (.tail _ (.tail _ (.head _))))
  have br_bl : @LT.lt Nat _ bl br := hlbr _ (.tail _ (.tail _ (.tail _ (.tail _ (.head _)))))
  have br_gl : @LT.lt Nat _ gl br := hlbr _ (.tail _ (.tail _ (.tail _ (.tail _ (.tail _ (.head _))))))
  have br_bt : @LT.lt Nat _ bt br := hlbr _ (.tail _ (.tail _ (.tail _ (.tail _ (.tail _ (.tail _ (.head _)))))))
  have own_br : ∀ q ∈ own, q.1 ≠ br := fun q hq => Nat.ne_of_lt (hlbr q (.tail _ (.tail _ (.tail _ (.tail _ (.tail _ (.tail _ (.tail _ (hq)))))))))
  have N8' := news_sub (r := (br, lstObj vs2 c) :: (hh, oH) :: (bl, lstObj bvs be9) :: (bs, tupObj vs2) :: (tab, oT4) :: (px, instObj 132 pdx) :: (pdx, prD w.params tr1 tr2 tr3 tr4 tr5 tr6 u1 u2 u32 u5 (be ks mine) (leaf mine) ks pb f) :: (pb, lstObj vsB e) :: (gl, lstObj (vs1.set 0 (.bytes (List.toArray [116, 117, 114, 110, 101, 100]) tt)) e2) :: (bt, tupObj vs1) :: own) N8 (by walk_at "MY mems")
  refine law_choice (s := ⟨_, _, _, _, _⟩) hd hs hi hz hks (hT_length _ _) hb0 (hT_length _ _) DF.hoH hval (DF.hlf _) hv2 (sibs_length _ _ _ _) sibs_len32 B F8 X T N8' ?f1 (by omega) (by omega) (by omega) script_7 depth_7 nbranch beside_7 blanks_7 root_7 mine_7 held_7 nvalue hdp hun ?_
  case f1 => exact ne_cons (by omega) (ne_cons (by omega) (ne_cons (by omega) (ne_cons (by omega) (ne_cons (by omega) (ne_cons (by omega) (own_br))))))
  intro v tv vsC lC h10 mh k10 hvl hC hCl hC32 F10 N10 nvalue2 A10
  have script_8 := (A10 _ rfl).trans script_7
  have law_hash_8 := (A10 _ rfl).trans law_hash_7
  have size_8 := (A10 _ rfl).trans size_7
  have depth_8 := (A10 _ rfl).trans depth_7
  have tree_8 := (A10 _ rfl).trans tree_7
  have mine_8 := (A10 _ rfl).trans mine_7
  have held_8 := (A10 _ rfl).trans held_7
  have proof_8 := (A10 _ rfl).trans proof_7
  have given_8 := (A10 _ rfl).trans given_7
  have first_8 := (A10 _ rfl).trans first_7
  have name_8 := (A10 _ rfl).trans name_7
  have blanks_8 := (A10 _ rfl).trans blanks_7
  have beside_8 := (A10 _ rfl).trans beside_7
  have root_8 := (A10 _ rfl).trans root_7
  have branch_8 := (A10 _ rfl).trans nbranch
  have N10' := news_sub (r := (tab, oT4) :: (br, lstObj vsC c) :: (hh, oH) :: (bs, tupObj vs2) :: (px, instObj 132 pdx) :: (pdx, prD w.params tr1 tr2 tr3 tr4 tr5 tr6 u1 u2 u32 u5 (be ks mine) (leaf mine) ks pb f) :: (pb, lstObj vsB e) :: (gl, lstObj (vs1.set 0 (.bytes (List.toArray [116, 117, 114, 110, 101, 100]) tt)) e2) :: (bt, tupObj vs1) :: own) N10 (by walk_at "MY mems")
  refine law_calc (s := ⟨_, _, _, _, _⟩) hash hd hks hm hoT4 hTR4 hin hTl DF.hoH hval hvl hv2 hC hCl hC32 ?f1 ?f2 ?f3 ⟨by omega, by omega, by omega⟩ B F10 X T N10' law_hash_8 name_8 branch_8 beside_8 root_8 mine_8 held_8 nvalue2 hdp hun ?_
  case f1 => exact ne_cons (by omega) (ne_cons (by omega) (ne_cons (by omega) (ne_cons (by omega) (ne_cons (by omega) (hoff)))))
  case f2 => exact ne_cons (by omega) (ne_cons (by omega) (ne_cons (by omega) (ne_cons (by omega) (ne_cons (by omega) (own_br)))))
  case f3 => exact sub_cons (sub_cons (sub_cons (sub_cons (sub_cons (hH)))))
  intro h11 k11 F11 N11
  have N11' := news_sub (r := (px, instObj 132 pdx) :: (pdx, prD w.params tr1 tr2 tr3 tr4 tr5 tr6 u1 u2 u32 u5 (be ks mine) (leaf mine) ks pb f) :: (pb, lstObj vsB e) :: (hh, oH) :: (bs, tupObj vs2) :: (gl, lstObj (vs1.set 0 (.bytes (List.toArray [116, 117, 114, 110, 101, 100]) tt)) e2) :: (bt, tupObj vs1) :: (br, lstObj vsC c) :: own) N11 (by walk_at "MY mems")
  refine law_wrong (s := ⟨_, _, _, _, _⟩) hd hks hm B F11 X T N11' hE hE2 name_8 beside_8 nvalue2 proof_8 hdp hun ?_
  intro t12 h12 mi k12 F12 N12 nrefused A12
  have script_9 := (A12 _ rfl).trans script_8
  have law_hash_9 := (A12 _ rfl).trans law_hash_8
  have size_9 := (A12 _ rfl).trans size_8
  have depth_9 := (A12 _ rfl).trans depth_8
  have tree_9 := (A12 _ rfl).trans tree_8
  have mine_9 := (A12 _ rfl).trans mine_8
  have held_9 := (A12 _ rfl).trans held_8
  have proof_9 := (A12 _ rfl).trans proof_8
  have given_9 := (A12 _ rfl).trans given_8
  have first_9 := (A12 _ rfl).trans first_8
  have name_9 := (A12 _ rfl).trans name_8
  have blanks_9 := (A12 _ rfl).trans blanks_8
  have beside_9 := (A12 _ rfl).trans beside_8
  have root_9 := (A12 _ rfl).trans root_8
  have branch_9 := (A12 _ rfl).trans branch_8
  have value_9 := (A12 _ rfl).trans nvalue2
  refine law_own (s := ⟨_, _, _, _, _⟩) hd hks hm DF.hB (by rw [DF.hB.1, sibs_length]) hv2 hv1 hl1 DF.hoH hval B F12 X T N12 mine_9 held_9 beside_9 proof_9 given_9 first_9 hdp hun ?_
  intro h13 k13 F13 N13
  refine law_last (s := ⟨_, _, _, _, _⟩) hd hks hm (by rw [hC.1, hCl]) B F13 X T N13 hE hE2 name_9 value_9 branch_9 law_hash_9 nrefused hdp hun ?_
  intro h14 mj k14 F14 N14
  exact ret _ _ _ F14 N14
end
end
section
local macro_rules | `(tactic| omega) => `(tactic| first | walk_at "MY om" | omega +splitDisjunctions)
local macro_rules | `(tactic| walk_at "execs cons") => `(tactic| exists st28)
theorem law_holds : PySem.Challenge.rw_lh0065_01.Holds := Mine.hd (by
  k_go0
  all_goals try k_fold
  k_steps
  refine go_ ?_
  rename News _ _ _ _ => N8
  rename Fr _ _ _ _ => F8
  rename World => w
  rename IntsAre _ _ => hi
  rename Below _ _ _ _ => B
  rename Frag.In _ _ => X
  have hlaw : lawFd w.params = some _ := rfl
  rename_i tab h3 oT hlo hs1 fs1 hi1 fi1 l1 h2 oce dce f c oc vs9 t9 ct dc h1 tk d1 d2 l2 l3 h0
  refine wpAny_mono (?_ : wpAny _ _ _ _ (fun _ _ => False) _) (fun _ _ h => h) (fun _ _ h => h.elim)
  have hash := fun p loose mean mg mb doc pm ctv ce => hash_spec (ce := ce) (w := w) (p := p) (loose := loose) (mean := mean) (mg := mg) (mb := mb) (f := f) (c' := c) (tab := tab) (doc := doc) (pm := pm) (ctv := ctv) rfl d1 d2 dce hlo
  have N9 : News _ _ _ [(tab, oT), (f, _), (c, oc), (_, oce), (261, _)] := news_sub N8 (by walk_at "MY mems")
  refine law_main (s := ⟨_, _, _, _, _⟩) (d0 := 1 + claimMargin) (u0 := 4) (gd := some []) (outer := []) (hash _ _ _ _ _ _ _ _ _) hlaw lifted hi (by with_reducible assumption) (dict_empty hi1) ⟨rfl, fun i x v h => by simp at h⟩ ?f1 (by walk_at "MY mems") B F8 X (by with_reducible assumption) N9 rfl rfl PassesOwn.never (fun _ => PassesOwnAt.never) (by decide) (by decide) ?_
  · k_all
  · intro h' m' tk' F9 N9
    k_steps
    done)
end
theorem flush28 : True := by first | walk1 | trivial
end Mine

theorem PySem.Challenge.cw_lh0065_01_holds : PySem.Challenge.rw_lh0065_01.Holds := by
  exact Mine.law_holds
